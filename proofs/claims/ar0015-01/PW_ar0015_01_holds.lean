import PyProof.Rows.All
import KE.KDictSum
import KE.KEqDict
import KE.KSortTup
import Wide.FinOn
import OpenK.AllK
import Wide.All
import Lean
import PySem.Challenge.RW_ar0015_01
set_option Elab.async false
set_option tactic.hygienic false
set_option linter.all false
set_option maxRecDepth 100000
set_option maxHeartbeats 0
set_option genSizeOf false
set_option genInjectivity false
set_option compiler.extract_closed false
namespace Mine
theorem gG {p : Prop} (h : ¬ p → False) : p := Classical.byContradiction h
section
set_option linter.all false
set_option tactic.hygienic false
section
variable {a b c d e f g h k l m n o p q r : Nat} {x y z u v w : Int}
theorem q0:a≤b→min a b=a:=by lia -abstractProof
theorem q1:a+3*(b+1)<900→a<1000:=by lia -abstractProof
theorem q2:a+3*(b+1)<900→a+1+3*b<900:=by lia -abstractProof
theorem q3:a+30*(b+1)<9000→a+3+30*b<9000:=by lia -abstractProof
theorem q4:a+30*b<9000→a<9900:=by lia -abstractProof
theorem q5:a≤50→b+30*c<9000→b+min a d<9900:=by lia -abstractProof
theorem q6:a≤1000000→¬(a:Int)=2147483648:=by lia -abstractProof
theorem q7:a≤1000000→¬2147483648<(a:Int)*2:=by lia -abstractProof
theorem q8:((a:Int)*2==0)=true→a=0:=by lia -abstractProof
theorem q9:((a:Int)*2==0)=true→a≤1:=by lia -abstractProof
theorem q10:((a:Int)*2==0)=true→1-(a:Int)=(↑(1-a) : Int):=by lia -abstractProof
theorem q11:((a:Int)*2==0)=true→a=1-(1-a):=by lia -abstractProof
theorem q12:((a:Int)*2==0)=true→min (1-a) 1+a=1:=by lia -abstractProof
theorem q13:(a:Int)*2≠0→a=0→False:=by lia -abstractProof
theorem q14:a≤1000000→b=2*a→(b:Int)≤16777216:=by lia -abstractProof
theorem q15:a=2*b→(a:Int)-(b:Int)=(↑(a-b) : Int):=by lia -abstractProof
theorem q16:a≤1000000→b=2*a→(b:Int).toNat≤16777216:=by lia -abstractProof
theorem q17:a=2*b→b=a-(a-b):=by lia -abstractProof
theorem q18:a=2*b→min (a-b) a+b=a:=by lia -abstractProof
theorem q19:-1048576≤(a:Int):=by lia -abstractProof
theorem q20:a+b≤1000000→c≤a→(c:Int)≤1048576:=by lia -abstractProof
theorem q21:a≤b→(b:Int)-(a:Int)=(↑(b-a) : Int):=by lia -abstractProof
theorem q22:a≤a+b+c:=by lia -abstractProof
theorem q23:a≤b→a=b-(b-a):=by lia -abstractProof
theorem q24:a=b%256%256→c*256+a=c*256+b%256:=by lia -abstractProof
theorem q25:a/256%b*256+a%256=a%256+256*(a/256%b):=by lia -abstractProof
theorem q26:0≤x→x<y→(a:Int)=y→x.toNat<a:=by lia -abstractProof
theorem q27:0≤x→(↑x.toNat : Int)=x:=by lia -abstractProof
theorem q28:a=b→c+b≤c+(a+d):=by lia -abstractProof
theorem q29:a+b≤c→min a c=a:=by lia -abstractProof
theorem q30:(a:Int)+(b:Int)=(↑(a+b) : Int):=by lia -abstractProof
theorem q31:a+b≤c→min (a+b) c=a+b:=by lia -abstractProof
theorem q32:a+b≤c→(a:Int)+(b:Int)≤(c:Int):=by lia -abstractProof
theorem q33:(a:Int)+4=(↑(a+4) : Int):=by lia -abstractProof
theorem q34:a+8≤b→a+4+4≤b:=by omega
theorem q35:a≤100000→a≤16777216:=by lia -abstractProof
theorem q36:(a:Int)+4+4=(↑(a+8) : Int):=by lia -abstractProof
theorem q37:a+12≤b→a+8+4≤b:=by omega
theorem q38:12≤a→0+12≤a:=by omega
theorem q39:a≤100000→(a:Int)≤2^32-1:=by lia -abstractProof
theorem q40:a≤100000→b+c≤a→(b:Int)≤2^32-1:=by lia -abstractProof
theorem q41:decide ((a:Int)<(b:Int))=true→a<b:=by lia -abstractProof
theorem q42:decide ((a:Int)<(b:Int))=false→¬a<b:=by lia -abstractProof
theorem q43:a≤100000→b+c+4+d≤a→(b:Int)≤2^32-1:=by lia -abstractProof
theorem q44:(↑(a+b) : Int)+4=(↑(a+b+4) : Int):=by lia -abstractProof
theorem q45:a≤100000→b+c+d≤a→(c:Int)≤2^32-1:=by lia -abstractProof
theorem q46:(a:Int)+(b:Int)=(↑(b+a) : Int):=by lia -abstractProof
theorem q47:(↑(a+b) : Int)+(c:Int)=(↑(a+b+c) : Int):=by lia -abstractProof
theorem q48:0≤(a:Int):=by lia -abstractProof
theorem q49:(↑(a+b) : Int)+(c:Int)+4=(↑(a+b+c+4) : Int):=by lia -abstractProof
theorem q50:a≤1000→(a:Int)≤65535:=by lia -abstractProof
theorem q51:((a:Int)==0)=true→a=0:=by lia -abstractProof
theorem q52:a+1+b=a+(b+1):=by lia -abstractProof
theorem q53:0+a=a:=by lia -abstractProof
theorem q54:0<x→x≠0:=by lia -abstractProof
theorem q55:0≤x→x=(↑x.toNat : Int):=by lia -abstractProof
theorem q56:x<y→x=(a:Int)→(a:Int)<y:=by lia -abstractProof
theorem q57:(a:Int)<3→a<100000:=by lia -abstractProof
theorem q58:(a:Int)<4→a<4:=by lia -abstractProof
theorem q59:(a:Int)<4→(a:Int)<2^40:=by lia -abstractProof
theorem q60:(a:Int)<3→b<a→b+1≤1000:=by lia -abstractProof
theorem q61:(a:Int)<3→b=a→b≤2:=by lia -abstractProof
theorem q62:a≤a+b+(b-1):=by lia -abstractProof
theorem q63:a≤b→a≤c+b:=by lia -abstractProof
theorem q64:a<b+c→c+a≤b+c+(c-1):=by lia -abstractProof
theorem q65:a+b≤a+b:=by lia -abstractProof
theorem q66:a+b+c≤4096→a+(b+c)≤4096:=by lia -abstractProof
theorem q67:a≤4000→(↑(4+(4+a)) : Int)<2^31:=by lia -abstractProof
theorem q68:a≤4000→(↑(4+a-b+4) : Int)<2^32:=by omega
theorem q69:4+(4+(4+a))=12+a:=by lia -abstractProof
theorem q70:a≤b+c+(c-1)→c≤4→a≤b+7:=by lia -abstractProof
theorem q71:a≤2000→b<a+4→(↑(b-c+4) : Int)<2^32:=by lia -abstractProof
theorem q72:a≤b→c=4+b→a+4≤c:=by lia -abstractProof
theorem q73:a<b+4→c=4+a→c<b+8:=by lia -abstractProof
theorem q74:a≤16→(a:Int)<2^32:=by lia -abstractProof
theorem q75:a≤16→b<0+4→4+(a+(b+1))=4+(a+(b+1))∧4<4+(a+(b+1))∧4+(a+(b+1))≤40:=by lia -abstractProof
theorem q76:a≤1960→b<a+4→4+b<3000:=by lia -abstractProof
theorem q77:a≤b→c≤a→c≤4+b:=by lia -abstractProof
theorem q78:a≤3→b≤a→(↑(4+2*b) : Int)<2^31:=by lia -abstractProof
theorem q79:a≤3→b<c+4→d≤a→4+2*d+(4+b)=4+2*d+(4+b)∧4+2*d+(4+b)≤c+17:=by lia -abstractProof
theorem q80:a+4+b≤4096→c=4+b→a+c≤4096:=by lia -abstractProof
theorem q81:a+b+(4+c)≤4096→b+(4+c)=d→a+d≤4096:=by lia -abstractProof
theorem q82:a+(4+b)=c→4+b≤c:=by lia -abstractProof
theorem q83:a≤1950→b<a+4→b≤4000:=by lia -abstractProof
theorem q84:a<b+4→12+a≤b+15:=by lia -abstractProof
theorem q85:a≤16→0+a≤900:=by lia -abstractProof
theorem q86:a≤40→b≤a+7→b≤1980:=by lia -abstractProof
theorem q87:a<4→(a:Int)<2^8:=by lia -abstractProof
theorem q88:a≤40→b≤a+7→c<b+8→c≤1980:=by lia -abstractProof
theorem q89:a≤b→b+4≤c→c≤d→e≤d→f=e∨f=c∨f=a→f≤d:=by lia -abstractProof
theorem q90:a≤b→b+4≤c→c≤d→a≤d:=by lia -abstractProof
theorem q91:a≤40→b≤a+7→c<b+8→d≤c+7→d≤1960:=by lia -abstractProof
theorem q92:a≤40→b≤a+7→c<b+8→d≤c+7→e≤d+17→e≤1950:=by lia -abstractProof
theorem q93:a≤40→b≤a+7→c<b+8→d≤c+7→e≤d+17→f≤e+15→f≤16777216:=by lia -abstractProof
theorem q94:a≤40→b≤a+7→c<b+8→d≤c+7→e≤d+17→f≤e+15→f≤300:=by lia -abstractProof
theorem q95:a+b≤c→a+b≤c+d:=by lia -abstractProof
theorem q96:a+b≤c→a≤c:=by lia -abstractProof
theorem q97:a+b≤c→b≤c-a:=by lia -abstractProof
theorem q98:min a (a+b)=a:=by lia -abstractProof
theorem q99:a<4→(a:Int)<4:=by lia -abstractProof
theorem q100:¬a<4→¬(a:Int)<4:=by lia -abstractProof
theorem q101:(a:Int)<4+x→(a:Int)<4+x:=by omega
theorem q102:a+b≤100000→a≤100000:=by lia -abstractProof
theorem q103:12≤a→b=a+c→¬(b:Int)<4:=by lia -abstractProof
theorem q104:12≤a→b=a+c→¬(b:Int)<4+(↑(a-4) : Int):=by lia -abstractProof
theorem q105:12≤a→4+(↑(a-4) : Int)=(a:Int):=by lia -abstractProof
theorem q106:12≤a→4+8≤a:=by omega
theorem q107:4+(a:Int)=(↑(4+a) : Int):=by lia -abstractProof
theorem q108:a+b≤c→c≤100000→min b d≤1000000:=by lia -abstractProof
theorem q109:a≤100000→b+c≤a→c≤1000000:=by lia -abstractProof
theorem q110:a≤1000→b<a → -2^40<(b:Int)∧(b:Int)<2^40:=by lia -abstractProof
theorem q111:a≤b→(b:Int)+4*(c:Int)-(a:Int)=(↑(b+4*c-a) : Int):=by lia -abstractProof
theorem q112:a≤b→a≤b+4*c:=by lia -abstractProof
theorem q113:a≤1000→min b a≤1000000:=by lia -abstractProof
theorem q114:a-b≤a-b:=by lia -abstractProof
theorem q115:a≤b+c→a-b≤c:=by omega
theorem q116:a≤100000→b≤a→b≤16777216:=by lia -abstractProof
theorem q117:a≤100000→b≤a→b≤1000000:=by lia -abstractProof
theorem q118:1+(a:Int)=(↑(1+a) : Int):=by lia -abstractProof
theorem q119:(a:Int)+(↑(1+b) : Int)=(↑(a+(1+b)) : Int):=by lia -abstractProof
theorem q120:a≤b→a+(0+1)≤b+(1+c):=by lia -abstractProof
theorem q121:decide ((a:Int)<(b:Int))=false→b≤a:=by lia -abstractProof
theorem q122:(a:Int)≤x→¬(a:Int)>x:=by lia -abstractProof
theorem q123:(↑(a+b) : Int)-(a:Int)+(c:Int)=(↑(b+c) : Int):=by lia -abstractProof
theorem q124:a=0→b+c≤d→¬(d:Int)<(↑(a+b+c) : Int):=by lia -abstractProof
theorem q125:a=0→a≤b:=by lia -abstractProof
theorem q126:a=0→a<8:=by lia -abstractProof
theorem q127:a+0=b→a=b:=by omega
theorem q128:a%4=0→(a+0)%4=0:=by omega
theorem q129:4≤a→4+0≤a:=by omega
theorem q130:a+b≤4096→c=a→c+b≤1000000:=by lia -abstractProof
theorem q131:a≤b→(a:Int)≤(b:Int):=by lia -abstractProof
theorem q132:a≤b→(b:Int)-(a:Int)+4=(↑(b-a+4) : Int):=by lia -abstractProof
theorem q133:a+b≤4096→(↑(b-c+4) : Int)<2^32:=by lia -abstractProof
theorem q134:4≤a→b=a→4≤b:=by lia -abstractProof
theorem q135:a=b→c+4=a→c+4=b:=by lia -abstractProof
theorem q136:¬a<b→b≤a:=by lia -abstractProof
theorem q137:¬a<b→b≤a+1:=by lia -abstractProof
theorem q138:a≤23*b→a≤23*(b+1):=by lia -abstractProof
theorem q139:a<b→a+1+(b-(a+1))≤b:=by omega
theorem q140:a<b→a+1+(b-(a+1))=b:=by omega
theorem q141:a≤100000→b<a+4→(↑(b-c+4) : Int)<2^32:=by lia -abstractProof
theorem q142:a%4=0→b=a+4*c→b%4=0:=by lia -abstractProof
theorem q143:a≤1000→b≤10→c=a+4*b→(↑(c-d+4) : Int)<2^32:=by lia -abstractProof
theorem q144:4+(a+4*b)=a+4*(b+1):=by lia -abstractProof
theorem q145:4≤a→0<a:=by lia -abstractProof
theorem q146:a≤160→b<a+8→b≤1980:=by lia -abstractProof
theorem q147:a≤160→b<a+8→c≤b+7→c≤1980:=by lia -abstractProof
theorem q148:a≤b→c≤b→b≤d→e≤d→f=a∨f=c∨f=e→f≤d:=by lia -abstractProof
theorem q149:a+4≤b→b≤c→c≤d→a≤d:=by lia -abstractProof
theorem q150:a≤160→b<a+8→c≤b+7→d≤c+7→d≤1960:=by lia -abstractProof
theorem q151:a≤160→b<a+8→c≤b+7→d≤c+7→e≤d+17→e≤1950:=by lia -abstractProof
theorem q152:a≤160→b<a+8→c≤b+7→d≤c+7→e≤d+17→f≤e+15→f≤16777216:=by lia -abstractProof
theorem q153:a≤160→b<a+8→c≤b+7→d≤c+7→e≤d+17→f≤e+15→f≤600:=by lia -abstractProof
theorem q154:a≤4→b<a→c≤16→d≤23*b→d+c≤1900:=by lia -abstractProof
theorem q155:a≤4→min b a≤1000000:=by lia -abstractProof
theorem q156:a≤4→b≤23*a→b+4*a≤1900:=by lia -abstractProof
theorem q157:(a+b+4*c)%4=0→(a+b)%4=0:=by lia -abstractProof
theorem q158:a≤4→b≤23*a→c<b+4→c≤1000:=by lia -abstractProof
theorem q159:a≤4→a-(a-b)≤10:=by lia -abstractProof
theorem q160:a<b→b-1-a<b:=by omega
theorem q161:a-(b+1)=a-1-b:=by lia -abstractProof
theorem q162:a<b→b-1-a+1=b-a:=by lia -abstractProof
theorem q163:a%4=0→b=a+4*(c-(c-d))→b%4=0:=by lia -abstractProof
theorem q164:4+4*a≤b→c+4*d=b→d<a→4≤c:=by lia -abstractProof
theorem q165:a+b≤4096→c+4*d=a→e=b+4*(f-(f-d))→c+e≤4096:=by lia -abstractProof
theorem q166:a≤b→c=b+4*(d-(d-e))→f≤a→f≤c:=by lia -abstractProof
theorem q167:a+4*b=c→d+4=a→d+4*(b+1)=c:=by lia -abstractProof
theorem q168:a+b≤4096→c+4*d=a→e=b+4*(d-0)→c+e≤4096:=by lia -abstractProof
theorem q169:4+4*a≤b→c+4*a=b→4≤c:=by lia -abstractProof
theorem q170:a≤4→(a:Int)<2^32:=by lia -abstractProof
theorem q171:a+b≤4096→c+4*d=a→e=b+4*(d-0)→f+4=c→4+e=g→f+g≤4096:=by lia -abstractProof
theorem q172:a≤4→b≤23*a→c<b+4→d=c+4*(a-0)→4+d=e→e≤160∧4≤e:=by lia -abstractProof
theorem q173:a≤b→a+1≤b+1:=by lia -abstractProof
theorem q174:a≤b→a≤b+1:=by lia -abstractProof
theorem q175:a<min b c→a<c:=by lia -abstractProof
theorem q176:a<min b c→a=b→False:=by lia -abstractProof
theorem q177:a≤4→b≤min c a→b≤100000:=by lia -abstractProof
theorem q178:a≤4→b≤300*a→b≤100000:=by lia -abstractProof
theorem q179:a≤4→b≤300*a→c+d≤b∧e≤b→c+d≤16777216:=by lia -abstractProof
theorem q180:a≤4→b≤300*a→c+d≤b∧e≤b→d≤16777216:=by lia -abstractProof
theorem q181:a≤4→b≤300*a→b≤90000:=by lia -abstractProof
theorem q182:a≤4→b=a→min c b≤16777216:=by lia -abstractProof
theorem q183:a≤4→b=a→c≤min d e→e=b→c≤1000000:=by lia -abstractProof
theorem q184:a≤4→b=a→c≤d→d=b→c≤16777216:=by lia -abstractProof
theorem q185:a=b→c=b→d≤c→d≤a:=by lia -abstractProof
theorem q186:a≤4→b<a→min b c≤4:=by lia -abstractProof
theorem q187:a=b→c=a→d<b→d≤c:=by lia -abstractProof
theorem q188:a≤4→b≤300*a→c+d≤b∧e≤b→c≤100000:=by lia -abstractProof
theorem q189:4+a≤100000→4+a≤100000:=by omega
theorem q190:a≤4→b<a→min b c≤1000000:=by lia -abstractProof
theorem q191:a≤4→b<a→c≤600*b→d≤600→c+d≤16777216:=by lia -abstractProof
theorem q192:a<b→b-(a+1)<b-a:=by omega
theorem q193:a=b→c=a→c=b:=by lia -abstractProof
theorem q194:a=b→a≤b:=by lia -abstractProof
theorem q195:a≤4→b=a→c=b→c≤4:=by lia -abstractProof
theorem q196:a≤0→12≤a→False:=by lia -abstractProof
theorem q197:a≤b→a=c+d→d≤b:=by lia -abstractProof
theorem q198:a≤4→b≤600*a→b≤100000:=by lia -abstractProof
theorem q199:a≤4→b≤600*a→c+d≤b∧e≤b→c+d≤16777216:=by lia -abstractProof
theorem q200:a≤4→b≤600*a→b≤90000:=by lia -abstractProof
theorem q201:a≤4→b≤600*a→c+d≤b∧e≤b→c≤100000:=by lia -abstractProof
theorem q202:0<a→(a:Int)≠0:=by lia -abstractProof
theorem q203:0<a→0<(a:Int):=by lia -abstractProof
theorem q204:0<a → -(b:Int)%(a:Int)<(a:Int)→(-(b:Int)%(a:Int)).toNat<a:=by omega
theorem q205:-(a:Int)-1+1 = -(a:Int):=by lia -abstractProof
theorem q206:0=(↑(-(a:Int)%(1:Int)).toNat : Int):=by lia -abstractProof
theorem q207:-(a:Int)%2=(↑(-(a:Int)%(2:Int)).toNat : Int):=by lia -abstractProof
theorem q208:-(a:Int)%4=(↑(-(a:Int)%(4:Int)).toNat : Int):=by lia -abstractProof
theorem q209:(4:Int)=4:=by lia -abstractProof
theorem q210:4=4:=by lia -abstractProof
theorem q211:(-(↑((-(↑(a+b) : Int)%(1:Int)).toNat+a+b) : Int)%(1:Int)).toNat=0:=by lia -abstractProof
theorem q212:(-(↑((-(↑(a+b) : Int)%(2:Int)).toNat+a+b) : Int)%(2:Int)).toNat=0:=by lia -abstractProof
theorem q213:(-(↑((-(↑(a+b) : Int)%(4:Int)).toNat+a+b) : Int)%(4:Int)).toNat=0:=by lia -abstractProof
theorem q214:((-(↑(a+b) : Int)%(1:Int)).toNat+a+b)%1=0:=by lia -abstractProof
theorem q215:((-(↑(a+b) : Int)%(2:Int)).toNat+a+b)%2=0:=by lia -abstractProof
theorem q216:((-(↑(a+b) : Int)%(4:Int)).toNat+a+b)%4=0:=by lia -abstractProof
theorem q217:a=b→(↑(c+a) : Int)-(c:Int)=(b:Int):=by lia -abstractProof
theorem q218:a<b→a+c<c+b:=by lia -abstractProof
theorem q219:a=1∨a=2∨a=4→0<a:=by lia -abstractProof
theorem q220:a+(b+c)≤4096∧b+c<a+(b+c)→a+(b+c)≤16777216:=by lia -abstractProof
theorem q221:(a:Int)+((↑(b+(a+c)) : Int)-(↑(a+c) : Int))=(↑(b+a) : Int):=by lia -abstractProof
theorem q222:a+(b+c)≤4096∧b+c<a+(b+c)→5000-(a+(b+c))<5000-(b+c):=by omega
theorem q223:a+(b+c)≤4096∧b+c<a+(b+c)→a+b+c≤4096:=by lia -abstractProof
theorem q224:a+b≤4096→a+b≤1000000:=by lia -abstractProof
theorem q225:decide ((a:Int)<(↑(b+c+d) : Int))=false→b≤a:=by lia -abstractProof
theorem q226:a=1∨a=2∨a=4→b<a→b<8:=by lia -abstractProof
theorem q227:decide ((a:Int)<(↑(b+c+d) : Int))=false→e+b=a→c+d≤e:=by lia -abstractProof
theorem q228:a+b≤4096→c+d=a→c+(d+b)≤4096:=by lia -abstractProof
theorem q229:a≤63→min (b-c) (a-c)≤1000:=by lia -abstractProof
theorem q230:a≤63→a≤1000000:=by lia -abstractProof
theorem q231:(a:Int)<3→(a:Int)<2^40:=by lia -abstractProof
theorem q232:(a:Int)<4→1+a<100000:=by lia -abstractProof
theorem q233:a≤2→b≤4*a→b≤1000000:=by lia -abstractProof
theorem q234:(a:Int)<4→b<1+a→c=b→c≤4:=by lia -abstractProof
theorem q235:(a:Int)<4→b<1+a→c=b→c≤1000000:=by lia -abstractProof
theorem q236:a≤2→b≤4*a→b≤16:=by lia -abstractProof
theorem q237:x=(a:Int)*70000-140000 → -2^31≤x:=by lia -abstractProof
theorem q238:(a:Int)<5→x=(a:Int)*70000-140000→x<2^31:=by lia -abstractProof
theorem q239:(a:Int)<4→b<1+a→c≤300*b→d≤300→c+d≤16777216:=by lia -abstractProof
theorem q240:(a:Int)<4→b<1+a→b≤1000000:=by lia -abstractProof
theorem q241:(a:Int)<4→b=1+a→b≤4:=by lia -abstractProof
theorem q242:a+b=c→a≤c:=by lia -abstractProof
theorem q243:(a:Int)-(b:Int)=(↑(a-b) : Int)→a-b+b≤a+c:=by lia -abstractProof
theorem q244:(↑(a-b) : Int)=(↑(min (a-b) a) : Int):=by lia -abstractProof
theorem q245:(a:Int)-(b:Int)=(↑(a-b) : Int)→min (a-b) a+b=a:=by lia -abstractProof
theorem q246:x<2^31→x≤2^31-1:=by lia -abstractProof
theorem q247:4≤a→(a:Int)-4=(↑(a-4) : Int):=by omega
theorem q248:(a:Int)-4=(↑(a-4) : Int)→a-4+4≤a+b:=by lia -abstractProof
theorem q249:(↑(a-4) : Int)=(↑(min (a-4) a) : Int):=by lia -abstractProof
theorem q250:(a:Int)-4=(↑(a-4) : Int)→min (a-4) a+4=a:=by lia -abstractProof
theorem q251:x<2^32→x≤2^32-1:=by lia -abstractProof
theorem q252:a+b≤1000000→a+b≤16777216:=by lia -abstractProof
theorem q253:a+b≤4096→a+b≤4096:=by omega
theorem q254:a≤1990→b<a+4→(↑(b-c+4) : Int)<2^31:=by lia -abstractProof
theorem q255:4+0≤a→4≤a:=by omega
theorem q256:a+b≤4096→c+4=a→c+4+b≤4096:=by lia -abstractProof
theorem q257:a≤1990→a+0≤2000:=by lia -abstractProof
theorem q258:a≤1990→b<a+4→(↑(b-c+4) : Int)<2^32:=by lia -abstractProof
theorem q259:a+0≤b→a≤b:=by omega
theorem q260:a+b≤4096→c+d=a→c+d+b≤4096:=by lia -abstractProof
theorem q261:x<2^16→x≤65535:=by lia -abstractProof
theorem q262:-2^40<(a:Int):=by lia -abstractProof
theorem q263:a+4*b≤1900→(b:Int)<2^40:=by lia -abstractProof
theorem q264:a+4*b≤1900→c<a+4→c+4*b≤2000:=by lia -abstractProof
theorem q265:4+4*a≤b→4+4*a≤b:=by omega
theorem q266:a<2^32→(a:Int)<2^32:=by lia -abstractProof
theorem q267:a+b≤4096→c+4=a→c+(4+b)≤1000000:=by lia -abstractProof
theorem q268:a+b≤1900→b≤16777216:=by lia -abstractProof
theorem q269:4+a≤b→(b:Int)-(a:Int)=(↑(b-a) : Int):=by lia -abstractProof
theorem q270:a-b≤a+c:=by omega
theorem q271:(a:Int)-(b:Int)+(b:Int)=(a:Int):=by lia -abstractProof
theorem q272:4+a≤b→a=b-(b-a):=by lia -abstractProof
theorem q273:4+a≤b→a≤b:=by lia -abstractProof
theorem q274:4+a≤b→(b:Int)-(a:Int)=(↑(min (b-a) b) : Int):=by lia -abstractProof
theorem q275:min (a-b) a=a-b:=by lia -abstractProof
theorem q276:a+b≤4096→(a:Int)-(c:Int)=(d:Int)→e=c+b→d+e≤4096:=by lia -abstractProof
theorem q277:4+a≤b→(b:Int)-(a:Int)=(c:Int)→4≤c:=by lia -abstractProof
theorem q278:a+b≤1900→b<2^32:=by lia -abstractProof
theorem q279:a+b≤4096→c=a-d→e+4=c→e+(4+(d+b))≤4096:=by lia -abstractProof
theorem q280:a+b≤900→b≤1000:=by lia -abstractProof
theorem q281:a+b≤900→b≤16777216:=by lia -abstractProof
theorem q282:((a:Int)+1)*1=(↑(a+1) : Int):=by lia -abstractProof
theorem q283:4+(a+1)≤b→1≤b:=by lia -abstractProof
theorem q284:4+(a+1)≤b→c+1=b→(c:Int)-(a:Int)=(↑(c-a) : Int):=by lia -abstractProof
theorem q285:a=b+1→c+b≤4096→d+1=c→d+a≤16777216:=by lia -abstractProof
theorem q286:4+(a+1)≤b→c+1=b→a=c-(c-a):=by lia -abstractProof
theorem q287:4+(a+1)≤b→c+1=b→a≤c:=by lia -abstractProof
theorem q288:4+(a+1)≤b→c+1=b→(c:Int)-(a:Int)=(↑(min (c-a) c) : Int):=by lia -abstractProof
theorem q289:a+b≤900→b<2^32:=by lia -abstractProof
theorem q290:a<b→(a:Int)<(b:Int):=by lia -abstractProof
theorem q291:a≤4→a≤4:=by omega
theorem q292:a+1+b≤4096→a+(1+b)≤4096:=by lia -abstractProof
theorem q293:a=4→4≤a:=by lia -abstractProof
theorem q294:x<2^8→x≤255:=by lia -abstractProof
theorem q295:a≤1980→b<a+4→(↑(b-c+4) : Int)<2^32:=by lia -abstractProof
theorem q296:0<a→¬a=0:=by lia -abstractProof
theorem q297:a≤1980→a≤1990:=by lia -abstractProof
theorem q298:a+4+b≤4096→a+(4+b)≤4096:=by lia -abstractProof
theorem q299:0≤0∧0<2^16:=by lia -abstractProof
theorem q300:a≤b→b<3000→0≤(b:Int)-(a:Int)∧(b:Int)-(a:Int)<2^16:=by lia -abstractProof
theorem q301:2+2*a=2*(a+1):=by lia -abstractProof
theorem q302:a≤3→b≤a→(↑(2*(b+2)) : Int)<2^16:=by lia -abstractProof
theorem q303:a<3000→(↑(a-b) : Int)<2^16:=by omega
theorem q304:2+(2+2*a)=4+2*a:=by lia -abstractProof
theorem q305:a≤1980→a<3000:=by lia -abstractProof
theorem q306:a=4+b→2*c+(4+b)=2*c+a:=by lia -abstractProof
theorem q307:a%2=0→(-(↑(2*b+a) : Int)%(2:Int)).toNat=0:=by lia -abstractProof
theorem q308:a≤1980→(↑(a-b) : Int)<2^16:=by omega
theorem q309:a%2=0→(-(↑(2+(2*b+a)) : Int)%(2:Int)).toNat=0:=by lia -abstractProof
theorem q310:x=(↑(a-b) : Int)→b≤a→(a:Int)-x+2=(↑(b+2) : Int):=by lia -abstractProof
theorem q311:a≤3→x=(↑(a-b) : Int)→c=4+2*b→(a:Int)-x+2=(↑(b+2) : Int)→(c:Int)<2^31:=by lia -abstractProof
theorem q312:a=4+b→c+(4+b)=c+a:=by lia -abstractProof
theorem q313:a≤3→b≤1980→x=(↑(a-c) : Int)→d=2*c+b→(a:Int)-x+2=(↑(c+2) : Int)→d≤1990:=by lia -abstractProof
theorem q314:((a:Int)+1+1)*2=2*((a:Int)+1+1):=by lia -abstractProof
theorem q315:a≤3→x=(↑(a-b) : Int)→(a:Int)-x+2=(↑(b+2) : Int)→(↑(2*(b+2)) : Int)<2^16:=by lia -abstractProof
theorem q316:a=2*b+c→d=2+(2*b+c)→e+2+a≤4096→e+d≤4096:=by lia -abstractProof
theorem q317:a≤3→b≤1980→x=(↑(a-c) : Int)→d=2+(2*c+b)→(a:Int)-x+2=(↑(c+2) : Int)→d≤1990:=by lia -abstractProof
theorem q318:a=4→b=4+c→d=4+2*e→f=2+(2*e+b)→g+2+f≤4096→g+(d+(a+c))≤16777216:=by lia -abstractProof
theorem q319:a=4+2*b→c=2+(2*b+d)→e+2+c≤4096→e+(a+d)≤1000000:=by lia -abstractProof
theorem q320:(↑(a+(b+c)) : Int)-(c:Int)=(↑(a+b) : Int):=by lia -abstractProof
theorem q321:(↑(a+b) : Int)-(b:Int)=(a:Int):=by lia -abstractProof
theorem q322:a=4+b→c+d+4≤c+(d+a):=by lia -abstractProof
theorem q323:a=4+2*b→c=2+(2*b+d)→e+2+c≤4096→e+(a+d)≤16777216:=by lia -abstractProof
theorem q324:a=4+2*b→c=2+(2*b+d)→e+2+c≤4096→e+a+d≤4096:=by lia -abstractProof
theorem q325:a=4+b→4+b=a:=by lia -abstractProof
theorem q326:a≤b→decide ((a:Int)-1≥0)=true→a-1<b:=by lia -abstractProof
theorem q327:decide ((a:Int)-1≥0)=true→a-1+1=a:=by lia -abstractProof
theorem q328:((a:Int)-1).toNat=a-1:=by lia -abstractProof
theorem q329:decide ((a:Int)-1≥0)=true→0≤(a:Int)-1:=by lia -abstractProof
theorem q330:a≤3→b≤a→(b:Int)-1<2^40:=by lia -abstractProof
theorem q331:decide ((a:Int)-1≥0)=true→a-1<a:=by lia -abstractProof
theorem q332:decide ((a:Int)-1≥0)=true→(↑(a-1) : Int)=(a:Int)-1:=by lia -abstractProof
theorem q333:a≤b→decide ((a:Int)-1≥0)=true→(↑(b-(a-1)-0) : Int)=(↑(b-a-0) : Int)+1:=by lia -abstractProof
theorem q334:a≤3→b≤1970→c≤a-d→e=2*c+b→e≤1990:=by lia -abstractProof
theorem q335:decide ((a:Int)-1≥0)=true→b-(a-1)-(c+1)=b-a-c:=by lia -abstractProof
theorem q336:a+2+b≤4096→a+(2+b)≤4096:=by lia -abstractProof
theorem q337:a≤b→0≤(b:Int)-(a:Int):=by lia -abstractProof
theorem q338:a≤1970→(a:Int)-(b:Int)<2^16:=by lia -abstractProof
theorem q339:decide ((a:Int)-1≥0)=false→a=0:=by lia -abstractProof
theorem q340:(a+b+0)%4=0→(a+b)%4=0:=by omega
theorem q341:a≤1960→a≤1990:=by lia -abstractProof
theorem q342:a≤1960→b<a+4→(↑(b+4) : Int)<2^31:=by lia -abstractProof
theorem q343:a=4+b→c+4+b≤4096→c+a≤1000000:=by lia -abstractProof
theorem q344:a≤3→b≤c→c<a→b≤1000000:=by lia -abstractProof
theorem q345:a≤b→c=4+d→b≤d→(c:Int)-(a:Int)=(↑(c-a) : Int):=by lia -abstractProof
theorem q346:a≤3→b≤a→b≤1000000:=by lia -abstractProof
theorem q347:a≤3→b≤a→b+1≤1000000:=by lia -abstractProof
theorem q348:a=4+b→c≤b→c≤a:=by lia -abstractProof
theorem q349:a≤1960→b=4+c→c<a+4→b≤1970:=by lia -abstractProof
theorem q350:a=4+b→b%4=0→a%2=0:=by lia -abstractProof
theorem q351:a=4+b→c+4+b≤4096→c+a≤4096:=by lia -abstractProof
theorem q352:a<2^8→((a:Int)%2^(8*1)).toNat=a:=by lia -abstractProof
theorem q353:a%4=0→(-(a:Int)%(4:Int)).toNat=0:=by lia -abstractProof
theorem q354:(a+b+12)%4=0→(a+b)%4=0:=by lia -abstractProof
theorem q355:a≤b→b≤1950→(a:Int)≤2^32-1:=by lia -abstractProof
theorem q356:a≤1950→a+12≤2000:=by lia -abstractProof
theorem q357:a≤1950→b<a+4→b+4≤2000:=by lia -abstractProof
theorem q358:a%4=0→(a+4)%4=0:=by lia -abstractProof
theorem q359:a<4→3+(a:Int) * -1=(↑(3-a) : Int):=by lia -abstractProof
theorem q360:3-a<4:=by omega
theorem q361:4-(a+1)=3-a:=by lia -abstractProof
theorem q362:3+(a:Int) * -1=(↑(3-a) : Int)→3-a+1=4-a:=by lia -abstractProof
theorem q363:a<4→0≤3+(a:Int) * -1:=by lia -abstractProof
theorem q364:3+(a:Int) * -1<2^40:=by lia -abstractProof
theorem q365:a<2^8→(a:Int)≤255:=by lia -abstractProof
theorem q366:a<2^8→(a:Int)<2^8:=by lia -abstractProof
theorem q367:a+b≤4096→c+d=a→c+(4-(4-d)+b)≤1000000:=by omega
theorem q368:4+4≤a→b+c=a→c<4→1≤b:=by lia -abstractProof
theorem q369:a+b=c→d+1=a→d+(b+1)=c:=by lia -abstractProof
theorem q370:a+b≤4096→c+4=a→d=4+b→c+d≤4096:=by lia -abstractProof
theorem q371:a≤1950→b<a+4→c=4+b→c≤1990:=by lia -abstractProof
theorem q372:a%4=0→b=4+a→b%4=0:=by lia -abstractProof
theorem q373:a≤b→b≤c→d=4+c→a≤d:=by lia -abstractProof
theorem q374:a≤1950→b<a+4→c=4+b→(↑(c-d+4) : Int)<2^32:=by lia -abstractProof
theorem q375:a+4+b≤4096→c=4+b→a+c≤16777216:=by lia -abstractProof
theorem q376:a≤1950→b<a+4→c=4+b→(↑(4+c) : Int)≤2^31-1:=by lia -abstractProof
theorem q377:a≤1950→b<a+4→c=4+b→(↑(4+c) : Int)<2^31:=by lia -abstractProof
theorem q378:a≤1950→b<a+4→c=4+b→d=4+c→d≤1990:=by lia -abstractProof
theorem q379:a%4=0→b=4+a→c=4+b→c%4=0:=by lia -abstractProof
theorem q380:a≤b+a-b:=by lia -abstractProof
theorem q381:a=b+1→b+1≤a:=by lia -abstractProof
theorem q382:a≤60→(a:Int)≤2147483648:=by lia -abstractProof
theorem q383:a≤60→(a:Int)≤16777216:=by lia -abstractProof
theorem q384:a+b≤4096→a+b≤16777216:=by lia -abstractProof
theorem q385:a<2→a≤16777216:=by lia -abstractProof
theorem q386:a<2→a≤16777216+1:=by lia -abstractProof
theorem q387:a+30*b<9000→a+1+1<9900:=by lia -abstractProof
theorem q388:a=b→c<b→c<a:=by lia -abstractProof
theorem q389:a≤4→b=a→b<64:=by lia -abstractProof
theorem q390:a=b→c<a→c<b:=by lia -abstractProof
theorem q391:a≤4→b=a→b≤4:=by lia -abstractProof
theorem q392:a<b→b-a=b-(a+1)+1:=by lia -abstractProof
theorem q393:¬a<4→0+4≤a:=by lia -abstractProof
theorem q394:a<b→(a:Int)<4+(↑(b-4) : Int):=by lia -abstractProof
theorem q395:a+b=0→a<4:=by lia -abstractProof
theorem q396:a=b+1→c<b→c<a:=by lia -abstractProof
theorem q397:a=b+1→b<a:=by lia -abstractProof
theorem q398:a=b+1→b<c→a≤c:=by lia -abstractProof
theorem q399:a<min b c→a+1≤b:=by lia -abstractProof
theorem q400:a=b+c→d≤b→d≤a:=by lia -abstractProof
theorem q401:a<b-c→c+a<b:=by omega
theorem q402:a<b-c→c<b:=by omega
theorem q403:a+1≤a+b+1:=by lia -abstractProof
theorem q404:a=b+c→d=b+e→d≤f→c<e→¬f≤a:=by lia -abstractProof
theorem q405:a≤b*c→d≤b→d+a≤b*c+b:=by lia -abstractProof
theorem q406:(a:Int)<3→a<3:=by lia -abstractProof
theorem q407:¬a<b→a<b+(0+1)→a=b:=by lia -abstractProof
theorem q408:a≤10000→4+a≤100000:=by lia -abstractProof
theorem q409:a≤90000→b≤a→b≤100000:=by lia -abstractProof
theorem q410:a+(b+c)=d+(b+c)→a=d:=by lia -abstractProof
theorem q411:a<2000→4+a<3000:=by lia -abstractProof
theorem q412:a≤b→a≤4+b:=by lia -abstractProof
theorem q413:4+2*a+(4+b)=8+2*a+b:=by lia -abstractProof
theorem q414:4+a=b→c≤a→0≤(b:Int)-(c:Int):=by lia -abstractProof
theorem q415:a≤3→b≤a→c=4+2*b→(c:Int)<2^31:=by lia -abstractProof
theorem q416:4+a=b→c+b=d→c+(4+a)=d:=by lia -abstractProof
theorem q417:a=8+2*b+c→a≤d→4+c=e→f=4+2*b→g+e=d→(g:Int)-(f:Int)=(↑(d-a) : Int):=by lia -abstractProof
theorem q418:a<2000→4+a=b→(↑(b-c) : Int)<2^16:=by lia -abstractProof
theorem q419:a<2000→4+a=b→b<3000:=by lia -abstractProof
theorem q420:4+a=b→c≤a→c≤b:=by lia -abstractProof
theorem q421:a=8+2*b+c→a≤d→d-a+(2+(2+2*b+(4+c)))=d:=by lia -abstractProof
theorem q422:a<b→4+2*a<2*(b+2):=by lia -abstractProof
theorem q423:0<2^16:=by lia -abstractProof
theorem q424:a<2000→4+a=b→(b:Int)-(c:Int)<2^16:=by lia -abstractProof
theorem q425:a=8+2*b+c→a≤d→e<b→d-a+(4+2*e)+(2+(2*(b-(e+1))+(4+c)))=d:=by lia -abstractProof
theorem q426:¬a<b→¬4+2*a<2*(b+2):=by lia -abstractProof
theorem q427:0=(a:Int)→a=0:=by lia -abstractProof
theorem q428:(a:Int)=x→x=0→a=0:=by lia -abstractProof
theorem q429:1≤a→¬a+b=0:=by lia -abstractProof
theorem q430:a+b≤c→(d:Int)=(↑(4+c) : Int)-(↑(a+b) : Int)→d≠0:=by lia -abstractProof
theorem q431:a+(4+b)=c→(d:Int)=(↑(4+b) : Int)-(↑(e+f) : Int)→a+d+(e+f)=c:=by lia -abstractProof
theorem q432:a=12+b→12≤a:=by lia -abstractProof
theorem q433:a≤4000→b=4+a→b-c+4≤10000:=by lia -abstractProof
theorem q434:a≤b→c=12+b→d=4+b→4+(d-a+4)+a=c:=by lia -abstractProof
theorem q435:a=12+b→c=4+b→a-4=4+c:=by lia -abstractProof
theorem q436:a≤4000→b=4+a→(↑(4+b) : Int)<2^31:=by lia -abstractProof
theorem q437:a≤4000→b=4+a→(↑(b-c+4) : Int)<2^32:=by omega
theorem q438:a<1000→4+a<3000:=by lia -abstractProof
theorem q439:a=8+2*b+c→a≤d→4+c≤d:=by lia -abstractProof
theorem q440:a<1000→b≤3→c≤b→d=8+2*c+a→e<d+4→e≤4000:=by lia -abstractProof
theorem q441:4+a+(4+b)=c→4+a+(4+b)=c:=by omega
theorem q442:a≤100000→(↑(a-b+4) : Int)<2^32:=by omega
theorem q443:a≤100000→(a:Int)<2^32:=by lia -abstractProof
theorem q444:4+a=b→b≤c→d+(4+c)=e→d+(c-b+4)+(4+a)=e:=by lia -abstractProof
theorem q445:4+a=b→b≤c→d+(4+c)=e→f+a=e→f=d+(c-b+4)+4:=by lia -abstractProof
theorem q446:a+b≤a+(b+c):=by lia -abstractProof
theorem q447:(a:Int)=(↑(4+b) : Int)-(c:Int)→d+(4+b)=e→d+a+c=e:=by lia -abstractProof
theorem q448:a≤16→b<0+4→4+(a+(b+1))=4+(a+(b+1))∧4+(a+(b+1))≤25:=by lia -abstractProof
theorem q449:a≤25→b≤a+4+(4-1)→b≤2000:=by lia -abstractProof
theorem q450:a≤25→b≤a+4+(4-1)→c≤d+1+(1-1)→d=4+e→e<b+4→c≤2000:=by lia -abstractProof
theorem q451:a≤25→b≤a+4+(4-1)→c≤d+1+(1-1)→d=4+e→e<b+4→f<c+4→f<1000:=by lia -abstractProof
theorem q452:a≤b→c≤d→e≤d→c=4+f→b≤f→d≤g→h=e∨h=c∨h=a→h≤g:=by lia -abstractProof
theorem q453:a=4+b→a≠0:=by lia -abstractProof
theorem q454:a=4+b→b≤a:=by lia -abstractProof
theorem q455:a≤25→b≤a+4+(4-1)→c<b+4→c≤100000:=by lia -abstractProof
theorem q456:a=b+4*(c-(d+1))→b%4=0→a%4=0:=by lia -abstractProof
theorem q457:a≤b→c=b+4*(d-(e+1))→a≤c:=by lia -abstractProof
theorem q458:a≤4→b≤100→c=b+4*(a-(d+1))→c≤100000:=by omega
theorem q459:a+b=c→d<e→b=f+4*e→g=f+4*(e-(d+1))→a+4*d+(4+g)=c:=by lia -abstractProof
theorem q460:a≤4→b≤23*a→c<b+4→c≤100:=by lia -abstractProof
theorem q461:a≤4→b=c+4*(a-0)→d=4+b→c≤100→d≤2000:=by lia -abstractProof
theorem q462:a≤4→b≤c+4+(4-1)→d≤b+1+(1-1)→e=f+4*(a-0)→g=4+e→f≤100→c=4+h→h<g+4→d≤2000:=by lia -abstractProof
theorem q463:a≤4→b≤c+4+(4-1)→d≤b+1+(1-1)→e=f+4*(a-0)→g=4+e→f≤100→c=4+h→h<g+4→k<d+4→k<1000:=by lia -abstractProof
theorem q464:a≤b→c≤b→b≤d→e≤d→d≤f→g=a∨g=c∨g=e→g≤f:=by lia -abstractProof
theorem q465:a≤4→b=c+4*(a-0)→d=4+b→c≤100→e<d+4→e≤100000:=by lia -abstractProof
theorem q466:a=4+b→c=4+d→a≤d→4+e+f+c=g→h+b=g→4+e≤h:=by lia -abstractProof
theorem q467:a+(b+1)=a+1+b:=by lia -abstractProof
theorem q468:-2^31≤(a:Int):=by lia -abstractProof
theorem q469:a+30*(b+1)<9000→a+1+30*b<9000:=by lia -abstractProof
theorem q470:a≤b→c+3*b<900→c+3*a<900:=by lia -abstractProof
theorem q471:a≤b→c+30*b<9000→c+30*a<9000:=by lia -abstractProof
theorem q472:a-1-x.toNat<1000→¬a-1-x.toNat≥16777216:=by lia -abstractProof
theorem q473:a<b+(a+1-b):=by omega
theorem q474:-2^40<x∧x<2^40 → -2^64<x:=by lia -abstractProof
theorem q475:-2^40<x∧x<2^40→x<2^64:=by lia -abstractProof
theorem q476:¬(a:Int)<0:=by lia -abstractProof
theorem q477:a≤16777216→¬(a:Int)≥2^63:=by lia -abstractProof
theorem q478:0≤x→¬x<0:=by lia -abstractProof
theorem q479:x+(a:Int)≤(b:Int)→¬(b:Int)-x<(a:Int):=by lia -abstractProof
theorem q480:0≤x→x<2^40 → -2^63≤x∧x<2^63:=by lia -abstractProof
theorem q481:x+(a:Int)≤(b:Int)→b≤16777216→x<2^40:=by lia -abstractProof
theorem q482:a≤16777216→¬a>16777216:=by lia -abstractProof
theorem q483:-2^31≤x→x<2^31 → -2147483648≤x∧x≤2147483647:=by lia -abstractProof
theorem q484:0≤x→x<2^8→0≤x∧x≤255:=by lia -abstractProof
theorem q485:0≤x→x<2^16→0≤x∧x≤65535:=by lia -abstractProof
theorem q486:0≤x→x<2^32→0≤x∧x≤4294967295:=by lia -abstractProof
theorem q487:a+b+(c+1)≤d→a+(b+1)+c≤d:=by lia -abstractProof
theorem q488:a+b+(c+1)≤d→a+b<d:=by lia -abstractProof
theorem q489:Min.min (a+b) c≤a+(b+1):=by lia -abstractProof
theorem q490:a+b<c→a+(b+1)-Min.min (a+b) c=1:=by omega
theorem q491:a+(b+1)+c=a+b+(c+1):=by lia -abstractProof
theorem q492:a+b≤c→a+0+b≤c:=by omega
theorem q493:0≤x→x+(a:Int)≤(b:Int)→x.toNat+a≤b:=by lia -abstractProof
theorem q494:x+(a:Int)≤(b:Int)→Min.min x.toNat b=x.toNat:=by lia -abstractProof
theorem q495:0≤x→x≤16777216 → -9223372036854775808≤x∧x<9223372036854775808:=by lia -abstractProof
theorem q496:x≤16777216→¬x=9223372036854775807:=by lia -abstractProof
theorem q497:x≤16777216→x≤16777216:=by omega
theorem q498:x≤16777216→x.toNat≤16777216:=by lia -abstractProof
theorem q499:¬x>0→x.toNat=0:=by lia -abstractProof
theorem q500:a≤16777216→Min.min (b-c) (a-c)≤16777216:=by lia -abstractProof
theorem q501:a≤16777216→b≤a→c=b-d→Max.max (d:Int) (b:Int)=(b:Int)→Min.min d a+c+(a-b)≤16777216:=by lia -abstractProof
theorem q502:a≤16777216→b≤a→c=b-d→c≤16777216:=by lia -abstractProof
theorem q503:0≤x → -2^63≤x:=by lia -abstractProof
theorem q504:x<2^40→x<2^63:=by lia -abstractProof
theorem q505:0≤x→x.toNat<a→0≤x∧x<(a:Int):=by lia -abstractProof
theorem q506:a≤16777216→b=a→(b:Int)<2^63:=by lia -abstractProof
theorem q507:a=b+1-c→c<b→b-c<a:=by lia -abstractProof
theorem q508:a-b=a+1-(b+1):=by lia -abstractProof
theorem q509:a<b→0<(b:Int)-(a:Int):=by lia -abstractProof
theorem q510:(a:Int)-((b:Int)+1)=(a:Int)-(b:Int)-1:=by lia -abstractProof
theorem q511:¬a<b→(b:Int)-(a:Int)≤0:=by lia -abstractProof
theorem q512:a≤1000000→a≤16777216:=by lia -abstractProof
theorem q513:x<(a:Int)→a≤1000000→x<2^63:=by lia -abstractProof
theorem q514:x<(a:Int)→b=a→x<(b:Int):=by lia -abstractProof
theorem q515:x<1000→x<2^63:=by lia -abstractProof
theorem q516:a≤16777216→a≤16777216:=by omega
theorem q517:a≤1000→a≤16777216:=by lia -abstractProof
theorem q518:a+30*b<9000→a+1<9900:=by lia -abstractProof
theorem q519:a<b→(b:Int)-1-(a:Int)=(↑(b-1-a) : Int):=by omega
theorem q520:(a:Int)-1-(b:Int)=(↑(a-1-b) : Int)→a-1-b<a:=by omega
theorem q521:(a:Int)-1-(b:Int)=(↑(a-1-b) : Int)→(↑(a-1-b) : Int)-1=(a:Int)-1-(↑(b+1) : Int):=by lia -abstractProof
theorem q522:a≤b→¬a<b→(b:Int)-1-(a:Int) = -1:=by lia -abstractProof
theorem q523:0*256+a=a:=by lia -abstractProof
theorem q524:a<100000→(a:Int)<2^62:=by lia -abstractProof
theorem q525:(a:Int)-0=(a:Int):=by lia -abstractProof
theorem q526:a-b=0→b≤a→b=a:=by lia -abstractProof
theorem q527:a-b=c+1→b<a:=by omega
theorem q528:0≤x→x<256→¬x<0∧¬x≥256:=by lia -abstractProof
theorem q529:a≤16777216→¬Min.min (b+1) a>16777216:=by lia -abstractProof
theorem q530:a-b=c+1→a-(b+1)=c:=by omega
theorem q531:a<2^8→0≤(a:Int)∧(a:Int)<256:=by lia -abstractProof
theorem q532:a<30→a+0<30:=by omega
end
end
section
open PySem PySem.W PyProof.Rows PySem.Calls
theorem nof {P : Prop} (h : false = true) : P := (Bool.false_ne_true h).elim
theorem nso {α : Type} {a : α} {P : Prop} (h : none = some a) : P := nomatch h
noncomputable def calm : Code → Bool
  | .builtin id _ => !(Builtin.Bytes.decodersThatHold.contains id)
  | _ => true
structure Calm (Γ : Ctx) : Prop where
  top : calm Γ.code = true
  below : ∀ x ∈ Γ.below,calm x.1 = true
noncomputable def wN {α : Type} (M : Model) (A : Around) (t : Sem α) (Q : α → Shared → Prop) (E : Value → Shared → Prop) (s : Shared) : Prop :=
  ∀ Γ p,Γ.In A → Calm Γ → Sem.wp M Γ t (fun a u_ s' => Q a s') (fun e u_ s' => E e s') p s
noncomputable def cN (M : Model) (A : Around) (c : Code) (R : Result → Shared → Prop) (s : Shared) : Prop :=
  ∀ Γ p,Γ.code = c → Γ.Below A → (∀ x ∈ Γ.below,calm x.1 = true) → wpCode M Γ R p s
section
variable {α β : Type} {M : Model} {A : Around} {E : Value → Shared → Prop} {s : Shared}
theorem wN.of {t : Sem α} {Q : α → Shared → Prop} (h : wpAny M A t Q E s) : wN M A t Q E s := fun Γ p hΓ u_ => h Γ p hΓ
theorem cN.of {c : Code} {R : Result → Shared → Prop} (h : codeAny M A c R s) : cN M A c R s := fun Γ p hc hΓ u_ => h Γ p hc hΓ
theorem wN.mono {t : Sem α} {Q Q' : α → Shared → Prop} {E' : Value → Shared → Prop} (h : wN M A t Q E s)
    (hQ : ∀ a s,Q a s → Q' a s) (hE : ∀ e s,E e s → E' e s) : wN M A t Q' E' s :=
  fun Γ p hΓ c => Sem.wp_mono M Γ t (fun a u_ s => hQ a s) (fun e u_ s => hE e s) p s (h Γ p hΓ c)
theorem cN.mono {c : Code} {R R' : Result → Shared → Prop} (h : cN M A c R s) (hR : ∀ r s,R r s → R' r s) : cN M A c R' s :=
  fun Γ p hc hΓ k => wpCode_mono hR (h Γ p hc hΓ k)
theorem wN.bind {m : Sem α} {f : α → Sem β} {Q : β → Shared → Prop} (h : wN M A m (fun a s' => wN M A (f a) Q E s') E s) :
    wN M A (m >>= f) Q E s := fun Γ p hΓ c => by
  rw [Sem.wp_bind'];exact Sem.wp_mono M Γ m (fun a p' s' h' => h' Γ p' hΓ c) (fun u_ u_ u_ h' => h') p s (h Γ p hΓ c)
theorem wN.pure {a : α} {Q : α → Shared → Prop} (h : Q a s) : wN M A (pure a) Q E s := fun u_ u_ u_ u_ => h
theorem wN.holding {vs : List Value} {m : Sem α} {Q : α → Shared → Prop} (h : wN M A m Q E s) : wN M A (holding vs m) Q E s :=
  fun Γ p hΓ c => by rw [Sem.wp_holding]; exact h Γ p hΓ c
theorem wN.operate {vs : List Value} {m : Sem Value} {Q : Value → Shared → Prop} (h : wN M A m Q E s) : wN M A (operate vs m) Q E s :=
  fun Γ p hΓ c => by rw [Sem.wp_operate]; exact h Γ p hΓ c
theorem wN.onRaise {m : Sem α} {k : Value → Sem Unit} {Q : α → Shared → Prop}
    (h : wN M A m Q (fun e s' => wN M A (k e) (fun u_ s'' => E e s'') E s') s) : wN M A (m.onRaise k) Q E s := fun Γ p hΓ c => by
  rw [Sem.wp_onRaise];exact Sem.wp_mono M Γ m (fun u_ u_ u_ h' => h') (fun e p' s' h' => h' Γ p' hΓ c) p s (h Γ p hΓ c)
theorem wN.attempt {m : Sem α} {Q : Except Value α → Shared → Prop} (h : wN M A m (fun a => Q (.ok a)) (fun e => Q (.error e)) s) :
    wN M A m.attempt Q E s := fun Γ p hΓ c => by rw [Sem.wp_attempt]; exact h Γ p hΓ c
theorem wN.stand {pos : Pos} {f : Unit → Sem β} {Q : β → Shared → Prop} (h : wN M A (f ()) Q E s) : wN M A (standAt pos >>= f) Q E s := .bind (.of (wpAny_standAt h))
theorem Calm.enter {Γ : Ctx} (k : Calm Γ) (c : Code) (hd : Option Value) (p : Pos) : ∀ x ∈ (Γ.enter c hd p).below,calm x.1 = true := by
  intro x hx;rcases List.mem_cons.mp hx with rfl | hx
  · exact k.top
  · exact k.below x hx
theorem wN.run {c : Code} {h : Option Value} {Q : Flow → Shared → Prop}
    (hc : cN M (A.mark h) c (fun r s' => match r with | .ok f => Q f s' | .error e => E e s') s) (hnb : h ≠ some byPass := by intro x; cases x) :
    wN M A (run c h) Q E s :=
  fun Γ p hΓ k => by rw [Sem.wp_run]; exact hc _ p rfl (hΓ.enter c h p hnb) (k.enter c h p)
theorem wN.runValue {c : Code} {Q : Value → Shared → Prop}
    (hc : cN M A c (fun r s' => match r with | .ok (.ret v) => Q v s' | .ok _ => False | .error e => E e s') s) :
    wN M A (runValue c) Q E s := fun Γ p hΓ k => by rw [Sem.wp_runValue]; exact hc _ p rfl (hΓ.enter c none p (by intro x; cases x)) (k.enter c none p)
theorem wN.call {f : Value} {pos : List Value} {kw : List (Str × Value)} {Q : Value → Shared → Prop}
    (hc : cN M A (.call f ⟨pos,kw⟩) (fun r s' => match r with | .ok (.ret v) => Q v s' | .ok _ => False | .error e => E e s') s) :
    wN M A (call f pos kw) Q E s := .runValue hc
theorem cN.tree {c : Code} {R : Result → Shared → Prop} (kc : calm c = true)
    (h : wN M (A.under c) (M.den c) (fun fin s' => match fin with | .done f => R (.ok f) s' | .again c' => c'.quiet = true ∧ cN M A c' R s')
      (fun e s' => R (.error e) s') s) : cN M A c R s := fun Γ p hc hΓ k => by
  rw [wpCode_iff_wp,hc];refine Sem.wp_mono M Γ _ (fun fin p' s' h' => ?_) (fun u_ u_ u_ h' => h') p s (h Γ p (hc ▸ hΓ.in) ⟨hc ▸ kc,k⟩);cases fin with
  | done f => exact h'
  | again c' => exact ⟨h'.1,h'.2 (Γ.goto c') p' rfl (hΓ.goto c') k⟩
theorem ng {id : String} {args : Args} (h : (Code.builtin id args).isGuard = false) : guardIds.contains id = false := h
theorem dn {P : Prop} [Decidable P] {α : Type} {f : P → α} {g : ¬ P → α} {a : α} (h : ¬ P) (k : g h = a) : dite P f g = a := (dif_neg h).trans k
theorem dn5 {a b c d e : Prop} [Decidable a] [Decidable b] [Decidable c] [Decidable d] [Decidable e] {α : Type} {f1 : a → α} {f2 : b → α} {f3 : c → α} {f4 : d → α} {f5 : e → α} {x y : α} (n1 : ¬ a) (n2 : ¬ b) (n3 : ¬ c) (n4 : ¬ d) (n5 : ¬ e) (h : x = y) :
    dite a f1 (fun u_ => dite b f2 fun u_ => dite c f3 fun u_ => dite d f4 fun u_ => dite e f5 fun u_ => x) = y := dn n1 (dn n2 (dn n3 (dn n4 (dn n5 h))))
set_option tactic.hygienic true in
theorem wN.exported {v : Value} {Q : Bool → Shared → Prop} (hg : A.guards = some []) (h : Q false s) : wN M A (Builtin.Bytes.exported v) Q E s := fun Γ p hΓ k => by
  have key : ∀ (l : List (Code × Pos)),(∀ x ∈ l,calm x.1 = true) → guardsOf l = [] → ∀ f : Code × Pos → Bool,(∀ c p,calm c = true → c.isGuard = false → f (c,p) = false) → l.any f = false := by
    intro l;induction l with
    | nil => intro _ _ f _; rfl
    | cons x l ih =>
      obtain ⟨c,p⟩ := x;intro hc hg f hf;rw [guardsOf_cons] at hg;obtain ⟨h1,h2⟩ := List.append_eq_nil_iff.mp hg;have hgc : c.isGuard = false := by
        cases e : c.isGuard with
        | false => rfl
        | true => simp [Code.guards,e] at h1
      rw [List.any_cons,hf c p (hc _ (.head _)) hgc,ih (fun x hx => hc x (.tail _ hx)) h2 f hf]; rfl
  show Q (List.any ((Γ.code,p) :: Γ.below) _) s;refine (congrArg (fun b => Q b s) (key ((Γ.code,p) :: Γ.below) ?h1 ?h2 _ ?h3)).mpr h
  case h1 =>
    intro x hx;rcases List.mem_cons.mp hx with rfl | hx
    · exact k.top
    · exact k.below x hx
  case h2 => rw [guardsOf_cons]; exact hΓ.2.2.2.1 _ hg
  case h3 =>
    intro c p hc hgd;cases c <;> try rfl
    rename_i id args
    have ne : ∀ g,guardIds.contains g = true → ¬ id = g := fun g h e => by rw [e] at hgd; rw [ng hgd] at h; cases h
    have n1 := ne "bytearray.__contains__" (by decide +kernel);have n2 := ne "bytearray.__mod__" (by decide +kernel);have n3 := ne "bytearray.__rmod__" (by decide +kernel);have n4 := ne "_struct.pack_into.held" (by decide +kernel);have n5 := ne "bytearray.find.held" (by decide +kernel);obtain ⟨pos,kw⟩ := args;cases pos with
    | nil => unfold Builtin.Bytes.exported.match_1; exact dn5 n1 n2 n3 n4 n5 rfl
    | cons v l =>
      unfold Builtin.Bytes.exported.match_1;refine dn5 n1 n2 n3 n4 n5 ?_;show (Builtin.Bytes.sameRef v _ && Builtin.Bytes.decodersThatHold.contains id) = false;rw [(Bool.not_eq_true' _).mp hc,Bool.and_false]
end
end
section
open PySem PySem.W PyProof.Rows PySem.Calls
set_option backward.match.sparseCases false
theorem nn31 {n : Nat} : -(2 ^ 31) ≤ (n : Int) := by exact q468
inductive V where
  | none
  | bool (b : Bool)
  | int (i : Int)
  | str (s : Str)
  | bytes (b : List UInt8)
  | tup (l : List V)
  | lst (l : List V)
  | tab (cls : Addr) (b : List UInt8) (p : Int)
  | slc (l u : V)
  | rev
  | val (v : Value)
mutual
inductive Is (h : Heap) (F : Addr → Prop) : V → Value → Prop
  | none : Is h F .none .none
  | bool {b : Bool} : Is h F (.bool b) (.bool b)
  | int {i : Int} {t : Tok} : Is h F (.int i) (.int i t)
  | str {s : Str} {t : Tok} : Is h F (.str s) (.str s t)
  | bytes {b : List UInt8} {t : Tok} : Is h F (.bytes b) (.bytes b.toArray t)
  | tup {l : List V} {a : Addr} {vs : List Value} {n : Nat} {o : Obj} (hF : F a)
      (ho : h.get? a = some o) (hc : o.cls = .type "tuple") (hd : o.data = .seq vs.toArray n) (hl : IsL h F l vs) : Is h F (.tup l) (.ref a)
  | lst {l : List V} {a : Addr} {vs : List Value} {n : Nat} {o : Obj} (hF : F a)
      (ho : h.get? a = some o) (hc : o.cls = .type "list") (hd : o.data = .seq vs.toArray n) (hl : IsL h F l vs) : Is h F (.lst l) (.ref a)
  | tab {cls : Addr} {b : List UInt8} {p : Int} {a dx : Addr} {t u : Tok} {sl : Array (Option Value)} (hF : F a) (hd : F dx)
      (ho : h.get? a = some ⟨.ref cls,some dx,.plain,sl⟩) (hdo : h.get? dx = some emptyDict)
      (h0 : (sl[0]?).join = some (.bytes b.toArray t)) (h1 : (sl[1]?).join = some (.int p u)) : Is h F (.tab cls b p) (.ref a)
  | slc {l u : V} {a : Addr} {x y : Value} (hF : F a) (ho : h.get? a = some ⟨.type "slice",Option.none,.fields #[x,y,.none],#[]⟩) (hx : Is h F l x) (hy : Is h F u y) : Is h F (.slc l u) (.ref a)
  | rev {a : Addr} {t : Tok} (hF : F a) (ho : h.get? a = some ⟨.type "slice",Option.none,.fields #[.none,.none,.int (-1) t],#[]⟩) : Is h F .rev (.ref a)
  | val {v : Value} : Is h F (.val v) v
inductive IsL (h : Heap) (F : Addr → Prop) : List V → List Value → Prop
  | nil : IsL h F [] []
  | cons {v : V} {x : Value} {l : List V} {vs : List Value} (hv : Is h F v x) (hl : IsL h F l vs) : IsL h F (v :: l) (x :: vs)
end
structure Ext (F : Addr → Prop) (h : Heap) (F' : Addr → Prop) (h' : Heap) : Prop where
  mono : ∀ a,F a → F' a
  keep : ∀ a o,F a → h.get? a = some o → h'.get? a = some o
theorem Ext.refl {F : Addr → Prop} {h : Heap} : Ext F h F h := ⟨fun u_ x => x,fun u_ u_ u_ x => x⟩
theorem Ext.trans {F F' F'' : Addr → Prop} {h h' h'' : Heap} (x : Ext F h F' h') (y : Ext F' h' F'' h'') : Ext F h F'' h'' :=
  ⟨fun a z => y.mono a (x.mono a z),fun a o z e => y.keep a o (x.mono a z) (x.keep a o z e)⟩
theorem Is.ext {h h' : Heap} {F F' : Addr → Prop} (e : Ext F h F' h') {v : V} {x : Value} (H : Is h F v x) : Is h' F' v x :=
  Is.rec (motive_1 := fun v x u_ => Is h' F' v x) (motive_2 := fun l vs u_ => IsL h' F' l vs) .none .bool .int .str .bytes (fun hF ho hc hd u_ i => .tup (e.mono _ hF) (e.keep _ _ hF ho) hc hd i) (fun hF ho hc hd u_ i => .lst (e.mono _ hF) (e.keep _ _ hF ho) hc hd i)
    (fun hF hd ho hdo h0 h1 => .tab (e.mono _ hF) (e.mono _ hd) (e.keep _ _ hF ho) (e.keep _ _ hd hdo) h0 h1) (fun hF ho u_ u_ i j => .slc (e.mono _ hF) (e.keep _ _ hF ho) i j) (fun hF ho => .rev (e.mono _ hF) (e.keep _ _ hF ho)) .val .nil (fun u_ u_ i j => .cons i j) H
theorem IsL.ind {h : Heap} {F : Addr → Prop} {P : List V → List Value → Prop} (h0 : P [] []) (h1 : ∀ {v x l vs},Is h F v x → IsL h F l vs → P l vs → P (v :: l) (x :: vs)) {l : List V} {vs : List Value} (H : IsL h F l vs) : P l vs :=
  IsL.rec (motive_1 := fun u_ u_ u_ => True) (motive_2 := fun l vs u_ => P l vs) ⟨⟩ ⟨⟩ ⟨⟩ ⟨⟩ ⟨⟩ (fun u_ u_ u_ u_ u_ u_ => ⟨⟩) (fun u_ u_ u_ u_ u_ u_ => ⟨⟩) (fun u_ u_ u_ u_ u_ u_ => ⟨⟩) (fun u_ u_ u_ u_ u_ u_ => ⟨⟩) (fun u_ u_ => ⟨⟩) ⟨⟩ h0 (fun a b u_ i => h1 a b i) H
section
variable {h : Heap} {F : Addr → Prop} {l l' : List V} {vs vs' : List Value}
theorem IsL.ext {h' : Heap} {F' : Addr → Prop} (e : Ext F h F' h') : IsL h F l vs → IsL h' F' l vs := IsL.ind (P := IsL h' F') .nil fun a u_ i => .cons (a.ext e) i
theorem IsL.length : IsL h F l vs → vs.length = l.length := IsL.ind (P := fun l vs => vs.length = l.length) rfl fun u_ u_ i => congrArg (· + 1) i
theorem IsL.append (x : IsL h F l vs) (y : IsL h F l' vs') : IsL h F (l ++ l') (vs ++ vs') := IsL.ind (P := fun l vs => IsL h F (l ++ l') (vs ++ vs')) y (fun a u_ i => .cons a i) x
theorem IsL.at (x : IsL h F l vs) : ∀ {i : Nat} {v : V},l[i]? = some v → ∃ x,vs[i]? = some x ∧ Is h F v x := fun {i} {v} =>
  IsL.ind (P := fun l vs => ∀ i,l[i]? = some v → ∃ x,vs[i]? = some x ∧ Is h F v x) (fun u_ e => by cases e) (fun a u_ k i => Nat.casesOn i (fun e => ⟨_,rfl,Option.some.inj e ▸ a⟩) fun i e => k i e) x i
theorem IsL.set (x : IsL h F l vs) {i : Nat} {v : V} {y : Value} (hy : Is h F v y) : IsL h F (l.set i v) (vs.set i y) :=
  IsL.ind (P := fun l vs => ∀ i,IsL h F (l.set i v) (vs.set i y)) (fun u_ => .nil) (fun a b k i => Nat.casesOn i (.cons hy b) fun i => .cons a (k i)) x i
theorem IsL.drop (x : IsL h F l vs) (n : Nat) : IsL h F (l.drop n) (vs.drop n) :=
  IsL.ind (P := fun l vs => ∀ n,IsL h F (l.drop n) (vs.drop n)) (fun n => by rw [List.drop_nil,List.drop_nil]; exact .nil) (fun a b k n => Nat.casesOn n (.cons a b) fun n => k n) x n
theorem IsL.take (x : IsL h F l vs) (n : Nat) : IsL h F (l.take n) (vs.take n) :=
  IsL.ind (P := fun l vs => ∀ n,IsL h F (l.take n) (vs.take n)) (fun n => by rw [List.take_nil,List.take_nil]; exact .nil) (fun a b k n => Nat.casesOn n .nil fun n => .cons a (k n)) x n
theorem IsL.reverse (x : IsL h F l vs) : IsL h F l.reverse vs.reverse := IsL.ind (P := fun l vs => IsL h F l.reverse vs.reverse) .nil (fun a u_ i => by rw [List.reverse_cons,List.reverse_cons]; exact i.append (.cons a .nil)) x
end
noncomputable def IsO (h : Heap) (F : Addr → Prop) : Option V → Option Value → Prop
  | some v,x => ∃ y,x = some y ∧ Is h F v y
  | none,_ => True
theorem IsO.ext {h h' : Heap} {F F' : Addr → Prop} (e : Ext F h F' h') : ∀ {v : Option V} {x : Option Value},IsO h F v x → IsO h' F' v x
  | some _,_,⟨y,p,q⟩ => ⟨y,p,q.ext e⟩
  | none,_,_ => trivial
inductive Ce where
  | inst (cls : Addr) (slots : List (Option V))
  | ba (b : List UInt8)
  | list (l : List V)
  | rlist (l : List V)
  | dict (l : List (List Int × V))
  | dictX (o : Obj) (l : List (List Int × V))
  | cell (v : Option V)
  | raw (o : Obj)
  | raz (cls : Value) (d : Data)
noncomputable def kHash (ks : List Int) : Int := reduceHash (Builtin.Tuple.tupleHashOf (ks.map hashInt))
inductive IsE (h : Heap) (F : Addr → Prop) : List (List Int × V) → List DictEntry → Prop
  | nil : IsE h F [] []
  | cons {ks : List Int} {v : V} {e : DictEntry} {l : List (List Int × V)} {es : List DictEntry} (hh : e.hash = kHash ks) (hk : Is h F (.tup (ks.map V.int)) e.key) (hv : Is h F v e.val) (hl : IsE h F l es) : IsE h F ((ks,v) :: l) (e :: es)
theorem IsE.ext {h h' : Heap} {F F' : Addr → Prop} (e : Ext F h F' h') : ∀ {l : List (List Int × V)} {es : List DictEntry},IsE h F l es → IsE h' F' l es := fun H => H.rec .nil fun hh hk hv u_ i => .cons hh (hk.ext e) (hv.ext e) i
noncomputable def slotsIs (h : Heap) (F : Addr → Prop) (l : List (Option V)) (sl : Array (Option Value)) : Prop := ∀ i : Nat,IsO h F (l[i]?).join (sl[i]?).join
noncomputable def CIs (h : Heap) (F : Addr → Prop) : Ce → Obj → Prop
  | .inst cls l,o => ∃ dx sl,o = ⟨.ref cls,some dx,.plain,sl⟩ ∧ F dx ∧ h.get? dx = some emptyDict ∧ slotsIs h F l sl
  | .ba b,o => o = ⟨.type "bytearray",none,.bytearray b.toArray 0,#[]⟩
  | .list l,o => ∃ vs n,o = ⟨.type "list",none,.seq vs n,#[]⟩ ∧ IsL h F l vs.toList
  | .dict l,o => ∃ es n,o = ⟨.type "dict",none,.dict es n,#[]⟩ ∧ IsE h F l es.toList ∧ (l.map (·.1)).Nodup
  | .dictX o' l,o => o = o' ∧ ∃ es n,o = ⟨.type "dict",none,.dict es n,#[]⟩ ∧ IsE h F l es.toList ∧ (l.map (·.1)).Nodup
  | .cell v,o => ∃ x,o.data = .cell x ∧ IsO h F v x
  | .rlist l,o => o.cls = .type "list" ∧ ∃ vs n,o.data = .seq vs n ∧ IsL h F l vs.toList
  | .raw o',o => o = o'
  | .raz c d,o => o.cls = c ∧ o.data = d
theorem CIs.ext {h h' : Heap} {F F' : Addr → Prop} (e : Ext F h F' h') {c : Ce} {o : Obj} : CIs h F c o → CIs h' F' c o :=
  Ce.casesOn (motive := fun c => CIs h F c o → CIs h' F' c o) c (fun u_ u_ H => H.imp fun u_ H => H.imp fun u_ w => ⟨w.1,e.mono _ w.2.1,e.keep _ _ w.2.1 w.2.2.1,fun i => (w.2.2.2 i).ext e⟩) (fun u_ H => H) (fun u_ H => H.imp fun u_ H => H.imp fun u_ w => ⟨w.1,w.2.ext e⟩)
    (fun u_ H => ⟨H.1,H.2.imp fun u_ H => H.imp fun u_ w => ⟨w.1,w.2.ext e⟩⟩) (fun u_ H => H.imp fun u_ H => H.imp fun u_ w => ⟨w.1,w.2.1.ext e,w.2.2⟩) (fun u_ u_ H => ⟨H.1,H.2.imp fun u_ H => H.imp fun u_ w => ⟨w.1,w.2.1.ext e,w.2.2⟩⟩)
    (fun u_ H => H.imp fun u_ w => ⟨w.1,w.2.ext e⟩) (fun u_ H => H) (fun u_ u_ H => H)
noncomputable abbrev Mu := List (Addr × Ce)
noncomputable abbrev addrs (μ : Mu) : List Addr := μ.map (·.1)
noncomputable abbrev Loc := List (Option V)
structure Wd where
  prog : Program
  w : World
  K : Frag
  H₀ : Heap
  os₀ : OsState
noncomputable abbrev Wd.M (W : Wd) : Model := model W.prog W.w
structure Gd (W : Wd) : Prop where
  X : W.K.In W.H₀
  lim : W.H₀.NoLimit
  g : ∃ mg,W.H₀.Ns mainGlobals mg
  b : ∃ mb,W.H₀.Ns builtinsNs mb ∧ ∀ x,x ≠ ("__name__" : Str) → mb x = bootBuiltins x
section
variable (W : Wd)
structure St (F : Addr → Prop) (μ : Mu) (s : Shared) : Prop where
  gens : s.gens = #[]
  os : s.os = W.os₀
  base : W.H₀.StaysIn s.heap
  mu : ∀ p ∈ μ,∃ o,s.heap.get? p.1 = some o ∧ CIs s.heap F p.2 o
  nodup : (addrs μ).Nodup
  froz : ∀ a,F a → (∃ o,s.heap.get? a = some o) ∧ a ∉ addrs μ
  frozBase : ∀ a o,W.H₀.get? a = some o → F a
structure Grow (M : List Addr) (F : Addr → Prop) (h : Heap) (F' : Addr → Prop) (μ' : Mu) (h' : Heap) : Prop where
  keep : ∀ b o,h.get? b = some o → b ∉ M → h'.get? b = some o
  mono : ∀ a,F a → F' a
  froz : ∀ a,F' a → F a ∨ a ∈ M ∨ h.get? a = none
  new : ∀ a ∈ addrs μ',a ∈ M ∨ h.get? a = none
theorem Grow.refl {M : List Addr} {F : Addr → Prop} {h : Heap} {μ : Mu} (e : ∀ a ∈ addrs μ,a ∈ M) : Grow M F h F μ h := ⟨fun u_ u_ x u_ => x,fun u_ x => x,fun u_ x => .inl x,fun a x => .inl (e a x)⟩
noncomputable def GlobVal (H₀ : Heap) (x : Str) (v : Value) : Prop :=
  (∃ mg,H₀.Ns mainGlobals mg ∧ mg x = some v) ∨ ∃ mg mb,H₀.Ns mainGlobals mg ∧ mg x = none ∧ H₀.Ns builtinsNs mb ∧ mb x = some v
structure Room (A : Around) (n : Nat) : Prop where
  depth : A.depth + 3 * n < 900
  units : A.units + 30 * n < 9000
  handled : A.handled = none
  guards : A.guards = some []
structure Fx where
  A : Around
  env : Env
  h₀ : Heap
  F₀ : Addr → Prop
  mods : List Addr
  n : Nat
structure FxOk (H₀ : Heap) (Φ : Fx) (ns : List Str) (gs : List (Str × Value)) : Prop where
  kind : Φ.env.scope.kind = .function
  glob : Φ.env.globals = mainGlobals
  bui : Φ.env.builtins = builtinsNs
  nodup : ns.Nodup
  loc : ∀ x ∈ ns,Φ.env.kindOf x = some .local ∧ (x == ("__debug__" : Str)) = false
  gl : ∀ p ∈ gs,Φ.env.kindOf p.1 = some .globalImplicit ∧ (p.1 == ("__debug__" : Str)) = false ∧ GlobVal H₀ p.1 p.2
  isNew : Φ.h₀.get? Φ.env.locals = none ∧ Φ.env.locals ∉ Φ.mods
  room : Room Φ.A Φ.n
noncomputable def LocL (h : Heap) (F : Addr → Prop) (m : Str → Option Value) : List Str → Loc → Prop
  | x :: ns,o :: ℓ => IsO h F o (m x) ∧ LocL h F m ns ℓ
  | [],[] => True
  | _,_ => False
theorem LocL.ext {h h' : Heap} {F F' : Addr → Prop} (e : Ext F h F' h') {m : Str → Option Value} : ∀ {ns : List Str} {ℓ : Loc},LocL h F m ns ℓ → LocL h' F' m ns ℓ
  | _ :: _,_ :: _,⟨p,q⟩ => ⟨p.ext e,q.ext e⟩
  | [],[],_ => trivial
structure In (Φ : Fx) (ns : List Str) (F : Addr → Prop) (μ : Mu) (ℓ : Loc) (s : Shared) : Prop where
  st : St W F μ s
  loc : ∃ m,s.heap.Ns Φ.env.locals m ∧ LocL s.heap F m ns ℓ
  apart : Φ.env.locals ∉ addrs μ
  nfroz : ¬ F Φ.env.locals
  grow : Grow Φ.mods Φ.F₀ Φ.h₀ F μ s.heap
variable {W}
inductive Res {α β : Type} (W : Wd) (R : Heap → (Addr → Prop) → β → α → Prop) (Φ : Fx) (ns : List Str) (F : Addr → Prop) (h : Heap) (Q : β → Mu → Loc → Prop) (a : α) (s' : Shared) : Prop
  | mk (F' : Addr → Prop) (b : β) (μ' : Mu) (ℓ' : Loc) (h1 : In W Φ ns F' μ' ℓ' s') (h2 : Ext F h F' s'.heap) (h3 : R s'.heap F' b a) (h4 : Q b μ' ℓ') : Res W R Φ ns F h Q a s'
noncomputable abbrev RV : Heap → (Addr → Prop) → V → Value → Prop := Is
noncomputable abbrev RL : Heap → (Addr → Prop) → List V → List Value → Prop := IsL
noncomputable abbrev RU : Heap → (Addr → Prop) → Unit → Unit → Prop := fun u_ u_ u_ u_ => True
noncomputable abbrev RB : Heap → (Addr → Prop) → Bool → Bool → Prop := fun u_ u_ a b => a = b
inductive Fl where
  | next | brk | cont | ret (v : V)
inductive RF (h : Heap) (F : Addr → Prop) : Fl → Flow → Prop
  | next : RF h F .next .next
  | brk : RF h F .brk .brk
  | cont : RF h F .cont .cont
  | ret {v : V} {x : Value} (hv : Is h F v x) : RF h F (.ret v) (.ret x)
end
section
variable (W : Wd)
noncomputable def X {α β : Type} (R : Heap → (Addr → Prop) → β → α → Prop) (Φ : Fx) (ns : List Str) (gs : List (Str × Value)) (μ : Mu) (ℓ : Loc) (t : Sem α) (Q : β → Mu → Loc → Prop) : Prop :=
  ∀ s F,Gd W → FxOk W.H₀ Φ ns gs → In W Φ ns F μ ℓ s → wN (W.M) Φ.A t (Res W R Φ ns F s.heap Q) (fun u_ u_ => False) s
noncomputable def X1 {α β : Type} (R : Heap → (Addr → Prop) → β → α → Prop) (Φ : Fx) (ns : List Str) (gs : List (Str × Value)) (μ : Mu) (ℓ : Loc) (a : V) (t : Value → Sem α) (Q : β → Mu → Loc → Prop) : Prop :=
  ∀ s F x,Gd W → FxOk W.H₀ Φ ns gs → In W Φ ns F μ ℓ s → Is s.heap F a x → wN (W.M) Φ.A (t x) (Res W R Φ ns F s.heap Q) (fun u_ u_ => False) s
noncomputable def X2 {α β : Type} (R : Heap → (Addr → Prop) → β → α → Prop) (Φ : Fx) (ns : List Str) (gs : List (Str × Value)) (μ : Mu) (ℓ : Loc) (a b : V) (t : Value → Value → Sem α) (Q : β → Mu → Loc → Prop) : Prop :=
  ∀ s F x y,Gd W → FxOk W.H₀ Φ ns gs → In W Φ ns F μ ℓ s → Is s.heap F a x → Is s.heap F b y → wN (W.M) Φ.A (t x y) (Res W R Φ ns F s.heap Q) (fun u_ u_ => False) s
noncomputable def X3 {α β : Type} (R : Heap → (Addr → Prop) → β → α → Prop) (Φ : Fx) (ns : List Str) (gs : List (Str × Value)) (μ : Mu) (ℓ : Loc) (a b c : V) (t : Value → Value → Value → Sem α) (Q : β → Mu → Loc → Prop) : Prop :=
  ∀ s F x y z,Gd W → FxOk W.H₀ Φ ns gs → In W Φ ns F μ ℓ s → Is s.heap F a x → Is s.heap F b y → Is s.heap F c z → wN (W.M) Φ.A (t x y z) (Res W R Φ ns F s.heap Q) (fun u_ u_ => False) s
noncomputable def XL {α β : Type} (R : Heap → (Addr → Prop) → β → α → Prop) (Φ : Fx) (ns : List Str) (gs : List (Str × Value)) (μ : Mu) (ℓ : Loc) (l : List V) (t : List Value → Sem α) (Q : β → Mu → Loc → Prop) : Prop :=
  ∀ s F xs,Gd W → FxOk W.H₀ Φ ns gs → In W Φ ns F μ ℓ s → IsL s.heap F l xs → wN (W.M) Φ.A (t xs) (Res W R Φ ns F s.heap Q) (fun u_ u_ => False) s
inductive SRes (M : List Addr) (F : Addr → Prop) (h : Heap) (Q : V → Mu → Prop) (s' : Shared) (val : Value) : Prop
  | mk (F' : Addr → Prop) (v : V) (μ' : Mu) (h1 : St W F' μ' s') (h2 : Grow M F h F' μ' s'.heap) (h3 : Is s'.heap F' v val) (h4 : Q v μ') : SRes M F h Q s' val
noncomputable def Spec (n : Nat) (f : Value) (args : List V) (kw : List (Str × V)) (μ : Mu) (Q : V → Mu → Prop) : Prop :=
  ∀ A s F vals kvals,Gd W → Room A n → St W F μ s → IsL s.heap F args vals → IsL s.heap F (kw.map (·.2)) kvals →
    cN (W.M) A (.call f ⟨vals,(kw.map (·.1)).zip kvals⟩) (fun r s' => ∃ val,r = .ok (.ret val) ∧ SRes W (addrs μ) F s.heap Q s' val) s
end
theorem Spec.go {W : Wd} {n : Nat} {f : Value} {args : List V} {kw : List (Str × V)} {μ : Mu} {Q : V → Mu → Prop} (h : Spec W n f args kw μ Q) {A : Around} {s : Shared} {F : Addr → Prop} {vals kvals : List Value} (G : Gd W) (r : Room A n) (I : St W F μ s) (hx : IsL s.heap F args vals) (hk : IsL s.heap F (kw.map (·.2)) kvals) :
    wN W.M A (call f vals ((kw.map (·.1)).zip kvals)) (fun val s' => SRes W (addrs μ) F s.heap Q s' val) (fun u_ u_ => False) s :=
  .call (cN.mono (h A s F vals kvals G r I hx hk) fun r s' ⟨val,e,z⟩ => by subst e; exact z)
noncomputable abbrev flat : V → Tok → Value
  | .bool b,_ => .bool b
  | .int i,t => .int i t
  | .str s,t => .str s t
  | .bytes b,t => .bytes b.toArray t
  | .val v,_ => v
  | _,_ => .none
noncomputable def V.plain : V → Bool
  | .none | .bool _ | .int _ | .str _ | .bytes _ | .val _ => true
  | _ => false
theorem Is.inv {h : Heap} {F : Addr → Prop} {v : V} {x : Value} (q : Is h F v x) (p : v.plain = true := by rfl) : ∃ t,x = flat v t := by
  cases q <;> first | exact ⟨0,rfl⟩ | exact ⟨_,rfl⟩ | cases p
theorem Is.tup_inv {h : Heap} {F : Addr → Prop} {l : List V} {x : Value} (q : Is h F (.tup l) x) : ∃ a vs n o,x = .ref a ∧ F a ∧ h.get? a = some o ∧ o.cls = .type "tuple" ∧ o.data = .seq (List.toArray vs) n ∧ IsL h F l vs := by
  cases q with
  | tup hF ho hc hd hl => exact ⟨_,_,_,_,rfl,hF,ho,hc,hd,hl⟩
theorem Is.lst_inv {h : Heap} {F : Addr → Prop} {l : List V} {x : Value} (q : Is h F (.lst l) x) : ∃ a vs n o,x = .ref a ∧ F a ∧ h.get? a = some o ∧ o.cls = .type "list" ∧ o.data = .seq (List.toArray vs) n ∧ IsL h F l vs := by
  cases q with
  | lst hF ho hc hd hl => exact ⟨_,_,_,_,rfl,hF,ho,hc,hd,hl⟩
end
section
open PySem PySem.W PyProof.Rows PySem.Calls
section
variable {W : Wd} {Φ : Fx} {ns : List Str} {gs : List (Str × Value)} {μ μ' : Mu} {ℓ ℓ' : Loc} {F F' : Addr → Prop} {s : Shared} {α β : Type} {R : Heap → (Addr → Prop) → β → α → Prop}
theorem Room.in1 {A : Around} {n : Nat} (r : Room A n) : Room A.in1 n ∨ True := .inr trivial
theorem St.tok {F : Addr → Prop} {μ : Mu} {s : Shared} (I : St W F μ s) {k : Nat} : St W F μ { s with toks := k } :=
  ⟨I.gens,I.os,I.base,I.mu,I.nodup,I.froz,I.frozBase⟩
theorem In.tok (I : In W Φ ns F μ ℓ s) {k : Nat} : In W Φ ns F μ ℓ { s with toks := k } := ⟨I.st.tok,I.loc,I.apart,I.nfroz,I.grow⟩
theorem In.tok1 (I : In W Φ ns F μ ℓ s) : In W Φ ns F μ ℓ { s with toks := s.toks + 1 } := I.tok
theorem res_here {b : β} {a : α} {Q : β → Mu → Loc → Prop} (I : In W Φ ns F μ ℓ s) (r : R s.heap F b a) (q : Q b μ ℓ) : Res W R Φ ns F s.heap Q a s := ⟨F,b,μ,ℓ,I,.refl,r,q⟩
theorem res_tok {b : β} {a : α} {Q : β → Mu → Loc → Prop} {k : Nat} (I : In W Φ ns F μ ℓ s) (r : R s.heap F b a) (q : Q b μ ℓ) : Res W R Φ ns F s.heap Q a { s with toks := k } := ⟨F,b,μ,ℓ,I.tok,.refl,r,q⟩
theorem Res.mono {a : α} {Q Q' : β → Mu → Loc → Prop} {h : Heap} (r : Res W R Φ ns F h Q a s) (k : ∀ b μ ℓ,Q b μ ℓ → Q' b μ ℓ) : Res W R Φ ns F h Q' a s :=
  let ⟨F',b,μ',ℓ',i,e,r,q⟩ := r; ⟨F',b,μ',ℓ',i,e,r,k _ _ _ q⟩
theorem Res.ext {a : α} {Q : β → Mu → Loc → Prop} {h : Heap} {F₁ : Addr → Prop} {h₁ : Heap} (x : Ext F₁ h₁ F h) (r : Res W R Φ ns F h Q a s) : Res W R Φ ns F₁ h₁ Q a s :=
  let ⟨F',b,μ',ℓ',i,e,r,q⟩ := r; ⟨F',b,μ',ℓ',i,x.trans e,r,q⟩
theorem step {γ δ : Type} {R₁ : Heap → (Addr → Prop) → δ → γ → Prop} {t : Sem γ} {f : γ → Sem α} {Q₁ : δ → Mu → Loc → Prop} {Q : β → Mu → Loc → Prop} {A : Around} {h : Heap}
    (h1 : wN W.M A t (Res W R₁ Φ ns F h Q₁) (fun u_ u_ => False) s)
    (k : ∀ s' F' c μ' ℓ' d,In W Φ ns F' μ' ℓ' s' → Ext F h F' s'.heap → R₁ s'.heap F' d c → Q₁ d μ' ℓ' → wN W.M A (f c) (Res W R Φ ns F' s'.heap Q) (fun u_ u_ => False) s') :
    wN W.M A (t >>= f) (Res W R Φ ns F h Q) (fun u_ u_ => False) s :=
  wN.bind (wN.mono h1 (fun c s' ⟨F',d,μ',ℓ',i,e,r,q⟩ => wN.mono (k s' F' c μ' ℓ' d i e r q) (fun u_ u_ z => z.ext e) (fun u_ u_ z => z)) (fun u_ u_ z => z))
theorem stepQ {γ δ : Type} {R₁ : Heap → (Addr → Prop) → δ → γ → Prop} {t : Sem γ} {P : γ → Shared → Prop} {Q₁ : δ → Mu → Loc → Prop} {A : Around} {h : Heap} {E : Value → Shared → Prop}
    (h1 : wN W.M A t (Res W R₁ Φ ns F h Q₁) (fun u_ u_ => False) s)
    (k : ∀ s' F' c μ' ℓ' d,In W Φ ns F' μ' ℓ' s' → Ext F h F' s'.heap → R₁ s'.heap F' d c → Q₁ d μ' ℓ' → P c s') :
    wN W.M A t P E s :=
  wN.mono h1 (fun c s' ⟨F',d,μ',ℓ',i,e,r,q⟩ => k s' F' c μ' ℓ' d i e r q) (fun u_ u_ z => z.elim)
inductive LocGet : List Str → Loc → Str → V → Prop
  | here {x : Str} {ns : List Str} {v : V} {ℓ : Loc} : LocGet (x :: ns) (some v :: ℓ) x v
  | there {x y : Str} {ns : List Str} {v : V} {o : Option V} {ℓ : Loc} (h : LocGet ns ℓ x v) : LocGet (y :: ns) (o :: ℓ) x v
inductive LocSet : List Str → Loc → Str → V → Loc → Prop
  | here {x : Str} {ns : List Str} {v : V} {o : Option V} {ℓ : Loc} : LocSet (x :: ns) (o :: ℓ) x v (some v :: ℓ)
  | there {x y : Str} {ns : List Str} {v : V} {o : Option V} {ℓ ℓ' : Loc} (h : LocSet ns ℓ x v ℓ') : LocSet (y :: ns) (o :: ℓ) x v (o :: ℓ')
theorem LocGet.mem {x : Str} {v : V} {ns : List Str} {ℓ : Loc} (g : LocGet ns ℓ x v) : x ∈ ns := g.rec (.head _) fun u_ i => .tail _ i
theorem LocSet.mem {x : Str} {v : V} {ns : List Str} {ℓ ℓ' : Loc} (g : LocSet ns ℓ x v ℓ') : x ∈ ns := g.rec (.head _) fun u_ i => .tail _ i
theorem LocL.get {h : Heap} {F : Addr → Prop} {m : Str → Option Value} {x : Str} {v : V} {ns : List Str} {ℓ : Loc} (l : LocL h F m ns ℓ) (g : LocGet ns ℓ x v) : ∃ y,m x = some y ∧ Is h F v y := by
  induction g with
  | here => exact l.1
  | there _ ih => exact ih l.2
theorem LocL.other {h : Heap} {F : Addr → Prop} {m : Str → Option Value} {x : Str} {y : Value} : ∀ {ns : List Str} {ℓ : Loc},LocL h F m ns ℓ → x ∉ ns → LocL h F (fun z => if z = x then some y else m z) ns ℓ
  | [],[],_,_ => trivial
  | n :: _,_ :: _,⟨p,q⟩,hx => ⟨by show IsO h F _ (if n = x then _ else _); rw [if_neg (fun e => hx (by rw [e]; exact .head _))]; exact p,q.other fun e => hx (.tail _ e)⟩
theorem LocL.set {h : Heap} {F : Addr → Prop} {m : Str → Option Value} {x : Str} {v : V} {y : Value} (hv : Is h F v y) {ns : List Str} {ℓ ℓ' : Loc} (nd : ns.Nodup) (l : LocL h F m ns ℓ) (g : LocSet ns ℓ x v ℓ') : LocL h F (fun z => if z = x then some y else m z) ns ℓ' := by
  induction g with
  | here => exact ⟨by show IsO h F _ (if _ = _ then _ else _); rw [if_pos rfl]; exact ⟨y,rfl,hv⟩,l.2.other (List.nodup_cons.mp nd).1⟩
  | @there x z _ _ _ _ _ g ih => exact ⟨by show IsO h F _ (if z = x then _ else _); rw [if_neg (fun e => (List.nodup_cons.mp nd).1 (by rw [e]; exact g.mem))]; exact l.1,ih hv (List.nodup_cons.mp nd).2 l.2⟩
theorem x_local {x : Str} {pos : Pos} {v : V} {Q : V → Mu → Loc → Prop} (g : LocGet ns ℓ x v) (q : Q v μ ℓ) : X W RV Φ ns gs μ ℓ (eval (.Name x pos) Φ.env) Q := by
  intro s F G O I;apply gG;intro nG
  obtain ⟨m,hm,hl⟩ := I.loc;obtain ⟨y,hy,hv⟩ := hl.get g;apply nG;clear nG;exact .of <| wpAny_Name (wpAny_loadName_local O.kind (O.loc x g.mem).1 hm hy (res_here I hv q)) (O.loc x g.mem).2
theorem x_global {x : Str} {pos : Pos} {v : Value} {Q : V → Mu → Loc → Prop} (g : (x,v) ∈ gs) (q : Q (.val v) μ ℓ) : X W RV Φ ns gs μ ℓ (eval (.Name x pos) Φ.env) Q := by
  intro s F G O I;apply gG;intro nG
  obtain ⟨h1,h2,h3⟩ := O.gl _ g;apply nG;clear nG;refine .of <| Name_function_global O.kind h1 ?_ h2
  (apply gG;intro nG; rcases h3 with ⟨mg,a,b⟩ | ⟨mg,mb,a,b,c,d⟩ <;> refine nG ?_ <;> clear nG)
  · exact loadGlobal_global (O.glob ▸ a.keeps I.st.base) b (res_here I .val q)
  · exact loadGlobal_builtin (O.glob ▸ a.keeps I.st.base) b (O.bui ▸ c.keeps I.st.base) d (res_here I .val q)
theorem x_int {i : Int} {k pos} {Q : V → Mu → Loc → Prop} (q : Q (.int i) μ ℓ) : X W RV Φ ns gs μ ℓ (eval (.Constant (.int i) k pos) Φ.env) Q :=
  fun s F G O I => .of <| wpAny_Constant_int (res_tok I .int q)
theorem x_str {x : Str} {k pos} {Q : V → Mu → Loc → Prop} (q : Q (.str x) μ ℓ) : X W RV Φ ns gs μ ℓ (eval (.Constant (.str x) k pos) Φ.env) Q :=
  fun s F G O I => .of <| wpAny_Constant_str (res_tok I .str q)
theorem x_bytes {x : List UInt8} {k pos} {Q : V → Mu → Loc → Prop} (q : Q (.bytes x) μ ℓ) : X W RV Φ ns gs μ ℓ (eval (.Constant (.bytes x) k pos) Φ.env) Q :=
  fun s F G O I => .of fun u_ u_ u_ => res_tok (R := RV) I .bytes q
theorem x_none {k pos} {Q : V → Mu → Loc → Prop} (q : Q .none μ ℓ) : X W RV Φ ns gs μ ℓ (eval (.Constant .none k pos) Φ.env) Q :=
  fun s F G O I => .of <| wpAny_Constant_none (res_here I .none q)
theorem x_bool {b : Bool} {k pos} {Q : V → Mu → Loc → Prop} (q : Q (.bool b) μ ℓ) : X W RV Φ ns gs μ ℓ (eval (.Constant (.bool b) k pos) Φ.env) Q :=
  fun s F G O I => .of <| wpAny_Constant_bool (res_here I .bool q)
theorem x_BinOp {l r : Expr} {op : Operator} {pos : Pos} {Q : V → Mu → Loc → Prop}
    (h : X W RV Φ ns gs μ ℓ (eval l Φ.env) fun a μ ℓ => X W RV Φ ns gs μ ℓ (eval r Φ.env) fun b μ ℓ => X2 W RV Φ ns gs μ ℓ a b (binaryOp op) Q) :
    X W RV Φ ns gs μ ℓ (eval (.BinOp l op r pos) Φ.env) Q := by
  intro s F G O I;rw [eval_BinOp];refine .bind (stepQ (h s F G O I) fun s₁ F₁ x μ₁ ℓ₁ a i₁ e₁ hx q₁ => ?_);refine .bind (.holding (stepQ (q₁ s₁ F₁ G O i₁) fun s₂ F₂ y μ₂ ℓ₂ b i₂ e₂ hy q₂ => ?_));refine .stand (.operate ?_);exact wN.mono (q₂ s₂ F₂ x y G O i₂ (hx.ext e₂) hy) (fun u_ u_ z => z.ext (e₁.trans e₂)) (fun u_ u_ z => z)
end
end
section
open PySem PySem.W PyProof.Rows PySem.Calls
section
variable {W : Wd} {Φ : Fx} {ns : List Str} {gs : List (Str × Value)} {μ μ' : Mu} {ℓ ℓ' : Loc} {F F' : Addr → Prop} {s : Shared} {α β : Type} {R : Heap → (Addr → Prop) → β → α → Prop}
theorem x_mono {t : Sem α} {Q Q' : β → Mu → Loc → Prop} (h : X W R Φ ns gs μ ℓ t Q) (k : ∀ b μ ℓ,Q b μ ℓ → Q' b μ ℓ) : X W R Φ ns gs μ ℓ t Q' :=
  fun s F G O I => wN.mono (h s F G O I) (fun u_ u_ r => r.mono k) (fun u_ u_ z => z)
theorem x1_mono {a : V} {t : Value → Sem α} {Q Q' : β → Mu → Loc → Prop} (h : X1 W R Φ ns gs μ ℓ a t Q) (k : ∀ b μ ℓ,Q b μ ℓ → Q' b μ ℓ) : X1 W R Φ ns gs μ ℓ a t Q' :=
  fun s F x G O I hx => wN.mono (h s F x G O I hx) (fun u_ u_ r => r.mono k) (fun u_ u_ z => z)
theorem x2_mono {a b : V} {t : Value → Value → Sem α} {Q Q' : β → Mu → Loc → Prop} (h : X2 W R Φ ns gs μ ℓ a b t Q) (k : ∀ b μ ℓ,Q b μ ℓ → Q' b μ ℓ) : X2 W R Φ ns gs μ ℓ a b t Q' :=
  fun s F x y G O I hx hy => wN.mono (h s F x y G O I hx hy) (fun u_ u_ r => r.mono k) (fun u_ u_ z => z)
theorem In.store {x : Str} {v : V} {y : Value} {h' : Heap} {k : Nat} (O : FxOk W.H₀ Φ ns gs) (I : In W Φ ns F μ ℓ s) (hv : Is s.heap F v y) (g : LocSet ns ℓ x v ℓ')
    {m : Str → Option Value} (hl : LocL s.heap F m ns ℓ) (hn : h'.Ns Φ.env.locals (fun z => if z = x then some y else m z)) (hs : Heap.SameBut Φ.env.locals s.heap h') :
    In W Φ ns F μ ℓ' { s with heap := h',toks := k } ∧ Ext F s.heap F h' := by
  have nz : ∀ a o,F a → s.heap.get? a = some o → h'.get? a = some o := fun a o fa e => (hs.2 a fun q => I.nfroz (q ▸ fa)).trans e
  have ex : Ext F s.heap F h' := ⟨fun u_ z => z,nz⟩
  refine ⟨⟨⟨I.st.gens,I.st.os,fun b o e => nz b o (I.st.frozBase b o e) (I.st.base b o e),fun p hp => ?_,I.st.nodup,fun a fa => ?_,I.st.frozBase⟩,⟨_,hn,?_⟩,I.apart,I.nfroz,⟨fun b o e nb => ?_,I.grow.mono,I.grow.froz,I.grow.new⟩⟩,ex⟩
  · apply gG;intro nG
    obtain ⟨o,ho,hc⟩ := I.st.mu p hp;apply nG;clear nG;exact ⟨o,(hs.2 p.1 fun q => I.apart (q ▸ List.mem_map_of_mem hp)).trans ho,hc.ext ex⟩
  · apply gG;intro nG
    obtain ⟨⟨o,ho⟩,na⟩ := I.st.froz a fa;apply nG;clear nG;exact ⟨⟨o,nz a o fa ho⟩,na⟩
  · exact (hl.set hv O.nodup g).ext ex
  · exact (hs.2 b fun q => by rw [q] at e; rw [O.isNew.1] at e; cases e).trans (I.grow.keep b o e nb)
theorem store_name {x : Str} {v : V} {y : Value} {Q : Fl → Mu → Loc → Prop} (O : FxOk W.H₀ Φ ns gs) (I : In W Φ ns F μ ℓ s) (hv : Is s.heap F v y) (g : LocSet ns ℓ x v ℓ') (q : Q .next μ ℓ') :
    wN W.M Φ.A (bindName Φ.env x y >>= fun u_ => pure Flow.next) (Res W RF Φ ns F s.heap Q) (fun u_ u_ => False) s := by
  apply gG;intro nG
  obtain ⟨m,hm,hl⟩ := I.loc;apply nG;clear nG;refine .bind (.of fun Γ p hΓ => ?_);rw [Sem.wp_bindName];refine wpAny_storeName_local (Q := fun u_ s' => wN W.M Φ.A (pure Flow.next) (Res W RF Φ ns F s.heap Q) (fun u_ u_ => False) s') (O.loc x g.mem).1 hm (fun h' hn hs => ?_) (by rw [O.kind]; rfl) Γ p hΓ;refine .pure ?_;obtain ⟨i,e⟩ := I.store (k := s.toks + 1) O hv g hl hn hs;exact ⟨F,.next,μ,ℓ',i,e,.next,q⟩
noncomputable def seqQ (W : Wd) (Φ : Fx) (ns : List Str) (gs : List (Str × Value)) (rest : List Stmt) (Q : Fl → Mu → Loc → Prop) (f : Fl) (μ : Mu) (ℓ : Loc) : Prop :=
  match f with
  | .next => X W RF Φ ns gs μ ℓ (execs rest Φ.env) Q
  | f => Q f μ ℓ
theorem xs_nil {Q : Fl → Mu → Loc → Prop} (q : Q .next μ ℓ) : X W RF Φ ns gs μ ℓ (execs [] Φ.env) Q := fun s F G O I => .of <| wpAny_execs_nil (res_here I .next q)
theorem xs_cons {st : Stmt} {rest : List Stmt} {Q : Fl → Mu → Loc → Prop} (h : X W RF Φ ns gs μ ℓ (exec st Φ.env) (seqQ W Φ ns gs rest Q)) : X W RF Φ ns gs μ ℓ (execs (st :: rest) Φ.env) Q := by
  intro s F G O I;rw [execs_cons];refine .bind (stepQ (h s F G O I) fun s₁ F₁ c μ₁ ℓ₁ d i₁ e₁ r₁ q₁ => ?_);cases r₁ with
  | next => exact wN.mono (q₁ s₁ F₁ G O i₁) (fun u_ u_ z => z.ext e₁) (fun u_ u_ z => z)
  | brk => exact .pure ⟨F₁,_,μ₁,ℓ₁,i₁,e₁,.brk,q₁⟩
  | cont => exact .pure ⟨F₁,_,μ₁,ℓ₁,i₁,e₁,.cont,q₁⟩
  | ret hv => exact .pure ⟨F₁,_,μ₁,ℓ₁,i₁,e₁,.ret hv,q₁⟩
theorem xs_aug {x : Str} {pos' pos : Pos} {op : Operator} {value : Expr} {a : V} {Q : Fl → Mu → Loc → Prop} (g : LocGet ns ℓ x a)
    (h : X W RV Φ ns gs μ ℓ (eval value Φ.env) fun v μ ℓ => X2 W RV Φ ns gs μ ℓ a v (inplaceOp op) fun v μ ℓ => ∃ ℓ',LocSet ns ℓ x v ℓ' ∧ Q .next μ ℓ') :
    X W RF Φ ns gs μ ℓ (exec (.AugAssign (.Name x pos') op value pos) Φ.env) Q := by
  intro s F G O I;apply gG;intro nG
  obtain ⟨m,hm,hl⟩ := I.loc;obtain ⟨y,hy,hv⟩ := hl.get g;apply nG;clear nG;rw [exec_AugAssign_Name];refine .stand (.bind (.of (wpAny_loadName_local O.kind (O.loc x g.mem).1 hm hy ?_)));refine .bind (.holding (stepQ (h s F G O I) fun s₁ F₁ z μ₁ ℓ₁ v i₁ e₁ hz q₁ => ?_));refine .stand (.bind (.operate (stepQ (q₁ s₁ F₁ y z G O i₁ (hv.ext e₁) hz) fun s₂ F₂ r μ₂ ℓ₂ v₂ i₂ e₂ hr q₂ => .stand ?_)));apply gG;intro nG
  obtain ⟨ℓ',g',q⟩ := q₂;apply nG;clear nG;exact wN.mono (store_name O i₂ hr g' q) (fun u_ u_ z => z.ext (e₁.trans e₂)) (fun u_ u_ z => z)
theorem xs_return {e : Expr} {pos : Pos} {Q : Fl → Mu → Loc → Prop} (h : X W RV Φ ns gs μ ℓ (eval e Φ.env) fun v => Q (.ret v)) : X W RF Φ ns gs μ ℓ (exec (.Return (some e) pos) Φ.env) Q :=
  fun s F G O I => .stand (.bind (stepQ (h s F G O I) fun s₁ F₁ y μ₁ ℓ₁ v i₁ e₁ hv q₁ => .pure ⟨F₁,_,μ₁,ℓ₁,i₁,e₁,.ret hv,q₁⟩))
theorem xs_return_none {pos : Pos} {Q : Fl → Mu → Loc → Prop} (q : Q (.ret .none) μ ℓ) : X W RF Φ ns gs μ ℓ (exec (.Return none pos) Φ.env) Q :=
  fun s F G O I => .of <| wpAny_Return_none (res_here I (.ret .none) q)
theorem xs_continue {pos : Pos} {Q : Fl → Mu → Loc → Prop} (q : Q .cont μ ℓ) : X W RF Φ ns gs μ ℓ (exec (.Continue pos) Φ.env) Q :=
  fun s F G O I => .of <| wpAny_Continue (res_here I .cont q)
theorem xs_expr {e : Expr} {pos : Pos} {Q : Fl → Mu → Loc → Prop} (h : X W RV Φ ns gs μ ℓ (eval e Φ.env) fun v μ ℓ => Q .next μ ℓ)
    (hs : swapsWith e none pos.line Φ.env = pure false := by rfl) : X W RF Φ ns gs μ ℓ (exec (.Expr e pos) Φ.env) Q := by
  intro s F G O I;have hi : interactive Φ.env = false := by unfold interactive; rw [O.kind]; rfl
  rw [exec_Expr Φ.env e pos hi hs];refine .stand (.bind (stepQ (h s F G O I) fun s₁ F₁ y μ₁ ℓ₁ v i₁ e₁ hv q₁ => .of (wpAny_dropValue ?_)));exact ⟨F₁,_,μ₁,ℓ₁,i₁,e₁,.next,q₁⟩
theorem xs_if {test : Expr} {body orelse : List Stmt} {pos : Pos} {Q : Fl → Mu → Loc → Prop}
    (h : X W RB Φ ns gs μ ℓ (isTrue test Φ.env (eval test Φ.env)) fun b μ ℓ => if b = true then X W RF Φ ns gs μ ℓ (execs body Φ.env) Q else X W RF Φ ns gs μ ℓ (execs orelse Φ.env) Q) :
    X W RF Φ ns gs μ ℓ (exec (.If test body orelse pos) Φ.env) Q := by
  intro s F G O I;rw [exec_If];refine .stand (.bind (stepQ (h s F G O I) fun s₁ F₁ c μ₁ ℓ₁ b i₁ e₁ hb q₁ => ?_));subst hb;cases b
  · exact wN.mono (q₁ s₁ F₁ G O i₁) (fun u_ u_ z => z.ext e₁) (fun u_ u_ z => z)
  · exact wN.mono (q₁ s₁ F₁ G O i₁) (fun u_ u_ z => z.ext e₁) (fun u_ u_ z => z)
theorem xt_not {x : Expr} {pos : Pos} {whole : Sem Value} {Q : Bool → Mu → Loc → Prop} (h : X W RB Φ ns gs μ ℓ (isTrue x Φ.env (eval x Φ.env)) fun b => Q (!b)) :
    X W RB Φ ns gs μ ℓ (isTrue (.UnaryOp .Not x pos) Φ.env whole) Q :=
  fun s F G O I => .bind (stepQ (h s F G O I) fun s₁ F₁ c μ₁ ℓ₁ b i₁ e₁ hb q₁ => .pure ⟨F₁,_,μ₁,ℓ₁,i₁,e₁,(by rw [hb]),q₁⟩)
theorem xt_bool {op : BoolOp} {values : List Expr} {pos : Pos} {whole : Sem Value} {Q : Bool → Mu → Loc → Prop} (h : X W RB Φ ns gs μ ℓ (allTrue op values Φ.env) Q) :
    X W RB Φ ns gs μ ℓ (isTrue (.BoolOp op values pos) Φ.env whole) Q := fun s F G O I => h s F G O I
theorem xa_and_nil {Q : Bool → Mu → Loc → Prop} (q : Q true μ ℓ) : X W RB Φ ns gs μ ℓ (allTrue .And [] Φ.env) Q := fun s F G O I => .of <| wpAny_allTrue_And_nil (res_here I rfl q)
theorem xa_or_nil {Q : Bool → Mu → Loc → Prop} (q : Q false μ ℓ) : X W RB Φ ns gs μ ℓ (allTrue .Or [] Φ.env) Q := fun s F G O I => .of <| wpAny_allTrue_Or_nil (res_here I rfl q)
theorem xa_and {x : Expr} {rest : List Expr} {Q : Bool → Mu → Loc → Prop}
    (h : X W RB Φ ns gs μ ℓ (isTrue x Φ.env (eval x Φ.env)) fun b μ ℓ => if b = true then X W RB Φ ns gs μ ℓ (allTrue .And rest Φ.env) Q else Q false μ ℓ) :
    X W RB Φ ns gs μ ℓ (allTrue .And (x :: rest) Φ.env) Q := by
  intro s F G O I;show wN _ _ (isTrue x Φ.env (eval x Φ.env) >>= fun b => match BoolOp.And,b with | .And,false => pure false | .Or,true => pure true | _,_ => allTrue .And rest Φ.env) _ _ _;refine .bind (stepQ (h s F G O I) fun s₁ F₁ c μ₁ ℓ₁ b i₁ e₁ hb q₁ => ?_);subst hb;cases b
  · exact .pure ⟨F₁,_,μ₁,ℓ₁,i₁,e₁,rfl,q₁⟩
  · exact wN.mono (q₁ s₁ F₁ G O i₁) (fun u_ u_ z => z.ext e₁) (fun u_ u_ z => z)
theorem xa_or {x : Expr} {rest : List Expr} {Q : Bool → Mu → Loc → Prop}
    (h : X W RB Φ ns gs μ ℓ (isTrue x Φ.env (eval x Φ.env)) fun b μ ℓ => if b = true then Q true μ ℓ else X W RB Φ ns gs μ ℓ (allTrue .Or rest Φ.env) Q) :
    X W RB Φ ns gs μ ℓ (allTrue .Or (x :: rest) Φ.env) Q := by
  intro s F G O I;show wN _ _ (isTrue x Φ.env (eval x Φ.env) >>= fun b => match BoolOp.Or,b with | .And,false => pure false | .Or,true => pure true | _,_ => allTrue .Or rest Φ.env) _ _ _;refine .bind (stepQ (h s F G O I) fun s₁ F₁ c μ₁ ℓ₁ b i₁ e₁ hb q₁ => ?_);subst hb;cases b
  · exact wN.mono (q₁ s₁ F₁ G O i₁) (fun u_ u_ z => z.ext e₁) (fun u_ u_ z => z)
  · exact .pure ⟨F₁,_,μ₁,ℓ₁,i₁,e₁,rfl,q₁⟩
theorem xt_value {e : Expr} {Q : Bool → Mu → Loc → Prop} (h : X W RV Φ ns gs μ ℓ (eval e Φ.env) fun v μ ℓ => X1 W RB Φ ns gs μ ℓ v truthy Q)
    (he : ∀ whole,isTrue e Φ.env whole = (do let v ← whole; standAt e.pos; holding [v] (truthy v)) := by intro _; rfl) : X W RB Φ ns gs μ ℓ (isTrue e Φ.env (eval e Φ.env)) Q := by
  intro s F G O I;rw [he];refine .bind (stepQ (h s F G O I) fun s₁ F₁ y μ₁ ℓ₁ v i₁ e₁ hv q₁ => .stand (.holding ?_));exact wN.mono (q₁ s₁ F₁ y G O i₁ hv) (fun u_ u_ z => z.ext e₁) (fun u_ u_ z => z)
theorem xt_cmp {l r : Expr} {op : CmpOp} {pos : Pos} {whole : Sem Value} {Q : Bool → Mu → Loc → Prop}
    (h : X W RV Φ ns gs μ ℓ (eval l Φ.env) fun a μ ℓ => X W RV Φ ns gs μ ℓ (eval r Φ.env) fun b μ ℓ => X2 W RV Φ ns gs μ ℓ a b (compareOp op) fun c μ ℓ => X1 W RB Φ ns gs μ ℓ c truthy Q)
    (hm : behindInMarks op r = false := by with_unfolding_all rfl) : X W RB Φ ns gs μ ℓ (isTrue (.Compare l [op] [r] pos) Φ.env whole) Q := by
  intro s F G O I;rw [isTrue_Compare1,markedBehindIn_of_false hm];refine .bind (stepQ (h s F G O I) fun s₁ F₁ x μ₁ ℓ₁ a i₁ e₁ hx q₁ => ?_);refine .bind (.holding (stepQ (q₁ s₁ F₁ G O i₁) fun s₂ F₂ y μ₂ ℓ₂ b i₂ e₂ hy q₂ => .stand ?_));refine .bind (.operate (stepQ (q₂ s₂ F₂ x y G O i₂ (hx.ext e₂) hy) fun s₃ F₃ z μ₃ ℓ₃ c i₃ e₃ hz q₃ => .holding ?_));exact wN.mono (q₃ s₃ F₃ z G O i₃ hz) (fun u_ u_ z => z.ext ((e₁.trans e₂).trans e₃)) (fun u_ u_ z => z)
theorem x_cmp {l r : Expr} {op : CmpOp} {pos : Pos} {Q : V → Mu → Loc → Prop}
    (h : X W RV Φ ns gs μ ℓ (eval l Φ.env) fun a μ ℓ => X W RV Φ ns gs μ ℓ (eval r Φ.env) fun b μ ℓ => X2 W RV Φ ns gs μ ℓ a b (compareOp op) Q)
    (hm : behindInMarks op r = false := by with_unfolding_all rfl) : X W RV Φ ns gs μ ℓ (eval (.Compare l [op] [r] pos) Φ.env) Q := by
  intro s F G O I;rw [eval_Compare1,markedBehindIn_of_false hm];refine .bind (stepQ (h s F G O I) fun s₁ F₁ x μ₁ ℓ₁ a i₁ e₁ hx q₁ => ?_);refine .bind (.holding (stepQ (q₁ s₁ F₁ G O i₁) fun s₂ F₂ y μ₂ ℓ₂ b i₂ e₂ hy q₂ => .stand (.operate ?_)));exact wN.mono (q₂ s₂ F₂ x y G O i₂ (hx.ext e₂) hy) (fun u_ u_ z => z.ext (e₁.trans e₂)) (fun u_ u_ z => z)
theorem xt_cmp2 {l m r : Expr} {op op' : CmpOp} {pos : Pos} {whole : Sem Value} {Q : Bool → Mu → Loc → Prop}
    (h : X W RV Φ ns gs μ ℓ (eval l Φ.env) fun a μ ℓ => X W RV Φ ns gs μ ℓ (eval m Φ.env) fun b μ ℓ => X2 W RV Φ ns gs μ ℓ a b (compareOp op) fun c μ ℓ => X1 W RB Φ ns gs μ ℓ c truthy fun t μ ℓ =>
      if t = true then X W RV Φ ns gs μ ℓ (eval r Φ.env) fun d μ ℓ => X2 W RV Φ ns gs μ ℓ b d (compareOp op') fun c μ ℓ => X1 W RB Φ ns gs μ ℓ c truthy Q else Q false μ ℓ)
    (hm' : behindInMarks op' r = false := by with_unfolding_all rfl) :
    X W RB Φ ns gs μ ℓ (isTrue (.Compare l [op,op'] [m,r] pos) Φ.env whole) Q := by
  intro s F G O I;show wN _ _ (eval l Φ.env >>= fun a => testChain pos a [op,op'] [eval m Φ.env,markedBehindIn op' r (eval r Φ.env)]) _ _ _;rw [markedBehindIn_of_false hm'];refine .bind (stepQ (h s F G O I) fun s₁ F₁ x μ₁ ℓ₁ a i₁ e₁ hx q₁ => ?_);show wN _ _ (holding [x] (eval m Φ.env) >>= _) _ _ _;refine .bind (.holding (stepQ (q₁ s₁ F₁ G O i₁) fun s₂ F₂ y μ₂ ℓ₂ b i₂ e₂ hy q₂ => ?_));refine .stand (.bind (.holding (stepQ (q₂ s₂ F₂ x y G O i₂ (hx.ext e₂) hy) fun s₃ F₃ z μ₃ ℓ₃ c i₃ e₃ hz q₃ => ?_)));refine .bind (.of fun Γ p hΓ => ?_);unfold release; rw [Sem.wp_release_go];refine .bind (.holding (stepQ (q₃ s₃ F₃ z G O i₃ hz) fun s₄ F₄ t μ₄ ℓ₄ t' i₄ e₄ ht q₄ => ?_));subst ht;cases t'
  · exact .pure ⟨F₄,_,μ₄,ℓ₄,i₄,((e₁.trans e₂).trans e₃).trans e₄,rfl,q₄⟩
  · show wN _ _ (testChain pos y [op'] [eval r Φ.env]) _ _ _;show wN _ _ (holding [y] (eval r Φ.env) >>= _) _ _ _;refine .bind (.holding (stepQ (q₄ s₄ F₄ G O i₄) fun s₅ F₅ u μ₅ ℓ₅ d i₅ e₅ hu q₅ => ?_));refine .stand (.bind (.operate ?_));refine stepQ (q₅ s₅ F₅ y u G O i₅ (((hy.ext e₃).ext e₄).ext e₅) hu) (fun s₆ F₆ c' μ₆ ℓ₆ c'' i₆ e₆ hc q₆ => ?_);exact .holding (wN.mono (q₆ s₆ F₆ c' G O i₆ hc) (fun u_ u_ z => z.ext (((((e₁.trans e₂).trans e₃).trans e₄).trans e₅).trans e₆)) (fun u_ u_ z => z))
theorem x_ifexp {test body orelse : Expr} {pos : Pos} {Q : V → Mu → Loc → Prop}
    (h : X W RB Φ ns gs μ ℓ (isTrue test Φ.env (eval test Φ.env)) fun b μ ℓ => if b = true then X W RV Φ ns gs μ ℓ (eval body Φ.env) Q else X W RV Φ ns gs μ ℓ (eval orelse Φ.env) Q) :
    X W RV Φ ns gs μ ℓ (eval (.IfExp test body orelse pos) Φ.env) Q := by
  intro s F G O I;rw [arm_eval_IfExp];refine .bind (stepQ (h s F G O I) fun s₁ F₁ c μ₁ ℓ₁ b i₁ e₁ hb q₁ => ?_);subst hb;cases b
  · exact wN.mono (q₁ s₁ F₁ G O i₁) (fun u_ u_ z => z.ext e₁) (fun u_ u_ z => z)
  · exact wN.mono (q₁ s₁ F₁ G O i₁) (fun u_ u_ z => z.ext e₁) (fun u_ u_ z => z)
theorem x_and2 {x y : Expr} {pos : Pos} {Q : V → Mu → Loc → Prop}
    (h : X W RV Φ ns gs μ ℓ (eval x Φ.env) fun a μ ℓ => X1 W RB Φ ns gs μ ℓ a truthy fun b μ ℓ => if b = true then X W RV Φ ns gs μ ℓ (eval y Φ.env) Q else Q a μ ℓ) :
    X W RV Φ ns gs μ ℓ (eval (.BoolOp .And [x,y] pos) Φ.env) Q := by
  intro s F G O I;show wN _ _ (eval x Φ.env >>= fun v => standAt pos >>= fun u_ => holding [v] (truthy v) >>= fun t => match BoolOp.And,t with
    | .And,false | .Or,true => pure v
    | _,_ => boolOp pos .And [eval y Φ.env]) _ _ _
  refine .bind (stepQ (h s F G O I) fun s₁ F₁ c μ₁ ℓ₁ a i₁ e₁ ha q₁ => .stand ?_);refine .bind (.holding (stepQ (q₁ s₁ F₁ c G O i₁ ha) fun s₂ F₂ c' μ₂ ℓ₂ b i₂ e₂ hb q₂ => ?_));subst hb;cases b
  · exact .pure ⟨F₂,_,μ₂,ℓ₂,i₂,e₁.trans e₂,ha.ext e₂,q₂⟩
  · exact wN.mono (q₂ s₂ F₂ G O i₂) (fun u_ u_ z => z.ext (e₁.trans e₂)) (fun u_ u_ z => z)
theorem x_or2 {x y : Expr} {pos : Pos} {Q : V → Mu → Loc → Prop}
    (h : X W RV Φ ns gs μ ℓ (eval x Φ.env) fun a μ ℓ => X1 W RB Φ ns gs μ ℓ a truthy fun b μ ℓ => if b = true then Q a μ ℓ else X W RV Φ ns gs μ ℓ (eval y Φ.env) Q) :
    X W RV Φ ns gs μ ℓ (eval (.BoolOp .Or [x,y] pos) Φ.env) Q := by
  intro s F G O I;show wN _ _ (eval x Φ.env >>= fun v => standAt pos >>= fun u_ => holding [v] (truthy v) >>= fun t => match BoolOp.Or,t with
    | .And,false | .Or,true => pure v
    | _,_ => boolOp pos .Or [eval y Φ.env]) _ _ _
  refine .bind (stepQ (h s F G O I) fun s₁ F₁ c μ₁ ℓ₁ a i₁ e₁ ha q₁ => .stand ?_);refine .bind (.holding (stepQ (q₁ s₁ F₁ c G O i₁ ha) fun s₂ F₂ c' μ₂ ℓ₂ b i₂ e₂ hb q₂ => ?_));subst hb;cases b
  · exact wN.mono (q₂ s₂ F₂ G O i₂) (fun u_ u_ z => z.ext (e₁.trans e₂)) (fun u_ u_ z => z)
  · exact .pure ⟨F₂,_,μ₂,ℓ₂,i₂,e₁.trans e₂,ha.ext e₂,q₂⟩
theorem x_unary {op : UnaryOp} {x : Expr} {pos : Pos} {Q : V → Mu → Loc → Prop} (h : X W RV Φ ns gs μ ℓ (eval x Φ.env) fun a μ ℓ => X1 W RV Φ ns gs μ ℓ a (unaryOp op) Q) :
    X W RV Φ ns gs μ ℓ (eval (.UnaryOp op x pos) Φ.env) Q := by
  intro s F G O I;rw [arm_eval_UnaryOp];refine .bind (stepQ (h s F G O I) fun s₁ F₁ c μ₁ ℓ₁ a i₁ e₁ ha q₁ => .stand (.holding ?_));exact wN.mono (q₁ s₁ F₁ c G O i₁ ha) (fun u_ u_ z => z.ext e₁) (fun u_ u_ z => z)
end
end
section
open PySem PySem.W PyProof.Rows PySem.Calls
inductive Split : Mu → Mu → Mu → Prop
  | nil : Split [] [] []
  | l {p : Addr × Ce} {μ μ₁ ν : Mu} (h : Split μ μ₁ ν) : Split (p :: μ) (p :: μ₁) ν
  | r {p : Addr × Ce} {μ μ₁ ν : Mu} (h : Split μ μ₁ ν) : Split (p :: μ) μ₁ (p :: ν)
theorem Split.perm {μ μ₁ ν : Mu} (h : Split μ μ₁ ν) : (μ₁ ++ ν).Perm μ := h.rec (.refl _) (fun u_ i => i.cons _) fun u_ i => List.perm_middle.trans (i.cons _)
theorem Split.all : ∀ (μ : Mu),Split μ μ []
  | [] => .nil
  | _ :: tl => .l (Split.all tl)
theorem Split.none : ∀ (μ : Mu),Split μ [] μ
  | [] => .nil
  | _ :: tl => .r (Split.none tl)
section
variable {W : Wd} {Φ : Fx} {ns : List Str} {gs : List (Str × Value)} {μ μ' μ₁ ν : Mu} {ℓ ℓ' : Loc} {F F' : Addr → Prop} {s s' : Shared} {α β : Type} {R : Heap → (Addr → Prop) → β → α → Prop}
theorem St.perm (I : St W F μ s) (p : μ'.Perm μ) : St W F μ' s :=
  ⟨I.gens,I.os,I.base,fun q hq => I.mu q (p.mem_iff.mp hq),((p.map _).nodup_iff).mpr I.nodup,fun a fa => ⟨(I.froz a fa).1,fun h => (I.froz a fa).2 ((p.map _).mem_iff.mp h)⟩,I.frozBase⟩
theorem St.left (I : St W F (μ₁ ++ ν) s) : St W F μ₁ s :=
  ⟨I.gens,I.os,I.base,fun q hq => I.mu q (List.mem_append_left _ hq),by have := I.nodup; rw [addrs,List.map_append] at this; exact (List.nodup_append.mp this).1,
    fun a fa => ⟨(I.froz a fa).1,fun h => (I.froz a fa).2 (by rw [addrs,List.map_append]; exact List.mem_append_left _ h)⟩,I.frozBase⟩
theorem Grow.ext (g : Grow (addrs μ) F s.heap F' μ' s'.heap) (I : St W F μ s) : Ext F s.heap F' s'.heap :=
  ⟨g.mono,fun a o fa e => g.keep a o e (I.froz a fa).2⟩
theorem St.frame (I : St W F (μ₁ ++ ν) s) (g : Grow (addrs μ₁) F s.heap F' μ' s'.heap) (J : St W F' μ' s') : St W F' (μ' ++ ν) s' := by
  have I₁ := I.left;have ex := g.ext I₁;have nd := I.nodup;rw [addrs,List.map_append] at nd;apply gG;intro nG
  obtain ⟨n1,n2,n3⟩ := List.nodup_append.mp nd;apply nG;clear nG;have alive : ∀ a ∈ addrs ν,s.heap.get? a ≠ none := fun a ha => by
    apply gG;intro nG
    obtain ⟨p,hp,rfl⟩ := List.mem_map.mp ha;obtain ⟨o,ho,_⟩ := I.mu p (List.mem_append_right _ hp);apply nG;clear nG;rw [ho]; exact fun e => by cases e
  have apart : ∀ a ∈ addrs ν,a ∉ addrs μ₁ := fun a ha hb => n3 a hb a ha rfl
  have apart' : ∀ a ∈ addrs ν,a ∉ addrs μ' := fun a ha hb => (g.new a hb).elim (apart a ha) (alive a ha)
  refine ⟨J.gens,J.os,J.base,fun p hp => ?_,?_,fun a fa => ⟨(J.froz a fa).1,fun h => ?_⟩,J.frozBase⟩
  · rcases List.mem_append.mp hp with hp | hp
    · exact J.mu p hp
    · apply gG;intro nG
      obtain ⟨o,ho,hc⟩ := I.mu p (List.mem_append_right _ hp);apply nG;clear nG;exact ⟨o,g.keep _ _ ho (apart _ (List.mem_map_of_mem hp)),hc.ext ex⟩
  · rw [addrs,List.map_append];exact List.nodup_append.mpr ⟨J.nodup,n2,fun a ha b hb e => apart' b hb (e ▸ ha)⟩
  · rw [addrs,List.map_append] at h;rcases List.mem_append.mp h with h | h
    · exact (J.froz a fa).2 h
    · rcases g.froz a fa with q | q | q
      · exact (I.froz a q).2 (by rw [addrs,List.map_append]; exact List.mem_append_right _ h)
      · exact apart a h q
      · exact alive a h q
theorem In.spec (O : FxOk W.H₀ Φ ns gs) (I : In W Φ ns F (μ₁ ++ ν) ℓ s) (g : Grow (addrs μ₁) F s.heap F' μ' s'.heap) (J : St W F' μ' s') : In W Φ ns F' (μ' ++ ν) ℓ s' ∧ Ext F s.heap F' s'.heap := by
  have ex := g.ext I.st.left;have ap : Φ.env.locals ∉ addrs μ₁ := fun h => I.apart (by rw [addrs,List.map_append]; exact List.mem_append_left _ h)
  apply gG;intro nG
  obtain ⟨m,hm,hl⟩ := I.loc;apply nG;clear nG;have hlv : ∃ o,s.heap.get? Φ.env.locals = some o := by (apply gG;intro nG;obtain ⟨o,_,_,ho,_⟩ := hm <;> refine nG ?_ <;> clear nG); exact ⟨o,ho⟩
  have hL : Φ.env.locals ∉ addrs μ' := fun h => (g.new _ h).elim ap fun e => by obtain ⟨o,ho⟩ := hlv; rw [ho] at e; cases e
  refine ⟨⟨I.st.frame g J,⟨m,?_,hl.ext ex⟩,?_,?_,?_⟩,ex⟩
  · apply gG;intro nG
    obtain ⟨o,es,ep,ho,r⟩ := hm;apply nG;clear nG;exact ⟨o,es,ep,g.keep _ _ ho ap,r⟩
  · intro h;rw [addrs,List.map_append] at h;exact (List.mem_append.mp h).elim hL fun h => I.apart (by rw [addrs,List.map_append]; exact List.mem_append_right _ h)
  · intro h;rcases g.froz _ h with q | q | q
    · exact I.nfroz q
    · exact ap q
    · obtain ⟨o,ho⟩ := hlv; rw [ho] at q; cases q
  · refine ⟨fun b o e nb => ?_,fun a fa => g.mono a (I.grow.mono a fa),fun a fa => ?_,fun a ha => ?_⟩
    · refine g.keep b o (I.grow.keep b o e nb) fun h => ?_
      rcases I.grow.new b (by rw [addrs,List.map_append]; exact List.mem_append_left _ h) with q | q
      · exact nb q
      · rw [e] at q; cases q
    · rcases g.froz a fa with q | q | q
      · exact I.grow.froz a q
      · exact (I.grow.new a (by rw [addrs,List.map_append]; exact List.mem_append_left _ q)).elim (fun z => .inr (.inl z)) fun z => .inr (.inr z)
      · by_cases hm : a ∈ Φ.mods
        · exact .inr (.inl hm)
        · refine .inr (.inr ?_);cases e : Φ.h₀.get? a with
          | none => rfl
          | some o => have := I.grow.keep a o e hm; rw [q] at this; cases this
    · rw [addrs,List.map_append] at ha;rcases List.mem_append.mp ha with h | h
      · rcases g.new a h with q | q
        · exact I.grow.new a (by rw [addrs,List.map_append]; exact List.mem_append_left _ q)
        · by_cases hm : a ∈ Φ.mods
          · exact .inl hm
          · refine .inr ?_;cases e : Φ.h₀.get? a with
            | none => rfl
            | some o => have := I.grow.keep a o e hm; rw [q] at this; cases this
      · exact I.grow.new a (by rw [addrs,List.map_append]; exact List.mem_append_right _ h)
theorem In.perm (I : In W Φ ns F μ ℓ s) (p : μ'.Perm μ) : In W Φ ns F μ' ℓ s :=
  ⟨I.st.perm p,I.loc,fun h => I.apart ((p.map _).mem_iff.mp h),I.nfroz,⟨I.grow.keep,I.grow.mono,I.grow.froz,fun a ha => I.grow.new a ((p.map _).mem_iff.mp ha)⟩⟩
theorem Room.le {A : Around} {n m : Nat} (r : Room A n) (h : m ≤ n) : Room A m := ⟨by have := r.depth; exact q470 h this,by have := r.units; exact q471 h this,r.handled,r.guards⟩
theorem xargs_nil {pos : Pos} {Q : List V → Mu → Loc → Prop} (q : Q [] μ ℓ) : X W RL Φ ns gs μ ℓ (spliced (backTo pos (starEach [] Φ.env))) Q := fun s F G O I => .of <| wpAny_items_nil (res_here I .nil q)
theorem xargs_cons {e : Expr} {rest : List Expr} {pos : Pos} {Q : List V → Mu → Loc → Prop}
    (h : X W RV Φ ns gs μ ℓ (eval e Φ.env) fun v μ ℓ => X W RL Φ ns gs μ ℓ (spliced (backTo pos (starEach rest Φ.env))) fun vs => Q (v :: vs))
    (he : starEach (e :: rest) Φ.env = (false,eval e Φ.env) :: starEach rest Φ.env := by rfl) : X W RL Φ ns gs μ ℓ (spliced (backTo pos (starEach (e :: rest) Φ.env))) Q := by
  intro s F G O I;rw [he];show wN _ _ (eval e Φ.env >>= fun v => (pure [v] : Sem (List Value)) >>= fun here => holding here (spliced (backTo pos (starEach rest Φ.env))) >>= fun more => pure (here ++ more)) _ _ _;refine .bind (stepQ (h s F G O I) fun s₁ F₁ x μ₁ ℓ₁ a i₁ e₁ hx q₁ => .bind (.pure ?_));refine .bind (.holding (stepQ (q₁ s₁ F₁ G O i₁) fun s₂ F₂ y μ₂ ℓ₂ b i₂ e₂ hy q₂ => .pure ?_));exact ⟨F₂,_,μ₂,ℓ₂,i₂,e₁.trans e₂,.cons (hx.ext e₂) hy,q₂⟩
noncomputable def Keeps (W : Wd) (f : Value) : Prop := keepIn W.K f = true ∨ keeperOf f = pure .machine
theorem keeps_of {f : Value} (k : Keeps W f) (h : Heap) (x : W.K.In h) : ∃ k,(k = Keeper.frame ∨ k = Keeper.machine ∨ k = Keeper.boundFrame) ∧ Looks W.M h (keeperOf f) k := by
  rcases k with k | k
  · exact keeps_K k h x
  · exact ⟨.machine,.inr (.inl rfl),Looks.of_pure k⟩
theorem In.K (G : Gd W) (I : In W Φ ns F μ ℓ s) : W.K.In s.heap := G.X.keeps I.st.base
theorem St.K (G : Gd W) (I : St W F μ s) : W.K.In s.heap := G.X.keeps I.base
theorem evalArgs_all {A : Around} {E : Value → Shared → Prop} {f : Value} {args : List (Bool × Sem Value)} {Q : Args → Shared → Prop} (hp : args.any (·.1) = false)
    (h : wN W.M A (spliced args) (fun vs s' => Q ⟨vs,[]⟩ s') E s) : wN W.M A (evalArgs f true args []) Q E s := by
  cases args with
  | nil =>
    unfold evalArgs;show wN _ _ (spliced [] >>= _) Q E s;refine .bind (wN.mono h (fun vs s' h' => ?_) fun u_ u_ x => x);refine .holding ?_;exact .bind (.pure (.bind (.pure (.pure h'))))
  | cons p r =>
    apply gG;intro nG
    obtain ⟨st,t⟩ := p;simp only [List.any_cons,Bool.or_eq_false_iff] at hp;obtain ⟨rfl,_⟩ := hp;apply nG;clear nG;unfold evalArgs;show wN _ _ (spliced ((false,t) :: r) >>= _) Q E s;refine .bind (wN.mono h (fun vs s' h' => ?_) fun u_ u_ x => x);refine .holding ?_;exact .bind (.pure (.bind (.pure (.pure h'))))
theorem callN {A : Around} {E : Value → Shared → Prop} {f : Value} {first : List Value} {pos : Pos} {args : List (Bool × Sem Value)} {keywords : List (Option Str × Sem Value)} {Q : Value → Shared → Prop}
    (hk : ∀ h,W.K.In h → ∃ k,(k = Keeper.frame ∨ k = Keeper.machine ∨ k = Keeper.boundFrame) ∧ Looks W.M h (keeperOf f) k)
    (h : wN W.M A (evalArgs f true args keywords) (fun a s₁ => W.K.In s₁.heap ∧ wN W.M A (call f (first ++ a.pos) a.kw) Q E s₁) E s) : wN W.M A (callWith pos f first args keywords) Q E s := by
  unfold callWith;refine .bind (.holding (wN.mono h (fun a s₁ h₁ => .stand ?_) fun u_ u_ x => x));apply gG;intro nG
  obtain ⟨k,hk',L⟩ := hk _ h₁.1;apply nG;clear nG;generalize (args.any (·.1) || keywords.any (·.1.isNone)) = st;refine .bind (.of (L.here ?_));have tail : ∀ {t : Sem Value},wN W.M A t Q E s₁ → wN W.M A (t >>= fun r => holding [r] point >>= fun u_ => pure r) Q E s₁ :=
    fun ht => .bind (wN.mono ht (fun r s₂ hr => .bind (.holding (.of (wpAny_point (wN.pure hr))))) fun u_ u_ x => x)
  have marked (mk : Value) : wN W.M A (callMarked mk f (first ++ a.pos) a.kw) Q E s₁ := fun Γ p hΓ c => by unfold callMarked; rw [Sem.wp_keep]; exact h₁.2 Γ p hΓ c
  rcases hk' with rfl | rfl | rfl <;> cases st <;> dsimp only <;> first | exact tail h₁.2 | exact tail (marked _) | exact tail (.operate h₁.2) | (split <;> first | exact tail h₁.2 | exact tail (marked _))
theorem x_call {func : Expr} {args : List Expr} {pos : Pos} {Q : V → Mu → Loc → Prop}
    (h : X W RV Φ ns gs μ ℓ (eval func Φ.env) fun fv μ ℓ => ∃ f,fv = .val f ∧ Keeps W f ∧ X W RL Φ ns gs μ ℓ (spliced (backTo pos (starEach args Φ.env))) fun vs μ ℓ => XL W RV Φ ns gs μ ℓ vs (fun xs => call f xs) Q)
    (he : eval (.Call func args [] pos) Φ.env = (do callWith pos (← eval func Φ.env) [] (backTo pos (starEach args Φ.env)) []) := by rfl)
    (hp : (backTo pos (starEach args Φ.env)).any (·.1) = false := by rfl) : X W RV Φ ns gs μ ℓ (eval (.Call func args [] pos) Φ.env) Q := by
  intro s F G O I;rw [he];refine .bind (stepQ (h s F G O I) fun s₁ F₁ x μ₁ ℓ₁ a i₁ e₁ hx q₁ => ?_);apply gG;intro nG
  obtain ⟨f,rfl,hk,q₁⟩ := q₁;obtain ⟨_,rfl⟩ := hx.inv;apply nG;clear nG;refine callN (keeps_of hk) ?_;have main : wN W.M Φ.A (spliced (backTo pos (starEach args Φ.env))) (fun vs s₂ => W.K.In s₂.heap ∧ wN W.M Φ.A (call x ([] ++ vs) []) (Res W RV Φ ns F s.heap Q) (fun u_ u_ => False) s₂) (fun u_ u_ => False) s₁ :=
    stepQ (q₁ s₁ F₁ G O i₁) fun s₂ F₂ xs μ₂ ℓ₂ b i₂ e₂ hxs q₂ => ⟨i₂.K G,wN.mono (q₂ s₂ F₂ xs G O i₂ hxs) (fun u_ u_ z => z.ext (e₁.trans e₂)) (fun u_ u_ z => z)⟩
  exact evalArgs_all hp main
noncomputable def RM (h : Heap) (F : Addr → Prop) (a : Value × List V) (b : Value × List Value) : Prop := a.1 = b.1 ∧ IsL h F a.2 b.2
theorem x_mcall {o : Expr} {name : Str} {apos : Pos} {args : List Expr} {pos : Pos} {Q : V → Mu → Loc → Prop} {pl : Sem Bool}
    (h : X W RV Φ ns gs μ ℓ (eval o Φ.env) fun ov μ ℓ => X1 W RM Φ ns gs μ ℓ ov (fun v => getMethod v name pl) fun fl μ ℓ => Keeps W fl.1 ∧
      X W RL Φ ns gs μ ℓ (spliced (backTo pos (starEach args Φ.env))) fun vs μ ℓ => XL W RV Φ ns gs μ ℓ (fl.2 ++ vs) (fun xs => call fl.1 xs) Q)
    (he : eval (.Call (.Attribute o name apos) args [] pos) Φ.env = (do
      let ov ← eval o Φ.env
      standAt apos.atName
      let (f,first) ← holding [ov] (getMethod ov name pl)
      callWith pos f first (backTo pos (starEach args Φ.env)) []) := by rfl)
    (hp : (backTo pos (starEach args Φ.env)).any (·.1) = false := by rfl) : X W RV Φ ns gs μ ℓ (eval (.Call (.Attribute o name apos) args [] pos) Φ.env) Q := by
  intro s F G O I;rw [he];refine .bind (stepQ (h s F G O I) fun s₁ F₁ x μ₁ ℓ₁ a i₁ e₁ hx q₁ => .stand (.bind (.holding ?_)));refine stepQ (q₁ s₁ F₁ x G O i₁ hx) fun s₂ F₂ fl μ₂ ℓ₂ b i₂ e₂ hfl q₂ => ?_
  apply gG;intro nG
  obtain ⟨f,first⟩ := fl;obtain ⟨fb,lb⟩ := b;obtain ⟨r1,r2⟩ := hfl;apply nG;clear nG;cases r1;obtain ⟨hk,q₂⟩ := q₂;refine callN (keeps_of hk) ?_;have main : wN W.M Φ.A (spliced (backTo pos (starEach args Φ.env))) (fun vs s₂ => W.K.In s₂.heap ∧ wN W.M Φ.A (call f (first ++ vs) []) (Res W RV Φ ns F s.heap Q) (fun u_ u_ => False) s₂) (fun u_ u_ => False) s₂ :=
    stepQ (q₂ s₂ F₂ G O i₂) fun s₃ F₃ xs μ₃ ℓ₃ b i₃ e₃ hxs q₃ => ⟨i₃.K G,wN.mono (q₃ s₃ F₃ (first ++ xs) G O i₃ ((r2.ext e₃).append hxs)) (fun u_ u_ z => z.ext ((e₁.trans e₂).trans e₃)) (fun u_ u_ z => z)⟩
  exact evalArgs_all hp main
end
end
section
open PySem PySem.W PyProof.Rows PySem.Calls
set_option backward.match.sparseCases false
noncomputable def flV : Fl → V
  | .ret v => v
  | _ => .none
noncomputable def globOk (K : Frag) (p : Str × Value) : Bool :=
  nsIn K mainGlobals p.1 == some (some p.2) || (nsIn K mainGlobals p.1 == some none && !(p.1 == ("__name__" : Str)) && bootBuiltins p.1 == some p.2)
theorem globVal_of {W : Wd} (G : Gd W) {p : Str × Value} (h : globOk W.K p = true) : GlobVal W.H₀ p.1 p.2 := by
  obtain ⟨mg,hg⟩ := G.g;unfold globOk at h;rcases Bool.or_eq_true_iff.mp h with h | h
  · exact .inl ⟨mg,hg,mg_of G.X hg (beq_iff_eq.mp h)⟩
  · simp only [Bool.and_eq_true,beq_iff_eq,Bool.not_eq_true',beq_eq_false_iff_ne] at h;apply gG;intro nG
    obtain ⟨mb,hb,hv⟩ := G.b;apply nG;clear nG;exact .inr ⟨mg,mb,hg,mg_none_of G.X hg h.1.1,hb,(hv _ h.1.2).trans h.2⟩
noncomputable def nameOk (sc : Scope) (x : Str) : Bool := sc.names.lookup x == some .local && !(x == ("__debug__" : Str))
noncomputable def globName (sc : Scope) (x : Str) : Bool := sc.names.lookup x == some .globalImplicit && !(x == ("__debug__" : Str))
theorem lookup_notin {x : Str} : ∀ {l : List (Str × Value)},x ∉ l.map (·.1) → l.lookup x = none
  | [],_ => rfl
  | (k,v) :: l,h => by
    rw [List.lookup_cons,show (x == k) = false from beq_eq_false_iff_ne.mpr fun e => h (e ▸ .head _)];exact lookup_notin fun e => h (.tail _ e)
theorem zip_keys : ∀ {ps : List Str} {xs : List Value},((ps.zip xs).map (·.1)) = ps.take xs.length
  | [],_ => by simp
  | _ :: _,[] => by simp
  | p :: ps,x :: xs => by rw [List.zip_cons_cons,List.map_cons,zip_keys,List.length_cons,List.take_succ_cons]
section
variable {prog : Program} {w : World} {A : Around} {s : Shared}
end
section
variable {W : Wd}
theorem Grow.trans {M : List Addr} {F F₁ F' : Addr → Prop} {h h₁ h' : Heap} {μ μ₁ : Mu} (x : Grow M F h F₁ μ₁ h₁) (y : Grow M F₁ h₁ F' μ h') : Grow M F h F' μ h' := by
  have fr : ∀ a,h₁.get? a = none → a ∈ M ∨ h.get? a = none := fun a e => by
    by_cases hm : a ∈ M
    · exact .inl hm
    · refine .inr ?_;cases q : h.get? a with
      | none => rfl
      | some o => rw [x.keep a o q hm] at e; cases e
  refine ⟨fun b o e n => y.keep b o (x.keep b o e n) n,fun a z => y.mono a (x.mono a z),fun a z => ?_,fun a z => ?_⟩
  · rcases y.froz a z with q | q | q
    · exact x.froz a q
    · exact .inr (.inl q)
    · exact .inr (fr a q)
  · rcases y.new a z with q | q
    · exact .inl q
    · exact fr a q
noncomputable def Binds (W : Wd) (fd : FuncData) (args : List V) (kw : List (Str × V)) (ps : List Str) (va : List V) (μ : Mu) : Prop :=
  ∀ A s F xs ks,Gd W → St W F μ s → IsL s.heap F args xs → IsL s.heap F (kw.map (·.2)) ks →
    wpAny W.M A (bindArgs fd ⟨xs,(kw.map (·.1)).zip ks⟩) (fun binds s₁ => ∃ F₁ ys,binds = ps.zip ys ∧ St W F₁ μ s₁ ∧ Grow (addrs μ) F s.heap F₁ μ s₁.heap ∧ IsL s₁.heap F₁ va ys) (fun u_ u_ => False) s
theorem bind_pos {μ : Mu} {fd : FuncData} {ps : List Str} {args : List V} (h : ∀ xs : List Value,xs.length = args.length → bindArgs fd ⟨xs,[]⟩ = pure (ps.zip xs)) : Binds W fd args [] ps args μ :=
  fun A s F xs ks G I hx hk => by
    cases hk;rw [show ((([] : List (Str × V)).map (·.1)).zip ([] : List Value)) = [] from rfl,h xs hx.length];exact wpAny_pure ⟨F,xs,rfl,I,.refl fun u_ z => z,hx⟩
theorem lt4 {P : Nat → Prop} (h0 : P 0) (h1 : P 1) (h2 : P 2) (h3 : P 3) {k : Nat} (h : k < 4) : P k := by
  cases k with
  | zero => exact h0
  | succ k => cases k with
    | zero => exact h1
    | succ k => cases k with
      | zero => exact h2
      | succ k => rw [Nat.lt_one_iff.mp (Nat.lt_of_succ_lt_succ (Nat.lt_of_succ_lt_succ (Nat.lt_of_succ_lt_succ h)))]; exact h3
theorem lenZ {P : List Value → Prop} (h : P []) (xs : List Value) (e : xs.length = 0) : P xs := (List.eq_nil_of_length_eq_zero e).symm ▸ h
theorem lenS {n : Nat} {P : List Value → Prop} (h : ∀ a xs,xs.length = n → P (a :: xs)) (xs : List Value) (e : xs.length = n + 1) : P xs := by
  cases xs with
  | nil => exact absurd e.symm (Nat.succ_ne_zero n)
  | cons a xs => exact h a xs (Nat.succ.inj e)
theorem len1 {P : List Value → Prop} (h : ∀ a,P [a]) : ∀ xs : List Value,xs.length = 1 → P xs := lenS fun a => lenZ (P := fun xs => P (a :: xs)) (h a)
theorem len2 {P : List Value → Prop} (h : ∀ a b,P [a,b]) : ∀ xs : List Value,xs.length = 2 → P xs := lenS fun a => len1 (P := fun xs => P (a :: xs)) (h a)
theorem len3 {P : List Value → Prop} (h : ∀ a b c,P [a,b,c]) : ∀ xs : List Value,xs.length = 3 → P xs := lenS fun a => len2 (P := fun xs => P (a :: xs)) (h a)
theorem len4 {P : List Value → Prop} (h : ∀ a b c d,P [a,b,c,d]) : ∀ xs : List Value,xs.length = 4 → P xs := lenS fun a => len3 (P := fun xs => P (a :: xs)) (h a)
theorem len5 {P : List Value → Prop} (h : ∀ a b c d e,P [a,b,c,d,e]) : ∀ xs : List Value,xs.length = 5 → P xs := lenS fun a => len4 (P := fun xs => P (a :: xs)) (h a)
end
end
section
open PySem PySem.W PyProof.Rows PySem.Calls Builtin Builtin.ObjectAttr Builtin.Getset_descriptor
set_option backward.match.sparseCases false
inductive UpdM : Mu → Addr → Ce → Ce → Mu → Prop
  | here {a : Addr} {c c' : Ce} {μ : Mu} : UpdM ((a,c) :: μ) a c c' ((a,c') :: μ)
  | there {a : Addr} {c c' : Ce} {p : Addr × Ce} {μ μ' : Mu} (h : UpdM μ a c c' μ') : UpdM (p :: μ) a c c' (p :: μ')
theorem UpdM.mem {μ μ' : Mu} {a : Addr} {c c' : Ce} (h : UpdM μ a c c' μ') : (a,c) ∈ μ := by
  induction h with
  | here => exact .head _
  | there _ ih => exact .tail _ ih
theorem UpdM.adr {μ μ' : Mu} {a : Addr} {c c' : Ce} (h : UpdM μ a c c' μ') : addrs μ' = addrs μ := by
  induction h with
  | here => rfl
  | there _ ih => exact congrArg (_ :: ·) ih
theorem UpdM.back {μ μ' : Mu} {a : Addr} {c c' : Ce} (h : UpdM μ a c c' μ') (nd : (Mine.addrs μ).Nodup) : ∀ p ∈ μ',p = (a,c') ∨ (p ∈ μ ∧ p.1 ≠ a) := by
  induction h with
  | here => intro p hp
            rcases List.mem_cons.mp hp with rfl | hp
            · exact .inl rfl
            · exact .inr ⟨.tail _ hp,fun e => (List.nodup_cons.mp nd).1 (by have := List.mem_map_of_mem (f := Prod.fst) hp; rw [e] at this; exact this)⟩
  | there h ih => intro p hp
                  rcases List.mem_cons.mp hp with rfl | hp
                  · exact .inr ⟨.head _,fun e => (List.nodup_cons.mp nd).1 (by have := List.mem_map_of_mem (f := Prod.fst) h.mem; rw [← e] at this; exact this)⟩
                  · exact (ih (List.nodup_cons.mp nd).2 p hp).imp id fun z => ⟨.tail _ z.1,z.2⟩
section
variable {W : Wd} {Φ : Fx} {ns : List Str} {gs : List (Str × Value)} {μ μ' μ₁ ν : Mu} {ℓ ℓ' : Loc} {F F' : Addr → Prop} {s s' : Shared} {α β : Type} {R : Heap → (Addr → Prop) → β → α → Prop}
theorem In.cell {a : Addr} {c : Ce} (I : In W Φ ns F μ ℓ s) (h : (a,c) ∈ μ) : ∃ o,s.heap.get? a = some o ∧ CIs s.heap F c o := I.st.mu _ h
theorem St.upd {a : Addr} {c c' : Ce} {o : Obj} {f : Obj → Obj} {k : Nat} (I : St W F μ s) (U : UpdM μ a c c' μ') (ho : s.heap.get? a = some o) (hc : CIs s.heap F c' (f o)) (hf : (f o).isFreed = false) :
    St W F μ' { s with heap := s.heap.update a f,toks := k } ∧ Ext F s.heap F (s.heap.update a f) := by
  have na : a ∈ addrs μ := List.mem_map_of_mem (f := Prod.fst) U.mem;have ot : ∀ b,b ≠ a → (s.heap.update a f).get? b = s.heap.get? b := fun b hb => Heap.get?_update_ne _ _ _ _ fun e => hb e
  have nF : ∀ b,F b → b ≠ a := fun b fb e => (I.froz b fb).2 (e ▸ na)
  have ex : Ext F s.heap F (s.heap.update a f) := ⟨fun u_ z => z,fun b x fb e => (ot b (nF b fb)).trans e⟩
  refine ⟨⟨I.gens,I.os,fun b x e => (ot b (nF b (I.frozBase b x e))).trans (I.base b x e),fun p hp => ?_,U.adr ▸ I.nodup,fun b fb => ?_,I.frozBase⟩,ex⟩
  · rcases U.back I.nodup p hp with rfl | ⟨hp,ne⟩
    · exact ⟨f o,Heap.get?_update_self f ho hf,hc.ext ex⟩
    · apply gG;intro nG
      obtain ⟨x,hx,hcx⟩ := I.mu p hp;apply nG;clear nG;exact ⟨x,(ot _ ne).trans hx,hcx.ext ex⟩
  · apply gG;intro nG
    obtain ⟨⟨x,hx⟩,nb⟩ := I.froz b fb;apply nG;clear nG;exact ⟨⟨x,(ot b (nF b fb)).trans hx⟩,U.adr ▸ nb⟩
theorem In.upd {a : Addr} {c c' : Ce} {o : Obj} {f : Obj → Obj} {k : Nat} (I : In W Φ ns F μ ℓ s) (U : UpdM μ a c c' μ') (ho : s.heap.get? a = some o) (hc : CIs s.heap F c' (f o)) (hf : (f o).isFreed = false) :
    In W Φ ns F μ' ℓ { s with heap := s.heap.update a f,toks := k } ∧ Ext F s.heap F (s.heap.update a f) := by
  have na : a ∈ addrs μ := List.mem_map_of_mem (f := Prod.fst) U.mem;apply gG;intro nG
  obtain ⟨J,ex⟩ := I.st.upd (k := k) U ho hc hf;have ot : ∀ b,b ≠ a → (s.heap.update a f).get? b = s.heap.get? b := fun b hb => Heap.get?_update_ne _ _ _ _ fun e => hb e
  have nL : Φ.env.locals ≠ a := fun e => I.apart (e ▸ na)
  obtain ⟨m,⟨x,es,ep,hx,r⟩,hl⟩ := I.loc;apply nG;clear nG;refine ⟨⟨J,⟨m,⟨x,es,ep,(ot _ nL).trans hx,r⟩,hl.ext ex⟩,U.adr ▸ I.apart,I.nfroz,⟨fun b y e nb => ?_,I.grow.mono,I.grow.froz,fun b hb => I.grow.new b (U.adr ▸ hb)⟩⟩,ex⟩;refine (ot b fun e' => ?_).trans (I.grow.keep b y e nb);rcases I.grow.new b (e' ▸ na) with q | q
  · exact nb q
  · rw [e] at q; cases q
noncomputable def classOk (K : Frag) (C : Addr) : Bool :=
  plainGet K C "" && isClsIn K C && findIn K (.ref C) "__setattr__" == some (some (.builtin "object.__setattr__")) && plainOver K C
noncomputable def slotAt (K : Frag) (C : Addr) (name : Str) (p : Addr) (i : Nat) : Bool :=
  findIn K (.ref C) name == some (some (.ref p)) && typeIn K (.ref p) == some (.type "member_descriptor") && slotIn K p C == some i && decide (i < 1000)
theorem md_get : fastLookup "member_descriptor" "__get__" = some (some (.builtin "member_descriptor.__get__")) := by kernel_rfl
theorem md_set : fastLookup "member_descriptor" "__set__" = some (some (.builtin "member_descriptor.__set__")) := by kernel_rfl
theorem md_special {K : Frag} {p : Addr} (ht : typeIn K (.ref p) = some (.type "member_descriptor")) : specialIn K (.ref p) "__get__" = some (some (.builtin "member_descriptor.__get__")) ∧ takesIn K (.ref p) = some true := by
  have h2 : specialIn K (.ref p) "__set__" = some (some (.builtin "member_descriptor.__set__")) := by unfold specialIn; rw [ht]; exact md_set
  refine ⟨by unfold specialIn; rw [ht]; exact md_get,?_⟩;unfold takesIn;rw [h2]
theorem cell_inst {h : Heap} {F : Addr → Prop} {C : Addr} {l : List (Option V)} {o : Obj} {a : Addr} (hc : CIs h F (.inst C l) o) (ho : h.get? a = some o) : InstAt h a o C (some emptyDict) ∧ slotsIs h F l o.slots := by
  apply gG;intro nG
  obtain ⟨dx,sl,rfl,fd,hd,hs⟩ := hc;apply nG;clear nG;exact ⟨⟨ho,rfl,rfl,hd⟩,hs⟩
noncomputable def noB : V → Bool
  | .val (.builtin _) => false
  | _ => true
theorem handed_V {h : Heap} {F : Addr → Prop} {v : V} {x : Value} (hv : Is h F v x) (n : noB v = true) : handedIn x = true := by
  cases hv with
  | val => cases x <;> first | rfl | cases n
  | _ => rfl
theorem g_slot {a C p : Addr} {l : List (Option V)} {i : Nat} {name : Str} {v : V} {b : Bool} {Q : V → Mu → Loc → Prop} (hm : (a,Ce.inst C l) ∈ μ) (hk : classOk W.K C = true) (hp : slotAt W.K C name p i = true) (hv : l[i]? = some (some v)) (nb : noB v = true) (q : Q v μ ℓ) :
    X1 W RV Φ ns gs μ ℓ (.val (.ref a)) (fun x => getAttr x name b) Q := by
  intro s F x G O I hx;apply gG;intro nG
  obtain ⟨_,rfl⟩ := hx.inv;obtain ⟨o,ho,hc⟩ := I.cell hm;obtain ⟨J,hs⟩ := cell_inst hc ho;have hi := hs i;rw [hv] at hi;obtain ⟨y,hy,hvy⟩ := hi;simp only [slotAt,Bool.and_eq_true,beq_iff_eq] at hp;simp only [classOk,Bool.and_eq_true] at hk;obtain ⟨⟨⟨h3,ht⟩,h6⟩,_⟩ := hp;obtain ⟨⟨⟨h1,h2⟩,_⟩,_⟩ := hk;obtain ⟨h4,h5⟩ := md_special ht;apply nG;clear nG;exact .of <| get_bind (I.K G) J (plainGet_of h1).1 (findObj_data h2 h3 h4 h5) (plainGet_of h1).2
    (wpAny_call (slot_get (s := { s with toks := s.toks + 1 }) (I.tok1.K G) J h6 hy (handed_on (handed_V hvy nb) (res_tok I hvy q))))
theorem slot_put {prog : Program} {w : World} {A : Around} {s : Shared} {K : Frag} {p x C : Addr} {R : Result → Shared → Prop} {ox : Obj} {od : Option Obj} {v : Value} {i : Nat} (X : K.In s.heap) (I : InstAt s.heap x ox C od)
    (hp : slotIn K p C = some i) (hi : i < 1000)
    (h : R (.ok (.ret .none)) { s with heap := s.heap.update x fun o => { o with slots := (o.slots ++ Array.replicate (i + 1 - o.slots.size) none).setIfInBounds i (some v) } }) :
    codeAny (model prog w) A (.call (.builtin "member_descriptor.__set__") ⟨[.ref p,.ref x,v],[]⟩) R s := by
  apply gG;intro nG
  obtain ⟨n,tn,owner,behind,tb,d,sl,cd,ho,hc,hm,hb,rfl⟩ := slot_of X hp;obtain ⟨hh,g,dr,t,os⟩ := s;apply nG;clear nG;have T0 := I.type (M := model prog w);have T1 := looks_mroIn (M := model prog w) X hm;have T2 : Looks (model prog w) hh (Slots.slotNamesOf (.ref C)) cd.slotNames := (looks_clsIn X hc).andThen .now;have hx := I.at_;dsimp only at ho hx T0 T1;have e0 := looks_field (M := model prog w) ho 0 (v := .str n tn) rfl;have e1 := looks_field (M := model prog w) ho 1 (v := owner) rfl;have e3 := looks_field (M := model prog w) ho 3 (v := .builtin "proto.slot#set") rfl;have e4 := looks_field (M := model prog w) ho 4 (v := .int behind tb) rfl;have e5 : Looks (model prog w) hh (descrItself (.ref p)) [.ref p] := ((Looks.ld (part := none) ho).andThen .now).andThen (Looks.of_pure (by kernel_rfl));refine codeAny_call_builtin KF.slot_mset.plain KF.entry_mset (KF.slot_mset.check _ _ _ _ _ _ _ _ ⟨_,ho,rfl⟩ (KF.args_mset _ _ _) ?_);unfold Builtin.«member_descriptor.__set__» descrSet descrStoreThrough descrCheckInstance descrNameAndClass isInstance;repeat lk
  refine And.intro (Code.quiet_builtin _ (by decide +kernel)) (codeAny_builtin KF.entry_slotset ?_);unfold Builtin.«proto.slot#set» Slots.target;repeat lk
  rw [if_neg hb];refine wpAny_pure (wpAny_bind ?_);unfold setSlotAt;dsimp only;rw [if_neg (by rw [sizeLine_eq]; exact q472 hi)];exact wpAny_updatePart hx (wpAny_pure h)
theorem slots_put {h : Heap} {F : Addr → Prop} {l : List (Option V)} {sl : Array (Option Value)} {i : Nat} {v : V} {x : Value} (hs : slotsIs h F l sl) (hi : i < l.length) (hv : Is h F v x) :
    slotsIs h F (l.set i (some v)) ((sl ++ Array.replicate (i + 1 - sl.size) none).setIfInBounds i (some x)) := by
  intro j
  by_cases e : j = i
  · subst e;rw [List.getElem?_set_self hi,Array.getElem?_setIfInBounds_self_of_lt (by rw [Array.size_append,Array.size_replicate]; exact q473)];exact ⟨x,rfl,hv⟩
  · rw [List.getElem?_set_ne (fun q => e q.symm),Array.getElem?_setIfInBounds_ne (fun q => e q.symm)];have := hs j;rw [Array.getElem?_append]
    by_cases hj : j < sl.size
    · rw [if_pos hj]; exact this
    · rw [if_neg hj,Array.getElem?_replicate];rw [Array.getElem?_eq_none (by exact q136 hj)] at this
      split <;> exact this
noncomputable def putSlot (i : Nat) (y : Value) (o : Obj) : Obj := { o with slots := (o.slots ++ Array.replicate (i + 1 - o.slots.size) none).setIfInBounds i (some y) }
theorem CIs.put {h : Heap} {F : Addr → Prop} {C dx : Addr} {l : List (Option V)} {sl : Array (Option Value)} {i : Nat} {v : V} {y : Value} (fd : F dx) (hd : h.get? dx = some emptyDict) (hs : slotsIs h F l sl) (hi : i < l.length) (hy : Is h F v y) :
    CIs h F (.inst C (l.set i (some v))) (putSlot i y ⟨.ref C,some dx,.plain,sl⟩) := ⟨dx,_,rfl,fd,hd,slots_put hs hi hy⟩
theorem g_put {a C p : Addr} {l : List (Option V)} {i : Nat} {name : Str} {v : V} {Q : Unit → Mu → Loc → Prop} (hk : classOk W.K C = true) (hp : slotAt W.K C name p i = true) (hi : i < l.length) (U : UpdM μ a (.inst C l) (.inst C (l.set i (some v))) μ') (q : Q () μ' ℓ) :
    X2 W RU Φ ns gs μ ℓ (.val (.ref a)) v (fun x y => setAttr x name y) Q := by
  intro s F x y G O I hx hy;apply gG;intro nG
  obtain ⟨_,rfl⟩ := hx.inv;obtain ⟨o,ho,hc⟩ := I.cell U.mem;obtain ⟨J,hs⟩ := cell_inst hc ho;obtain ⟨dx,sl,rfl,fd,hd,hs⟩ := hc;simp only [slotAt,Bool.and_eq_true,beq_iff_eq,decide_eq_true_eq] at hp;simp only [classOk,Bool.and_eq_true,beq_iff_eq] at hk;obtain ⟨⟨⟨h0,h4⟩,h5⟩,h6⟩ := hp;obtain ⟨⟨_,h1⟩,h2⟩ := hk;apply nG;clear nG;have h3 : takerIn W.K C name = some (some (.ref p)) := by unfold takerIn; rw [h0,Option.bind_some]; show (takesIn W.K (.ref p)).map _ = _; rw [(md_special h4).2]; rfl
  have U' := I.upd (f := putSlot i y) (k := s.toks + 1) U ho (CIs.put fd hd hs hi hy) rfl;have Z : Res W RU Φ ns F s.heap Q () { s with heap := s.heap.update a (putSlot i y),toks := s.toks + 1 } := ⟨F,(),μ',ℓ,U'.1,U'.2,trivial,q⟩
  refine .of <| set_plain (I.K G) J h1 (osa_descr (s := { s with toks := s.toks + 1 }) KF.slot_mset (I.tok1.K G) J h2 h3 h4 ?_)
  exact slot_put (s := { s with toks := s.toks + 1 }) (I.tok1.K G) J h5 h6 Z
noncomputable def metaOk (K : Frag) (C : Addr) : Bool := readsIn K C (.type "type") && specialIn K (.ref C) "__getattribute__" == some (some (.builtin "type.__getattribute__"))
noncomputable def wVal : CFound → Option Value
  | .val a => some a
  | _ => none
theorem wVal_of {x : CFound} {a : Value} (h : wVal x = some a) : x = .val a := by cases x <;> first | exact nso h | exact congrArg CFound.val (Option.some.inj h)
noncomputable def clsAttr (K : Frag) (C : Addr) (name : Str) (v : Value) : Bool := (findCls K (.ref C) (.type "type") name).bind wVal == some v && handedIn v
theorem clsAttr_of {K : Frag} {C : Addr} {name : Str} {v : Value} (h : clsAttr K C name v = true) : findCls K (.ref C) (.type "type") name = some (.val v) ∧ handedIn v = true := by
  apply gG;intro nG
  obtain ⟨h2,h3⟩ := Bool.and_eq_true_iff.mp h;obtain ⟨x,e,hx⟩ := Option.bind_eq_some_iff.mp (beq_iff_eq.mp h2);apply nG;clear nG;exact ⟨by rw [e,wVal_of hx],h3⟩
theorem g_cls {C : Addr} {name : Str} {x : Value} {v : V} {b : Bool} {Q : V → Mu → Loc → Prop} (hk : metaOk W.K C = true) (h : clsAttr W.K C name x = true) (hv : ∀ h F,Is h F v x) (q : Q v μ ℓ) :
    X1 W RV Φ ns gs μ ℓ (.val (.ref C)) (fun x => getAttr x name b) Q := by
  intro s F y G O I hy;apply gG;intro nG
  obtain ⟨_,rfl⟩ := hy.inv;obtain ⟨h2,h3⟩ := clsAttr_of h;simp only [metaOk,Bool.and_eq_true,beq_iff_eq] at hk;obtain ⟨h1,hg⟩ := hk;apply nG;clear nG;exact .of <| cls_value (I.K G) h1 h2 h3 (res_tok I (hv _ _) q)
theorem x_attr {x : Str} {p pos : Pos} {attr : Str} {Q : V → Mu → Loc → Prop} (h : X W RV Φ ns gs μ ℓ (eval (.Name x p) Φ.env) fun o μ ℓ => X1 W RV Φ ns gs μ ℓ o (fun v => getAttr v attr true) Q) :
    X W RV Φ ns gs μ ℓ (eval (.Attribute (.Name x p) attr pos) Φ.env) Q := by
  intro s F G O I;show wN _ _ (eval (.Name x p) Φ.env >>= fun o => standAt pos.atName >>= fun u_ => holding [o] (getAttr o attr true) >>= fun r => letTemporaryGo (.Name x p) o r >>= fun u_ => pure r) _ _ _;refine .bind (stepQ (h s F G O I) fun s₁ F₁ y μ₁ ℓ₁ o i₁ e₁ hy q₁ => .stand (.bind (.holding ?_)));refine stepQ (q₁ s₁ F₁ y G O i₁ hy) fun s₂ F₂ z μ₂ ℓ₂ v i₂ e₂ hz q₂ => ?_
  exact .bind (.pure (.pure ⟨F₂,v,μ₂,ℓ₂,i₂,e₁.trans e₂,hz,q₂⟩))
theorem release_any {A : Around} {E : Value → Shared → Prop} {s : Shared} {vs keep : List Value} {Q : Unit → Shared → Prop} (h : Q () s) : wN W.M A (release vs keep) Q E s :=
  fun Γ p hΓ u_ => by unfold release; rw [Sem.wp_release_go]; exact h
theorem xs_put {t value : Expr} {pos : Pos} {Q : Fl → Mu → Loc → Prop} (h : X W RV Φ ns gs μ ℓ (eval value Φ.env) fun v μ ℓ => X1 W RU Φ ns gs μ ℓ v (assign t Φ.env) fun u_ => Q .next)
    (he : exec (.Assign [t] value pos) Φ.env = (do standAt pos; let v ← eval value Φ.env; assign t Φ.env v; pure .next) := by rfl) : X W RF Φ ns gs μ ℓ (exec (.Assign [t] value pos) Φ.env) Q := by
  intro s F G O I;rw [he];refine .stand (.bind (stepQ (h s F G O I) fun s₁ F₁ y μ₁ ℓ₁ v i₁ e₁ hy q₁ => .bind ?_));refine stepQ (q₁ s₁ F₁ y G O i₁ hy) fun s₂ F₂ z μ₂ ℓ₂ u i₂ e₂ hz q₂ => ?_
  exact .pure ⟨F₂,_,μ₂,ℓ₂,i₂,e₁.trans e₂,.next,q₂⟩
theorem a_attr {o : Expr} {attr : Str} {pos : Pos} {v : V} {Q : Unit → Mu → Loc → Prop} (h : X W RV Φ ns gs μ ℓ (eval o Φ.env) fun ov μ ℓ => X2 W RU Φ ns gs μ ℓ ov v (fun x y => setAttr x attr y) Q) :
    X1 W RU Φ ns gs μ ℓ v (assign (.Attribute o attr pos) Φ.env) Q := by
  intro s F y G O I hy;show wN _ _ (holding [y] (eval o Φ.env) >>= fun ov => standAt pos.atName >>= fun u_ => holding [y,ov] (setAttr ov attr y) >>= fun u_ => release [y,ov] []) _ _ _;refine .bind (.holding (stepQ (h s F G O I) fun s₁ F₁ x μ₁ ℓ₁ ov i₁ e₁ hx q₁ => .stand (.bind (.holding ?_))));refine stepQ (q₁ s₁ F₁ x y G O i₁ hx (hy.ext e₁)) fun s₂ F₂ z μ₂ ℓ₂ u i₂ e₂ hz q₂ => release_any ?_
  exact ⟨F₂,_,μ₂,ℓ₂,i₂,e₁.trans e₂,trivial,q₂⟩
noncomputable def methAt (K : Frag) (C : Addr) (name : Str) (f : Addr) : Bool := findIn K (.ref C) name == some (some (.ref f)) && typeIn K (.ref f) == some (.type "function") && keepIn K (.ref f)
theorem m_inst {a C f : Addr} {l : List (Option V)} {name : Str} {pl : Sem Bool} {Q : Value × List V → Mu → Loc → Prop} (hm : (a,Ce.inst C l) ∈ μ) (hk : classOk W.K C = true) (hp : methAt W.K C name f = true) (q : Q (.ref f,[.val (.ref a)]) μ ℓ) :
    X1 W RM Φ ns gs μ ℓ (.val (.ref a)) (fun v => getMethod v name pl) Q := by
  intro s F x G O I hx;apply gG;intro nG
  obtain ⟨_,rfl⟩ := hx.inv;obtain ⟨o,ho,hc⟩ := I.cell hm;obtain ⟨J,hs⟩ := cell_inst hc ho;simp only [methAt,Bool.and_eq_true,beq_iff_eq] at hp;simp only [classOk,Bool.and_eq_true] at hk;obtain ⟨⟨h2,h3⟩,h4⟩ := hp;obtain ⟨⟨⟨h1,_⟩,_⟩,_⟩ := hk;obtain ⟨dx,sl,rfl,_⟩ := hc;apply nG;clear nG;exact .of <| method_fn (I.K G) J (plainGet_of h1).1 (plainGet_of h1).2 h2 h3 (by rfl) (res_here I ⟨rfl,.cons .val .nil⟩ q)
theorem meth_keeps {C f : Addr} {name : Str} (hp : methAt W.K C name f = true) : Keeps W (.ref f) := by
  simp only [methAt,Bool.and_eq_true] at hp;exact .inl hp.2
theorem cls_enter {prog : Program} {w : World} {A : Around} {E : Value → Shared → Prop} {s : Shared} {K : Frag} {C : Addr} {name : Str} {b : Bool} {Q : Value → Shared → Prop} (X : K.In s.heap) (hr : readsIn K C (.type "type") = true)
    (h : wpAny (model prog w) A.in1 (Builtin.«type.__getattribute__» ⟨[.ref C,.str name s.toks],[]⟩) (fun fin s' => ∃ v,fin = .done (.ret v) ∧ wpAny (model prog w) A (handedOut v) Q E s') (fun u_ u_ => False) { s with toks := s.toks + 1 }) :
    wpAny (model prog w) A (getAttr (.ref C) name b) Q E s := by
  simp only [readsIn,Bool.and_eq_true,beq_iff_eq] at hr;apply gG;intro nG
  obtain ⟨⟨⟨⟨_,ht⟩,hga⟩,hk⟩,hi⟩ := hr;obtain ⟨hook,hk⟩ := Option.isSome_iff_exists.mp hk;apply nG;clear nG;have T := looks_typeIn (M := model prog w) X ht;refine wpAny_bind (wpAny_mkText (wpAny_holding (wpAny_bind (T _ _ _ _ (fun u_ u_ e => e) (wpAny_bind (looks_findIn X hga _ _ _ _ (fun u_ u_ e => e) ?_))))));dsimp only;have no : (onTheHeap (.type "type") && Value.builtin "type.__getattribute__" == Value.builtin "object.__getattribute__") = false := by decide +kernel
  rw [no,if_neg Bool.false_ne_true];refine wpAny_bind (looks_hook X hk _ _ _ _ (fun u_ u_ e => e) (wpAny_bind (wpAny_attempt (wpAny_holding ?_))));unfold callGetattribute;have no' : (b && onTheHeap (Value.builtin "type.__getattribute__")) = false := Bool.and_false _;rw [no',if_neg Bool.false_ne_true];unfold boundAndCalled;rw [KF.slot_tga.bind];refine wpAny_bind (wpAny_pure ?_);refine wpAny_call (codeAny_call_builtin KF.slot_tga.plain KF.entry_tga (@check_slot (model prog w) _ _ { s with toks := s.toks + 1 } "type.__getattribute__" "type" "__getattribute__" (.ref C) [.str name s.toks] [] _ (by decide +kernel) (by decide +kernel) (T.andThen (looks_subIn X hi)) (KF.args_tga (.ref C) (.str name s.toks)) ?_));refine wpAny_mono h (fun fin s' z => ?_) fun u_ u_ z => z.elim
  apply gG;intro nG
  obtain ⟨v,rfl,z⟩ := z;apply nG;clear nG;exact z
noncomputable def clsTyp (K : Frag) (C : Addr) (name : Str) (T : String) : Bool := findIn K (.type "type") name == some none && findIn K (.ref C) name == some (some (.type T)) && !heldUnderItsOwnName name (.type T)
theorem int_typ : typeOf (.type "int") = pure (.type "type") := by kernel_rfl
theorem bool_typ : typeOf (.type "bool") = pure (.type "type") := by kernel_rfl
theorem type_noget : typeLookup (.type "type") "__get__" = pure none := by rw [typeLookup_type,builtinLookup_eq_fast]; kernel_rfl
theorem cls_typ {prog : Program} {w : World} {A : Around} {E : Value → Shared → Prop} {s : Shared} {K : Frag} {C : Addr} {name : Str} {b : Bool} {T : String} {Q : Value → Shared → Prop} (X : K.In s.heap) (hr : readsIn K C (.type "type") = true)
    (hc : clsTyp K C name T = true) (ht : typeOf (.type T) = pure (.type "type")) (h : Q (.type T) { s with toks := s.toks + 1 }) : wpAny (model prog w) A (getAttr (.ref C) name b) Q E s := by
  refine cls_enter X hr ?_;simp only [readsIn,Bool.and_eq_true,beq_iff_eq] at hr;simp only [clsTyp,Bool.and_eq_true,beq_iff_eq,Bool.not_eq_true'] at hc;apply gG;intro nG
  obtain ⟨⟨⟨⟨h0,h1⟩,_⟩,_⟩,_⟩ := hr;obtain ⟨⟨h2,h3⟩,h4⟩ := hc;obtain ⟨hh,g,dr,t,os⟩ := s;apply nG;clear nG;have L0 := looks_opaque (M := model prog w) (C := C) X h0;have L1 := looks_typeIn (M := model prog w) X h1;have L2 := looks_findIn (M := model prog w) X h2;have L3 := looks_findIn (M := model prog w) X h3;have L4 : Looks (model prog w) hh (typeOf (.type T)) (.type "type") := Looks.of_pure ht;have L5 : Looks (model prog w) hh (typeLookup (.type "type") "__get__") none := Looks.of_pure type_noget;unfold Builtin.«type.__getattribute__» specialOf;dsimp only at L0 L1 L2 L3;repeat (first | rw [h4] | lk)
  refine ⟨_,rfl,?_⟩;exact wpAny_pure h
theorem m_typ {C : Addr} {name : Str} {T : String} {pl : Sem Bool} {Q : Value × List V → Mu → Loc → Prop} (hk : metaOk W.K C = true) (h : clsTyp W.K C name T = true) (ht : typeOf (.type T) = pure (.type "type")) (q : Q (.type T,[]) μ ℓ) :
    X1 W RM Φ ns gs μ ℓ (.val (.ref C)) (fun v => getMethod v name pl) Q := by
  intro s F x G O I hx;obtain ⟨_,rfl⟩ := hx.inv;simp only [metaOk,Bool.and_eq_true,beq_iff_eq] at hk;exact .of <| method_cls (I.K G) hk.2 (cls_typ (I.K G) hk.1 h ht (res_tok (R := RM) I ⟨rfl,.nil⟩ q))
end
end
section
open PySem PySem.W PyProof.Rows PySem.Calls Builtin
set_option backward.match.sparseCases false
section
variable {W : Wd} {Φ : Fx} {ns : List Str} {gs : List (Str × Value)} {μ μ' μ₁ ν : Mu} {ℓ ℓ' : Loc} {F F' : Addr → Prop} {s s' : Shared} {α β : Type} {R : Heap → (Addr → Prop) → β → α → Prop}
theorem isL1 {h : Heap} {a : V} {xs : List Value} (l : IsL h F [a] xs) : ∃ x,xs = [x] ∧ Is h F a x := by
  cases l with | cons ha l => cases l; exact ⟨_,rfl,ha⟩
theorem isL2 {h : Heap} {a b : V} {xs : List Value} (l : IsL h F [a,b] xs) : ∃ x y,xs = [x,y] ∧ Is h F a x ∧ Is h F b y := by
  cases l with | cons ha l => (apply gG;intro nG;obtain ⟨y,rfl,hb⟩ := isL1 l <;> refine nG ?_ <;> clear nG); exact ⟨_,_,rfl,ha,hb⟩
theorem isL3 {h : Heap} {a b c : V} {xs : List Value} (l : IsL h F [a,b,c] xs) : ∃ x y z,xs = [x,y,z] ∧ Is h F a x ∧ Is h F b y ∧ Is h F c z := by
  cases l with | cons ha l => (apply gG;intro nG;obtain ⟨y,z,rfl,hb,hc⟩ := isL2 l <;> refine nG ?_ <;> clear nG); exact ⟨_,_,_,rfl,ha,hb,hc⟩
theorem isL4 {h : Heap} {a b c d : V} {xs : List Value} (l : IsL h F [a,b,c,d] xs) : ∃ x y z u,xs = [x,y,z,u] ∧ Is h F a x ∧ Is h F b y ∧ Is h F c z ∧ Is h F d u := by
  cases l with | cons ha l => (apply gG;intro nG;obtain ⟨y,z,u,rfl,hb,hc,hd⟩ := isL3 l <;> refine nG ?_ <;> clear nG); exact ⟨_,_,_,_,rfl,ha,hb,hc,hd⟩
theorem St.more {h' : Heap} {k : Nat} (I : St W F μ s) (e : ∀ b o,s.heap.get? b = some o → h'.get? b = some o) : St W F μ { s with heap := h',toks := k } :=
  ⟨I.gens,I.os,fun b o q => e b o (I.base b o q),fun p hp => by (apply gG;intro nG;obtain ⟨o,ho,hc⟩ := I.mu p hp <;> refine nG ?_ <;> clear nG); exact ⟨o,e _ _ ho,hc.ext ⟨fun u_ z => z,fun a o u_ q => e a o q⟩⟩,I.nodup,fun a fa => by (apply gG;intro nG;obtain ⟨⟨o,ho⟩,na⟩ := I.froz a fa <;> refine nG ?_ <;> clear nG); exact ⟨⟨o,e _ _ ho⟩,na⟩,I.frozBase⟩
theorem In.more {h' : Heap} {k : Nat} (I : In W Φ ns F μ ℓ s) (e : ∀ b o,s.heap.get? b = some o → h'.get? b = some o) : In W Φ ns F μ ℓ { s with heap := h',toks := k } ∧ Ext F s.heap F h' := by
  have ex : Ext F s.heap F h' := ⟨fun u_ z => z,fun a o u_ q => e a o q⟩
  apply gG;intro nG
  obtain ⟨m,hm,hl⟩ := I.loc;apply nG;clear nG;exact ⟨⟨I.st.more e,⟨m,hm.keeps e,hl.ext ex⟩,I.apart,I.nfroz,⟨fun b o q n => e b o (I.grow.keep b o q n),I.grow.mono,I.grow.froz,I.grow.new⟩⟩,ex⟩
theorem res_more {b : β} {a : α} {Q : β → Mu → Loc → Prop} {h' : Heap} {k : Nat} (I : In W Φ ns F μ ℓ s) (e : ∀ b o,s.heap.get? b = some o → h'.get? b = some o) (r : R h' F b a) (q : Q b μ ℓ) : Res W R Φ ns F s.heap Q a { s with heap := h',toks := k } :=
  let ⟨I',ex⟩ := I.more e; ⟨F,b,μ,ℓ,I',ex,r,q⟩
theorem get_fresh (h : Heap) : h.get? h.objs.size = none := by
  cases e : h.get? h.objs.size with
  | none => rfl
  | some o => exact absurd (Heap.lt_size e) (Nat.lt_irrefl _)
theorem In.lalive (I : In W Φ ns F μ ℓ s) : ∃ o,s.heap.get? Φ.env.locals = some o := by (apply gG;intro nG;obtain ⟨_,⟨o,_,_,ho,_⟩,_⟩ := I.loc <;> refine nG ?_ <;> clear nG); exact ⟨o,ho⟩
theorem St.mu_alive (I : St W F μ s) {a : Addr} (h : a ∈ addrs μ) : ∃ o,s.heap.get? a = some o := by
  apply gG;intro nG
  obtain ⟨p,hp,rfl⟩ := List.mem_map.mp h;obtain ⟨o,ho,_⟩ := I.mu p hp;apply nG;clear nG;exact ⟨o,ho⟩
theorem Grow.fresh {M : List Addr} {F₀ : Addr → Prop} {h₀ : Heap} {h : Heap} (g : Grow M F₀ h₀ F μ h) {a : Addr} (e : h.get? a = none) : a ∈ M ∨ h₀.get? a = none := by
  by_cases hm : a ∈ M
  · exact .inl hm
  · refine .inr ?_;cases q : h₀.get? a with
    | none => rfl
    | some o => rw [g.keep a o q hm] at e; cases e
noncomputable def Frz (F : Addr → Prop) (a : Addr) : Addr → Prop := fun x => F x ∨ x = a
theorem In.born {o : Obj} {k : Nat} (I : In W Φ ns F μ ℓ s) (hf : o.isFreed = false) :
    In W Φ ns (Frz F s.heap.objs.size) μ ℓ { s with heap := s.heap.push o,toks := k } ∧ Ext F s.heap (Frz F s.heap.objs.size) (s.heap.push o) := by
  have fr := get_fresh s.heap;have e : ∀ b x,s.heap.get? b = some x → (s.heap.push o).get? b = some x := fun b x q => Heap.get?_push_of_some _ q
  have ex : Ext F s.heap (Frz F s.heap.objs.size) (s.heap.push o) := ⟨fun u_ z => .inl z,fun a x u_ q => e a x q⟩
  have nw : (s.heap.push o).get? s.heap.objs.size = some o := Heap.get?_push_size _ hf;apply gG;intro nG
  obtain ⟨m,hm,hl⟩ := I.loc;apply nG;clear nG;refine ⟨⟨⟨I.st.gens,I.st.os,fun b x q => e b x (I.st.base b x q),fun p hp => ?_,I.st.nodup,fun a fa => ?_,fun a x q => .inl (I.st.frozBase a x q)⟩,⟨m,hm.keeps e,hl.ext ex⟩,I.apart,fun q => ?_,⟨fun b x q n => e b x (I.grow.keep b x q n),fun a q => .inl (I.grow.mono a q),fun a q => ?_,I.grow.new⟩⟩,ex⟩
  · apply gG;intro nG
    obtain ⟨x,hx,hc⟩ := I.st.mu p hp;apply nG;clear nG;exact ⟨x,e _ _ hx,hc.ext ex⟩
  · rcases fa with fa | rfl
    · apply gG;intro nG
      obtain ⟨⟨x,hx⟩,na⟩ := I.st.froz a fa;apply nG;clear nG;exact ⟨⟨x,e _ _ hx⟩,na⟩
    · exact ⟨⟨o,nw⟩,fun h => by obtain ⟨x,hx⟩ := I.st.mu_alive h; rw [fr] at hx; cases hx⟩
  · rcases q with q | q
    · exact I.nfroz q
    · obtain ⟨x,hx⟩ := I.lalive; rw [q,fr] at hx; cases hx
  · rcases q with q | rfl
    · exact I.grow.froz a q
    · exact .inr (I.grow.fresh fr)
theorem res_born {b : β} {a : α} {o : Obj} {k : Nat} {Q : β → Mu → Loc → Prop} (I : In W Φ ns F μ ℓ s) (hf : o.isFreed = false) (r : R (s.heap.push o) (Frz F s.heap.objs.size) b a) (q : Q b μ ℓ) :
    Res W R Φ ns F s.heap Q a { s with heap := s.heap.push o,toks := k } :=
  let ⟨I',ex⟩ := I.born (k := k) hf; ⟨_,b,μ,ℓ,I',ex,r,q⟩
theorem is_tup {l : List V} {vs : List Value} (hl : IsL s.heap F l vs) : Is (s.heap.push { cls := .type "tuple",data := .seq vs.toArray }) (Frz F s.heap.objs.size) (.tup l) (.ref s.heap.objs.size) :=
  .tup (.inr rfl) (Heap.get?_push_size _ rfl) rfl rfl (hl.ext ⟨fun u_ z => .inl z,fun a x u_ q => Heap.get?_push_of_some _ q⟩)
theorem In.made {o : Obj} {c : Ce} {k : Nat} (I : In W Φ ns F μ ℓ s) (hf : o.isFreed = false) (hc : CIs s.heap F c o) :
    In W Φ ns F ((s.heap.objs.size,c) :: μ) ℓ { s with heap := s.heap.push o,toks := k } ∧ Ext F s.heap F (s.heap.push o) := by
  have fr := get_fresh s.heap;have e : ∀ b x,s.heap.get? b = some x → (s.heap.push o).get? b = some x := fun b x q => Heap.get?_push_of_some _ q
  have ex : Ext F s.heap F (s.heap.push o) := ⟨fun u_ z => z,fun a x u_ q => e a x q⟩
  have nw : (s.heap.push o).get? s.heap.objs.size = some o := Heap.get?_push_size _ hf;have nm : s.heap.objs.size ∉ addrs μ := fun h => by obtain ⟨x,hx⟩ := I.st.mu_alive h; rw [fr] at hx; cases hx
  apply gG;intro nG
  obtain ⟨m,hm,hl⟩ := I.loc;apply nG;clear nG;refine ⟨⟨⟨I.st.gens,I.st.os,fun b x q => e b x (I.st.base b x q),fun p hp => ?_,List.nodup_cons.mpr ⟨nm,I.st.nodup⟩,fun a fa => ?_,I.st.frozBase⟩,⟨m,hm.keeps e,hl.ext ex⟩,?_,I.nfroz,⟨fun b x q n => e b x (I.grow.keep b x q n),I.grow.mono,I.grow.froz,fun a ha => ?_⟩⟩,ex⟩
  · rcases List.mem_cons.mp hp with rfl | hp
    · exact ⟨o,nw,hc.ext ex⟩
    · apply gG;intro nG
      obtain ⟨x,hx,hc⟩ := I.st.mu p hp;apply nG;clear nG;exact ⟨x,e _ _ hx,hc.ext ex⟩
  · apply gG;intro nG
    obtain ⟨⟨x,hx⟩,na⟩ := I.st.froz a fa;apply nG;clear nG;refine ⟨⟨x,e _ _ hx⟩,fun h => ?_⟩;rcases List.mem_cons.mp h with rfl | h
    · rw [fr] at hx; cases hx
    · exact na h
  · intro h;rcases List.mem_cons.mp h with h | h
    · obtain ⟨x,hx⟩ := I.lalive;have h' : Φ.env.locals = s.heap.objs.size := h;rw [h',fr] at hx; cases hx
    · exact I.apart h
  · rcases List.mem_cons.mp ha with rfl | ha
    · exact I.grow.fresh fr
    · exact I.grow.new a ha
theorem res_made {b : β} {a : α} {o : Obj} {c : Ce} {k : Nat} {Q : β → Mu → Loc → Prop} (I : In W Φ ns F μ ℓ s) (hf : o.isFreed = false) (hc : CIs s.heap F c o) (r : R (s.heap.push o) F b a) (q : Q b ((s.heap.objs.size,c) :: μ) ℓ) :
    Res W R Φ ns F s.heap Q a { s with heap := s.heap.push o,toks := k } :=
  let ⟨I',ex⟩ := I.made (k := k) hf hc; ⟨_,b,_,ℓ,I',ex,r,q⟩
theorem o_add {a b : Int} {Q : V → Mu → Loc → Prop} (q : Q (.int (a + b)) μ ℓ) : X2 W RV Φ ns gs μ ℓ (.int a) (.int b) (binaryOp .Add) Q := by
  intro s F x y G O I hx hy; obtain ⟨_,rfl⟩ := hx.inv; obtain ⟨_,rfl⟩ := hy.inv; refine .of ?_; refine P.add_int ?_; exact res_tok I .int q
theorem o_sub {a b : Int} {Q : V → Mu → Loc → Prop} (q : Q (.int (a - b)) μ ℓ) : X2 W RV Φ ns gs μ ℓ (.int a) (.int b) (binaryOp .Sub) Q := by
  intro s F x y G O I hx hy; obtain ⟨_,rfl⟩ := hx.inv; obtain ⟨_,rfl⟩ := hy.inv; refine .of ?_; refine P.sub_int ?_; exact res_tok I .int q
theorem o_mul {a b : Int} {Q : V → Mu → Loc → Prop} (hb : (-(2 ^ 40) < b ∧ b < 2 ^ 40)) (q : Q (.int (a * b)) μ ℓ) : X2 W RV Φ ns gs μ ℓ (.int a) (.int b) (binaryOp .Mult) Q := by
  intro s F x y G O I hx hy; obtain ⟨_,rfl⟩ := hx.inv; obtain ⟨_,rfl⟩ := hy.inv;refine .of ?_;refine P.mul_int (res_tok I .int q) ?_;have h' : ¬ (Builtin.Int.intBits b > shortFactorBits) := Nat.not_lt.mpr (intBits_le_64 (by exact q474 hb) (by exact q475 hb));unfold IntMulOk; rw [decide_eq_false h']; simp
theorem o_and {a b : Int} {Q : V → Mu → Loc → Prop} (q : Q (.int (Builtin.bitAnd a b)) μ ℓ) : X2 W RV Φ ns gs μ ℓ (.int a) (.int b) (binaryOp .BitAnd) Q := by
  intro s F x y G O I hx hy; obtain ⟨_,rfl⟩ := hx.inv; obtain ⟨_,rfl⟩ := hy.inv; refine .of ?_; refine and_int ?_; exact res_tok I .int q
theorem o_mod {a b : Int} {Q : V → Mu → Loc → Prop} (hb : b ≠ 0) (q : Q (.int (a.fmod b)) μ ℓ) : X2 W RV Φ ns gs μ ℓ (.int a) (.int b) (binaryOp .Mod) Q := by
  intro s F x y G O I hx hy; obtain ⟨_,rfl⟩ := hx.inv; obtain ⟨_,rfl⟩ := hy.inv; refine .of ?_; exact mod_int' hb (res_tok I .int q)
theorem i_add {a b : Int} {Q : V → Mu → Loc → Prop} (q : Q (.int (a + b)) μ ℓ) : X2 W RV Φ ns gs μ ℓ (.int a) (.int b) (inplaceOp .Add) Q := by
  intro s F x y G O I hx hy; obtain ⟨_,rfl⟩ := hx.inv; obtain ⟨_,rfl⟩ := hy.inv; refine .of ?_; refine P.iadd_int ?_; exact res_tok I .int q
theorem i_sub {a b : Int} {Q : V → Mu → Loc → Prop} (q : Q (.int (a - b)) μ ℓ) : X2 W RV Φ ns gs μ ℓ (.int a) (.int b) (inplaceOp .Sub) Q := by
  intro s F x y G O I hx hy; obtain ⟨_,rfl⟩ := hx.inv; obtain ⟨_,rfl⟩ := hy.inv; refine .of ?_; refine P.isub_int ?_; exact res_tok I .int q
theorem i_mul {a b : Int} {Q : V → Mu → Loc → Prop} (hb : (-(2 ^ 40) < b ∧ b < 2 ^ 40)) (q : Q (.int (a * b)) μ ℓ) : X2 W RV Φ ns gs μ ℓ (.int a) (.int b) (inplaceOp .Mult) Q := by
  intro s F x y G O I hx hy; obtain ⟨_,rfl⟩ := hx.inv; obtain ⟨_,rfl⟩ := hy.inv;refine .of ?_;refine P.imul_int (res_tok I .int q) ?_;have h' : ¬ (Builtin.Int.intBits b > shortFactorBits) := Nat.not_lt.mpr (intBits_le_64 (by exact q474 hb) (by exact q475 hb));unfold IntMulOk; rw [decide_eq_false h']; simp
theorem i_and {a b : Int} {Q : V → Mu → Loc → Prop} (q : Q (.int (Builtin.bitAnd a b)) μ ℓ) : X2 W RV Φ ns gs μ ℓ (.int a) (.int b) (inplaceOp .BitAnd) Q := by
  intro s F x y G O I hx hy; obtain ⟨_,rfl⟩ := hx.inv; obtain ⟨_,rfl⟩ := hy.inv; refine .of ?_; refine iand_int ?_; exact res_tok I .int q
theorem u_inv {a : Int} {Q : V → Mu → Loc → Prop} (q : Q (.int (Builtin.bitNot a)) μ ℓ) : X1 W RV Φ ns gs μ ℓ (.int a) (unaryOp .Invert) Q := by
  intro s F x G O I hx; obtain ⟨_,rfl⟩ := hx.inv; refine .of ?_; refine invert_int ?_; exact res_tok I .int q
theorem u_neg {a : Int} {Q : V → Mu → Loc → Prop} (q : Q (.int (-a)) μ ℓ) : X1 W RV Φ ns gs μ ℓ (.int a) (unaryOp .USub) Q := by
  intro s F x G O I hx; obtain ⟨_,rfl⟩ := hx.inv; refine .of ?_; refine P.neg_int ?_; exact res_tok I .int q
theorem c_lt {a b : Int} {Q : V → Mu → Loc → Prop} (q : Q (.bool (decide (a < b))) μ ℓ) : X2 W RV Φ ns gs μ ℓ (.int a) (.int b) (compareOp .Lt) Q := by
  intro s F x y G O I hx hy; obtain ⟨_,rfl⟩ := hx.inv; obtain ⟨_,rfl⟩ := hy.inv; refine .of ?_; refine P.lt_int ?_; exact res_here I .bool q
theorem c_le {a b : Int} {Q : V → Mu → Loc → Prop} (q : Q (.bool (decide (a ≤ b))) μ ℓ) : X2 W RV Φ ns gs μ ℓ (.int a) (.int b) (compareOp .LtE) Q := by
  intro s F x y G O I hx hy; obtain ⟨_,rfl⟩ := hx.inv; obtain ⟨_,rfl⟩ := hy.inv; refine .of ?_; refine P.le_int ?_; exact res_here I .bool q
theorem c_gt {a b : Int} {Q : V → Mu → Loc → Prop} (q : Q (.bool (decide (a > b))) μ ℓ) : X2 W RV Φ ns gs μ ℓ (.int a) (.int b) (compareOp .Gt) Q := by
  intro s F x y G O I hx hy; obtain ⟨_,rfl⟩ := hx.inv; obtain ⟨_,rfl⟩ := hy.inv; refine .of ?_; refine P.gt_int ?_; exact res_here I .bool q
theorem c_ge {a b : Int} {Q : V → Mu → Loc → Prop} (q : Q (.bool (decide (a ≥ b))) μ ℓ) : X2 W RV Φ ns gs μ ℓ (.int a) (.int b) (compareOp .GtE) Q := by
  intro s F x y G O I hx hy; obtain ⟨_,rfl⟩ := hx.inv; obtain ⟨_,rfl⟩ := hy.inv; refine .of ?_; refine P.ge_int ?_; exact res_here I .bool q
theorem c_eq {a b : Int} {Q : V → Mu → Loc → Prop} (q : Q (.bool (a == b)) μ ℓ) : X2 W RV Φ ns gs μ ℓ (.int a) (.int b) (compareOp .Eq) Q := by
  intro s F x y G O I hx hy; obtain ⟨_,rfl⟩ := hx.inv; obtain ⟨_,rfl⟩ := hy.inv; refine .of ?_; refine P.eq_int ?_; exact res_here I .bool q
theorem c_ne {a b : Int} {Q : V → Mu → Loc → Prop} (q : Q (.bool (a != b)) μ ℓ) : X2 W RV Φ ns gs μ ℓ (.int a) (.int b) (compareOp .NotEq) Q := by
  intro s F x y G O I hx hy; obtain ⟨_,rfl⟩ := hx.inv; obtain ⟨_,rfl⟩ := hy.inv; refine .of ?_; refine P.ne_int ?_; exact res_here I .bool q
noncomputable def isN : V → Option Bool
  | .none => some true
  | .bool _ | .int _ | .str _ | .bytes _ | .tup _ | .lst _ | .tab .. | .slc .. | .rev => some false
  | .val (.ref _) | .val (.type _) | .val (.builtin _) => some false
  | _ => none
theorem isN_is {h : Heap} {F : Addr → Prop} {v : V} {x : Value} {b : Bool} (hv : Is h F v x) (e : isN v = some b) : (x == .none) = b := by
  cases hv with
  | @val v => cases x <;> first | exact nso e | exact Option.some.inj e
  | _ => exact Option.some.inj e
theorem c_is {v : V} {b : Bool} {Q : V → Mu → Loc → Prop} (e : isN v = some b) (q : Q (.bool b) μ ℓ) : X2 W RV Φ ns gs μ ℓ v .none (compareOp .Is) Q := by
  intro s F x y G O I hx hy; obtain ⟨_,rfl⟩ := hy.inv; refine .of ?_; exact is_none (by rw [isN_is hx e]; exact res_here I .bool q)
theorem c_isnot {v : V} {b : Bool} {Q : V → Mu → Loc → Prop} (e : isN v = some b) (q : Q (.bool (!b)) μ ℓ) : X2 W RV Φ ns gs μ ℓ v .none (compareOp .IsNot) Q := by
  intro s F x y G O I hx hy; obtain ⟨_,rfl⟩ := hy.inv; refine .of ?_; exact isNot_none (by rw [isN_is hx e]; exact res_here I .bool q)
theorem t_bool {b : Bool} {Q : Bool → Mu → Loc → Prop} (q : Q b μ ℓ) : X1 W RB Φ ns gs μ ℓ (.bool b) truthy Q := by
  intro s F x G O I hx; obtain ⟨_,rfl⟩ := hx.inv; refine .of ?_; refine wpAny_truthy_bool ?_; exact res_here I rfl q
theorem t_int {a : Int} {Q : Bool → Mu → Loc → Prop} (q : Q (a != 0) μ ℓ) : X1 W RB Φ ns gs μ ℓ (.int a) truthy Q := by
  intro s F x G O I hx; obtain ⟨_,rfl⟩ := hx.inv; refine .of ?_; refine P.truthy_int ?_; exact res_here I rfl q
theorem t_none {Q : Bool → Mu → Loc → Prop} (q : Q false μ ℓ) : X1 W RB Φ ns gs μ ℓ .none truthy Q := by
  intro s F x G O I hx; obtain ⟨_,rfl⟩ := hx.inv; refine .of ?_; exact fun u_ u_ u_ => res_here (R := RB) I rfl q
theorem l_min {a b : Int} {Q : V → Mu → Loc → Prop} (q : Q (.int (if b < a then b else a)) μ ℓ) : XL W RV Φ ns gs μ ℓ [.int a,.int b] (fun xs => call (.builtin "min") xs) Q := by
  intro s F xs G O I hx;apply gG;intro nG
  obtain ⟨x,y,rfl,ha,hb⟩ := isL2 hx;apply nG;clear nG;obtain ⟨_,rfl⟩ := ha.inv; obtain ⟨_,rfl⟩ := hb.inv;refine .of ?_;refine min_two_ints O.room.handled fun h' tk e => ?_
  by_cases c : b < a
  · rw [if_pos c] at q ⊢; exact res_more I e .int q
  · rw [if_neg c] at q ⊢; exact res_more I e .int q
theorem args_ba_len (a : Value) : argsOk "bytearray.__len__" ⟨[a],[]⟩ := by unfold argsOk; kernel_rfl
theorem slot_ba_len : Slot "bytearray" "__len__" "bytearray.__len__" :=
  .of (owner := "bytearray") (n := "__len__") (by rw [typeLookup_type,builtinLookup_eq_fast]; kernel_rfl) (by decide +kernel) (by decide +kernel) (by decide +kernel)
    (by first | exact .inl (by decide +kernel) | exact .inr (by decide +kernel)) (by rw [isSubtype_type]; kernel_rfl)
theorem entry_ba_len : entryFor table "bytearray.__len__" = some Builtin.«bytearray.__len__» := entryFor_of_tree (by kernel_rfl)
theorem call_len_ba {prog : Program} {w : World} {A : Around} {E : Value → Shared → Prop} {s : Shared} {a : Addr} {b : Array UInt8} {e : Nat} {d : Option Addr} {sl} {Q : Value → Shared → Prop}
    (ho : s.heap.get? a = some ⟨.type "bytearray",d,.bytearray b e,sl⟩) (hz : b.size ≤ 16777216) (h : ∀ t k,Q (.int b.size t) { s with toks := k }) : wpAny (model prog w) A (call (.builtin "len") [.ref a]) Q E s := by
  have hT : s.TypeIs (.ref a) "bytearray" := ⟨_,ho,rfl⟩
  refine Calls.call_function_entry kind_len plain_len entry_len (args_len1 _) ?_;unfold Builtin.«len»;refine wpAny_bind (m := oneArg "len" _) (wpAny_pure ?_);refine wpAny_bind (m := callSpecial? (.ref a) (Str.ofString "__len__")) (wpAny_callSpecial?_slot (name := Str.ofString "__len__") hT slot_ba_len
    (wpAny_call_entry slot_ba_len hT entry_ba_len ?_ (args_ba_len _)))
  apply gG;intro nG
  obtain ⟨hh,g,dr,t,os⟩ := s;apply nG;clear nG;dsimp only at ho;unfold Builtin.«bytearray.__len__» Bytes.payload Bytes.payload?;repeat lk
  refine ⟨_,rfl,?_⟩;refine wpAny_bind (wpAny_holding (wpAny_pure ?_));refine wpAny_bind (wpAny_letGo ?_);show wpAny _ _ (if ((b.size : Nat) : Int) < 0 then _ else _) _ _ _;rw [if_neg (by exact q476)];show wpAny _ _ (if ((b.size : Nat) : Int) ≥ 2 ^ 63 then _ else _) _ _ _;rw [if_neg (by exact q477 hz)];exact wpAny_bind (wpAny_mkInt (wpAny_pure ⟨_,rfl,h _ _⟩))
end
end
section
open PySem PySem.W PyProof.Rows PySem.Calls Builtin
theorem st_slot_unpack : Slot "_struct.Struct" "unpack_from" "_struct.Struct.unpack_from" :=
  .of (owner := "_struct.Struct") (n := "unpack_from") (by rw [typeLookup_type,builtinLookup_eq_fast]; kernel_rfl) (by decide +kernel) (by decide +kernel) (by decide +kernel)
    (by first | exact .inl (by decide +kernel) | exact .inr (by decide +kernel)) (by rw [isSubtype_type]; kernel_rfl)
theorem st_slot_pack : Slot "_struct.Struct" "pack_into" "_struct.Struct.pack_into" :=
  .of (owner := "_struct.Struct") (n := "pack_into") (by rw [typeLookup_type,builtinLookup_eq_fast]; kernel_rfl) (by decide +kernel) (by decide +kernel) (by decide +kernel)
    (by first | exact .inl (by decide +kernel) | exact .inr (by decide +kernel)) (by rw [isSubtype_type]; kernel_rfl)
theorem st_entry_unpack : entryFor table "_struct.Struct.unpack_from" = some Builtin.«_struct.Struct.unpack_from» := entryFor_of_tree (by kernel_rfl)
theorem st_entry_pack : entryFor table "_struct.Struct.pack_into" = some Builtin.«_struct.Struct.pack_into» := entryFor_of_tree (by kernel_rfl)
theorem st_entry_held : entryFor table "_struct.pack_into.held" = some Builtin.«_struct.pack_into.held» := entryFor_of_tree (by kernel_rfl)
theorem st_args_unpack (a b c : Value) : argsOk "_struct.Struct.unpack_from" ⟨[a,b,c],[]⟩ := by unfold argsOk; kernel_rfl
theorem st_args_pack (a b c d : Value) : argsOk "_struct.Struct.pack_into" ⟨[a,b,c,d],[]⟩ := by unfold argsOk; kernel_rfl
theorem st_type_unpack : typeOf (.builtin "_struct.Struct.unpack_from") = pure (.type "method_descriptor") := by show builtinType _ = _; rw [builtinType_eq_fast]; kernel_rfl
theorem st_type_pack : typeOf (.builtin "_struct.Struct.pack_into") = pure (.type "method_descriptor") := by show builtinType _ = _; rw [builtinType_eq_fast]; kernel_rfl
theorem st_plain : PlainAttrs "_struct.Struct" := ⟨⟨"_struct.Struct.__getattribute__",by rw [typeLookup_type,builtinLookup_eq_fast]; kernel_rfl,by decide +kernel⟩,by rw [typeLookup_type,builtinLookup_eq_fast]; kernel_rfl⟩
noncomputable def fmtOf (c : Char) (n : Nat) (nat : Bool) : Struct.Format := ⟨false,nat,[⟨c,1,0,n⟩],n,1⟩
theorem parse_bool : Struct.parse #[63] = pure (fmtOf '?' 1 true) := by kernel_rfl
theorem parse_B : Struct.parse #[60,66] = pure (fmtOf 'B' 1 false) := by kernel_rfl
theorem parse_H : Struct.parse #[60,72] = pure (fmtOf 'H' 2 false) := by kernel_rfl
theorem parse_I : Struct.parse #[60,73] = pure (fmtOf 'I' 4 false) := by kernel_rfl
theorem parse_i : Struct.parse #[60,105] = pure (fmtOf 'i' 4 false) := by kernel_rfl
section
variable {prog : Program} {w : World} {A : Around} {E : Value → Shared → Prop} {s : Shared}
theorem place_in {name verb noRoom : String} {c : Char} {n : Nat} {nat : Bool} {len : Nat} {off : Int} (h0 : 0 ≤ off) (h1 : off + n ≤ len) : Struct.placeIn name verb noRoom (fmtOf c n nat) len off = pure off.toNat := by
  unfold Struct.placeIn;have h2 : ¬ off < 0 := by exact q478 h0
  refine (if_neg h2).trans ?_;rw [if_neg h2];exact if_neg (show ¬ ((len : Int) - off < (n : Int)) by exact q479 h1)
theorem fits_idx {off : Int} (h0 : 0 ≤ off) (h1 : off < 2 ^ 40) : Bytes.fitsIndex off = true := by
  simp only [Bytes.fitsIndex,Bool.and_eq_true,decide_eq_true_eq]; exact q480 h0 h1
theorem call_unpack {S : Addr} {fmt : Array UInt8} {ft : Tok} {d : Option Addr} {sl : Array (Option Value)} {c : Char} {n : Nat} {nat : Bool} {b : Array UInt8} {t u : Tok} {off : Int} {Q : Value → Shared → Prop}
    (ho : s.heap.get? S = some ⟨.type "_struct.Struct",d,.fields #[.bytes fmt ft],sl⟩) (hp : Struct.parse fmt = pure (fmtOf c n nat)) (h0 : 0 ≤ off) (h1 : off + n ≤ b.size) (hz : b.size ≤ 16777216)
    (h : wpAny (model prog w) A.in1 (Struct.unpacked "_struct.Struct.unpack_from" (fmtOf c n nat) b off.toNat) Q (fun u_ u_ => False) s) :
    wpAny (model prog w) A (call (.builtin "_struct.Struct.unpack_from") [.ref S,.bytes b t,.int off u]) Q (fun u_ u_ => False) s := by
  have hT : s.TypeIs (.ref S) "_struct.Struct" := ⟨_,ho,rfl⟩
  refine wpAny_call_entry st_slot_unpack hT st_entry_unpack ?_ (st_args_unpack _ _ _);apply gG;intro nG
  obtain ⟨hh,g,dr,tt,os⟩ := s;apply nG;clear nG;dsimp only at ho;unfold Builtin.«_struct.Struct.unpack_from» Struct.unpackFrom Struct.structFormat Bytes.bytesLike;have B : Bytes.bindOptional "_struct.Struct.unpack_from" "unpack_from" ["buffer","offset"] [.bytes b t,.int off u] [] = pure [some (.bytes b t),some (.int off u)] := by kernel_rfl
  have I : Bytes.indexHeld [.bytes b t] (.int off u) = pure off := by kernel_rfl
  have L1 : Looks (model prog w) hh (Bytes.buffer? "_struct.Struct.unpack_from" (.bytes b t)) (some b) := Looks.of_pure KBy.buffer_eq;have L2 : Looks (model prog w) hh (Struct.parse fmt) (fmtOf c n nat) := Looks.of_pure hp;dsimp only;rw [B];repeat (first | rw [I] | lk)
  rw [fits_idx h0 (by exact q481 h1 hz),if_neg (by decide)];have L3 : Looks (model prog w) hh (Struct.placeIn "unpack_from" "unpacking" "not enough data to unpack" (fmtOf c n nat) b.size off) off.toNat := Looks.of_pure (place_in h0 h1);generalize hup : Struct.unpacked "_struct.Struct.unpack_from" = up at h ⊢;repeat lk
  exact wpAny_mono h (fun v s' q => wpAny_pure ⟨v,rfl,q⟩) fun u_ u_ z => z
end
noncomputable def leN (l : List UInt8) : Nat := l.foldr (fun c n => n * 256 + c.toNat) 0
noncomputable def sgn4 (n : Nat) : Int := if (decide (n ≥ 2 ^ 31)) = true then (n : Int) - 2 ^ 32 else n
theorem ext_eq (b : List UInt8) (i n : Nat) : b.toArray.extract i (i + n) = ((b.drop i).take n).toArray := by
  apply Array.toList_inj.mp;simp [List.take_drop]
theorem natOf_eq (b : List UInt8) (i n : Nat) : Struct.natOf false (b.toArray.extract i (i + n)) = leN ((b.drop i).take n) := by
  rw [ext_eq];show Array.foldr _ 0 _ = _;unfold leN
  simp
theorem unp_B (b : Array UInt8) (i : Nat) : Struct.unpacked "_struct.Struct.unpack_from" (fmtOf 'B' 1 false) b i = (do let v ← mkInt (Struct.natOf false (b.extract i (i + 1))); newTuple [v]) := by kernel_rfl
theorem unp_H (b : Array UInt8) (i : Nat) : Struct.unpacked "_struct.Struct.unpack_from" (fmtOf 'H' 2 false) b i = (do let v ← mkInt (Struct.natOf false (b.extract i (i + 2))); newTuple [v]) := by kernel_rfl
theorem unp_I (b : Array UInt8) (i : Nat) : Struct.unpacked "_struct.Struct.unpack_from" (fmtOf 'I' 4 false) b i = (do let v ← mkInt (Struct.natOf false (b.extract i (i + 4))); newTuple [v]) := by kernel_rfl
theorem unp_i (b : Array UInt8) (i : Nat) : Struct.unpacked "_struct.Struct.unpack_from" (fmtOf 'i' 4 false) b i = (do let v ← mkInt (sgn4 (Struct.natOf false (b.extract i (i + 4)))); newTuple [v]) := by kernel_rfl
theorem unp_q (b : Array UInt8) (i : Nat) : Struct.unpacked "_struct.Struct.unpack_from" (fmtOf '?' 1 true) b i = newTuple [.bool (Struct.natOf false (b.extract i (i + 1)) != 0)] := by kernel_rfl
inductive Fm where
  | q | B | H | I | i
noncomputable def Fm.n : Fm → Nat
  | .q => 1 | .B => 1 | .H => 2 | .I => 4 | .i => 4
noncomputable def Fm.fmt : Fm → Array UInt8
  | .q => #[63] | .B => #[60,66] | .H => #[60,72] | .I => #[60,73] | .i => #[60,105]
noncomputable def Fm.dec : Fm → List UInt8 → V
  | .q,l => .bool (leN l != 0)
  | .i,l => .int (sgn4 (leN l))
  | _,l => .int (leN l)
noncomputable def dFields : Data → Option (Array Value)
  | .fields vs => some vs
  | _ => none
theorem dFields_of {d : Data} {vs : Array Value} (h : dFields d = some vs) : d = .fields vs := by cases d <;> first | exact nso h | exact congrArg Data.fields (Option.some.inj h)
noncomputable def vBy : Value → Option (Array UInt8)
  | .bytes b _ => some b
  | _ => none
theorem vBy_of {v : Value} {b : Array UInt8} (h : vBy v = some b) : ∃ t,v = .bytes b t := by cases v <;> first | exact nso h | exact ⟨_,congrArg (Value.bytes · _) (Option.some.inj h)⟩
noncomputable def structAt (K : Frag) (S : Addr) (f : Fm) : Bool := (K.lookup S).any fun o => o.cls == .type "_struct.Struct" && (o.dict == none && (dFields o.data).any fun vs => vs.toList.map vBy == [some f.fmt])
set_option tactic.hygienic true in
theorem struct_of {K : Frag} {h : Heap} {S : Addr} {f : Fm} (X : K.In h) (e : structAt K S f = true) : ∃ t sl,h.get? S = some ⟨.type "_struct.Struct",none,.fields #[.bytes f.fmt t],sl⟩ := by
  apply gG;intro nG
  obtain ⟨⟨c,d,dt,sl⟩,ho,e⟩ := (Option.any_eq_true _ _).mp e;obtain ⟨e1,e⟩ := Bool.and_eq_true_iff.mp e;obtain ⟨e2,e⟩ := Bool.and_eq_true_iff.mp e;obtain ⟨⟨l⟩,hv,e⟩ := (Option.any_eq_true _ _).mp e;obtain ⟨v,hl,e3⟩ := List.map_eq_singleton_iff.mp (beq_iff_eq.mp e);obtain ⟨t,e3⟩ := vBy_of e3;apply nG;clear nG;refine ⟨t,sl,(X _ _ ho).trans ?_⟩;rw [show c = _ from beq_iff_eq.mp e1,show d = _ from beq_iff_eq.mp e2,show dt = _ from dFields_of hv,show l = _ from hl,e3]
section
variable {W : Wd} {Φ : Fx} {ns : List Str} {gs : List (Str × Value)} {μ μ' μ₁ ν : Mu} {ℓ ℓ' : Loc} {F F' : Addr → Prop} {s s' : Shared}
theorem newTuple_froz {l : List V} {vs : List Value} {A : Around} {E : Value → Shared → Prop} {k : Nat} {Q : V → Mu → Loc → Prop} (I : In W Φ ns F μ ℓ s) (hl : IsL s.heap F l vs) (hz : vs.length ≤ sizeLine) (q : Q (.tup l) μ ℓ) :
    wpAny W.M A (newTuple vs) (Res W RV Φ ns F s.heap Q) E { s with toks := k } :=
  wpAny_newObj_type (res_born I rfl (is_tup hl) q) (by show vs.toArray.size ≤ sizeLine; rw [List.size_toArray]; exact hz)
theorem l_unpack {S : Addr} {f : Fm} {b : List UInt8} {off : Int} {Q : V → Mu → Loc → Prop} (hs : structAt W.K S f = true) (h0 : 0 ≤ off) (h1 : off + f.n ≤ b.length) (hz : b.length ≤ 16777216)
    (q : Q (.tup [f.dec ((b.drop off.toNat).take f.n)]) μ ℓ) : XL W RV Φ ns gs μ ℓ [.val (.ref S),.bytes b,.int off] (fun xs => call (.builtin "_struct.Struct.unpack_from") xs) Q := by
  intro s F xs G O I hx;apply gG;intro nG
  obtain ⟨x,y,z,rfl,hx,hy,hz'⟩ := isL3 hx;apply nG;clear nG;obtain ⟨_,rfl⟩ := hx.inv; obtain ⟨_,rfl⟩ := hy.inv; obtain ⟨_,rfl⟩ := hz'.inv;apply gG;intro nG
  obtain ⟨t,sl,ho⟩ := struct_of (I.K G) hs;apply nG;clear nG;have hb : off + f.n ≤ (b.toArray.size : Int) := by rw [List.size_toArray]; exact h1
  have hbz : b.toArray.size ≤ 16777216 := by rw [List.size_toArray]; exact hz
  have one : ∀ v : Value,[v].length ≤ sizeLine := fun v => by rw [sizeLine_eq]; simp
  refine .of ?_;cases f with
  | q =>
    refine call_unpack ho parse_bool h0 hb hbz ?_;rw [unp_q,natOf_eq];exact newTuple_froz I (.cons .bool .nil) (one _) q
  | B =>
    refine call_unpack ho parse_B h0 hb hbz ?_;rw [unp_B,natOf_eq];exact wpAny_bind (wpAny_mkInt (newTuple_froz I (.cons .int .nil) (one _) q))
  | H =>
    refine call_unpack ho parse_H h0 hb hbz ?_;rw [unp_H,natOf_eq];exact wpAny_bind (wpAny_mkInt (newTuple_froz I (.cons .int .nil) (one _) q))
  | I =>
    refine call_unpack ho parse_I h0 hb hbz ?_;rw [unp_I,natOf_eq];exact wpAny_bind (wpAny_mkInt (newTuple_froz I (.cons .int .nil) (one _) q))
  | i =>
    refine call_unpack ho parse_i h0 hb hbz ?_;rw [unp_i,natOf_eq];exact wpAny_bind (wpAny_mkInt (newTuple_froz I (.cons .int .nil) (one _) q))
theorem m_unpack {S : Addr} {f : Fm} {pl : Sem Bool} {Q : Value × List V → Mu → Loc → Prop} (hs : structAt W.K S f = true) (q : Q (.builtin "_struct.Struct.unpack_from",[.val (.ref S)]) μ ℓ) :
    X1 W RM Φ ns gs μ ℓ (.val (.ref S)) (fun v => getMethod v (Str.ofString "unpack_from") pl) Q := by
  intro s F x G O I hx;apply gG;intro nG
  obtain ⟨_,rfl⟩ := hx.inv;obtain ⟨t,sl,ho⟩ := struct_of (I.K G) hs;apply nG;clear nG;refine .of ?_;exact getMethod_builtin ⟨_,ho,rfl⟩ st_plain st_slot_unpack st_type_unpack (fun a e => by cases e; exact ⟨_,ho,rfl⟩) (res_here I ⟨rfl,.cons .val .nil⟩ q)
theorem m_pack {S : Addr} {f : Fm} {pl : Sem Bool} {Q : Value × List V → Mu → Loc → Prop} (hs : structAt W.K S f = true) (q : Q (.builtin "_struct.Struct.pack_into",[.val (.ref S)]) μ ℓ) :
    X1 W RM Φ ns gs μ ℓ (.val (.ref S)) (fun v => getMethod v (Str.ofString "pack_into") pl) Q := by
  intro s F x G O I hx;apply gG;intro nG
  obtain ⟨_,rfl⟩ := hx.inv;obtain ⟨t,sl,ho⟩ := struct_of (I.K G) hs;apply nG;clear nG;refine .of ?_;exact getMethod_builtin ⟨_,ho,rfl⟩ st_plain st_slot_pack st_type_pack (fun a e => by cases e; exact ⟨_,ho,rfl⟩) (res_here I ⟨rfl,.cons .val .nil⟩ q)
end
end
section
open PySem PySem.W PyProof.Rows PySem.Calls Builtin
set_option backward.match.sparseCases false
noncomputable def putAt (b : Array UInt8) (p : Nat) (raw : Array UInt8) : Array UInt8 := raw.toList.zipIdx.foldl (fun out x => out.setIfInBounds (p + x.2) x.1) b
section
variable {prog : Program} {w : World} {A : Around} {s : Shared}
theorem ba_buffer : typeLookup (.type "bytearray") "__buffer__" = pure (some (.builtin "bytearray.__buffer__")) := by rw [typeLookup_type,builtinLookup_eq_fast]; kernel_rfl
theorem call_pack {S a : Addr} {fmt : Array UInt8} {ft : Tok} {d : Option Addr} {sl : Array (Option Value)} {c : Char} {n : Nat} {nat : Bool} {b : Array UInt8} {u : Tok} {off : Int} {v : Value} {R : Result → Shared → Prop}
    (ho : s.heap.get? S = some ⟨.type "_struct.Struct",d,.fields #[.bytes fmt ft],sl⟩) (hp : Struct.parse fmt = pure (fmtOf c n nat)) (hb : s.heap.get? a = some ⟨.type "bytearray",none,.bytearray b 0,#[]⟩)
    (h : codeAny (model prog w) A (.builtin "_struct.pack_into.held" ⟨[.ref a,.ref a,rawInt 0,rawInt b.size,.ref S,.bytes fmt ft,.int off u,v],[]⟩) R s) :
    codeAny (model prog w) A (.call (.builtin "_struct.Struct.pack_into") ⟨[.ref S,.ref a,.int off u,v],[]⟩) R s := by
  have hT : s.TypeIs (.ref S) "_struct.Struct" := ⟨_,ho,rfl⟩
  have hB : s.TypeIs (.ref a) "bytearray" := ⟨_,hb,rfl⟩
  refine codeAny_call_builtin st_slot_pack.plain st_entry_pack (st_slot_pack.check _ _ _ _ _ _ _ _ hT (st_args_pack _ _ _ _) ?_);apply gG;intro nG
  obtain ⟨hh,g,dr,tt,os⟩ := s;apply nG;clear nG;dsimp only at ho hb;unfold Builtin.«_struct.Struct.pack_into» Struct.structFormat Struct.packInto specialOf;have L2 : Looks (model prog w) hh (Struct.parse fmt) (fmtOf c n nat) := Looks.of_pure hp;have L3 : Looks (model prog w) hh (typeOf (.ref a)) (.type "bytearray") := (Looks.ld (part := none) hb).andThen .now;have L4 : Looks (model prog w) hh (typeLookup (.type "bytearray") "__buffer__") (some (.builtin "bytearray.__buffer__")) := Looks.of_pure ba_buffer;repeat lk
  exact ⟨Code.quiet_builtin _ (by decide +kernel),h⟩
theorem wr_ba {M : Model} {A : Around} {E : Value → Shared → Prop} {s : Shared} {a : Addr} {b : Array UInt8} {e : Nat} {d : Option Addr} {sl : Array (Option Value)} {f : Array UInt8 → Array UInt8} {Q : Unit → Shared → Prop} (hb : s.heap.get? a = some ⟨.type "bytearray",d,.bytearray b e,sl⟩) (hz : (f b).size ≤ 16777216)
    (h : Q () { s with heap := s.heap.update a (Obj.mapBytearray f) }) : wpAny M A (Bytes.write (.ref a) f) Q E s := by
  show wpAny _ _ (updateBytearray a f) _ _ _;unfold updateBytearray;refine wpAny_bind (wpAny_load hb (wpAny_bind (wpAny_update hb ?_)));refine wpAny_lookBehind (o := Obj.mapBytearray f ⟨.type "bytearray",d,.bytearray b e,sl⟩) (Heap.get?_update_self _ hb rfl) ?_ h;show (if (f b).size > sizeLine then some "bytearray:memory" else none) = none;rw [if_neg (by rw [sizeLine_eq]; exact q482 hz)]
theorem putAt_size (b : Array UInt8) (p : Nat) (raw : Array UInt8) : (putAt b p raw).size = b.size := by
  unfold putAt;generalize raw.toList.zipIdx = l;induction l generalizing b with
  | nil => rfl
  | cons x l ih => rw [List.foldl_cons,ih,Array.size_setIfInBounds]
theorem bind_of {α β : Type} {t : Sem α} {a : α} {f : α → Sem β} (h : t = pure a) : (t >>= f) = f a := by rw [h]; rfl
theorem key {α : Type} {P x : Sem α} {c : Bool} {e : Sem α} (h : P = if c = true then e else x) (hc : c = false) : P = x := by
  rw [h,hc]; rfl
noncomputable def Packs (c : Char) (n : Nat) (nat : Bool) (v : Value) (raw : Array UInt8) : Prop := ∀ (id : String) (init : Unit) (put : Unit → Nat → Array UInt8 → Sem Unit) (source : Value → Nat → Nat → Sem Unit),
  Struct.packEach id (fmtOf c n nat) [v] init put source = put init 0 raw
noncomputable def packP (c : Char) (n : Nat) (nat : Bool) (v : Value) (hx : (c == 'x') = false) (hs : (c == 's' || c == 'p') = false) :
    { P : String → Sem (Array UInt8) // ∀ (id : String) (init : Unit) (put : Unit → Nat → Array UInt8 → Sem Unit) (source : Value → Nat → Nat → Sem Unit),Struct.packEach id (fmtOf c n nat) [v] init put source = P id >>= fun r => put init 0 r } := by
  refine ⟨?P,fun id init put source => ?h⟩
  case h =>
    unfold Struct.packEach;simp only [fmtOf,Std.Legacy.Range.forIn_eq_forIn_range',List.forIn_cons,List.forIn_nil,Std.Legacy.Range.size,Nat.sub_zero,Nat.add_sub_cancel,Nat.div_one,List.range'_one,hx,hs,Bool.false_eq_true,if_false,bind_assoc,pure_bind,Nat.zero_mul,Nat.zero_add,bind_pure];exact rfl
theorem packs_of {c : Char} {n : Nat} {nat : Bool} {v : Value} {raw : Array UInt8} (hx : (c == 'x') = false) (hs : (c == 's' || c == 'p') = false) (h : ∀ id,(packP c n nat v hx hs).1 id = pure raw) : Packs c n nat v raw := fun id init put source => by
  rw [(packP c n nat v hx hs).2,h]; rfl
theorem packs_i {i : Int} {t : Tok} (hlo : -(2 ^ 31) ≤ i) (hhi : i < 2 ^ 31) : Packs 'i' 4 false (.int i t) (Struct.intBytes false 4 i) := packs_of (by decide) (by decide) fun id => by
  refine key (c := decide (i < -(2 ^ (8 * 4 - 1))) || decide (i > 2 ^ (8 * 4 - 1) - 1)) (e := ?e) ?h ?g
  case h => with_unfolding_all exact rfl
  case g => simp; exact q483 hlo hhi
theorem packs_B {i : Int} {t : Tok} (hlo : 0 ≤ i) (hhi : i < 2 ^ 8) : Packs 'B' 1 false (.int i t) (Struct.intBytes false 1 i) := packs_of (by decide) (by decide) fun id => by
  refine key (c := decide (i < 0) || decide (i > 2 ^ (8 * 1) - 1)) (e := ?e) ?h ?g
  case h => with_unfolding_all exact rfl
  case g => simp; exact q484 hlo hhi
theorem packs_H {i : Int} {t : Tok} (hlo : 0 ≤ i) (hhi : i < 2 ^ 16) : Packs 'H' 2 false (.int i t) (Struct.intBytes false 2 i) := packs_of (by decide) (by decide) fun id => by
  refine key (c := decide (i < 0) || decide (i > 2 ^ (8 * 2) - 1)) (e := ?e) ?h ?g
  case h => with_unfolding_all exact rfl
  case g => simp; exact q485 hlo hhi
theorem packs_I {i : Int} {t : Tok} (hlo : 0 ≤ i) (hhi : i < 2 ^ 32) : Packs 'I' 4 false (.int i t) (Struct.intBytes false 4 i) := packs_of (by decide) (by decide) fun id => by
  refine key (c := decide (i < 0) || decide (i > 2 ^ (8 * 4) - 1)) (e := ?e) ?h ?g
  case h => with_unfolding_all exact rfl
  case g => simp; exact q486 hlo hhi
theorem packs_q {b : Bool} : Packs '?' 1 true (.bool b) #[if b then 1 else 0] := packs_of (by decide) (by decide) fun id => by with_unfolding_all exact rfl
theorem held {S a : Addr} {fmt : Array UInt8} {ft : Tok} {b : Array UInt8} {u : Tok} {off : Int} {R : Result → Shared → Prop} {c : Char} {n : Nat} {nat : Bool} {v : Value} {raw : Array UInt8}
    (hp : Struct.parse fmt = pure (fmtOf c n nat)) (hv : Packs c n nat v raw)
    (hb : s.heap.get? a = some ⟨.type "bytearray",none,.bytearray b 0,#[]⟩) (h0 : 0 ≤ off) (h1 : off + n ≤ b.size) (hz : b.size ≤ 16777216)
    (h : R (.ok (.ret .none)) { s with heap := (s.heap.update a (Obj.mapBytearray fun b => putAt b off.toNat (Array.replicate n 0))).update a (Obj.mapBytearray fun b => putAt b off.toNat raw) }) :
    codeAny (model prog w) A (.builtin "_struct.pack_into.held" ⟨[.ref a,.ref a,rawInt 0,rawInt b.size,.ref S,.bytes fmt ft,.int off u,v],[]⟩) R s := by
  refine codeAny_builtin st_entry_held ?_;apply gG;intro nG
  obtain ⟨hh,g,dr,tt,os⟩ := s;apply nG;clear nG;dsimp only at hb;unfold Builtin.«_struct.pack_into.held» Struct.packHeld;have L2 : Looks (model prog w) hh (Struct.parse fmt) (fmtOf c n nat) := Looks.of_pure hp;have L3 : Looks (model prog w) hh (Struct.placeIn "pack_into" "packing" "no space to pack" (fmtOf c n nat) (Int.toNat (b.size : Int)) off) off.toNat := Looks.of_pure (place_in h0 (by rw [Int.toNat_natCast]; exact h1));generalize hF : fmtOf c n nat = fm at *;repeat lk
  rw [fits_idx h0 (by exact q481 h1 hz),if_neg (by decide)];generalize hw : @Bytes.write = wr;repeat lk
  rw [← hw];have hn : fm.size = n := by rw [← hF]; rfl
  have hnz : Int.toNat 0 + off.toNat = off.toNat := by simp
  refine wr_ba hb (by show (putAt b _ _).size ≤ _; rw [putAt_size]; exact hz) ?_;rw [hn,hnz];generalize hs1 : Heap.update _ a _ = h1;have hb' : h1.get? a = some ⟨.type "bytearray",none,.bytearray (putAt b off.toNat (Array.replicate n 0)) 0,#[]⟩ := by rw [← hs1]; exact Heap.get?_update_self _ hb rfl
  dsimp only;have hv' := hv;unfold Packs at hv';rw [hF] at hv';rw [hv'];refine wpAny_bind (wr_ba hb' (by show (putAt (putAt b _ _) _ _).size ≤ _; rw [putAt_size,putAt_size]; exact hz) ?_);refine wpAny_pure ?_;rw [← hs1];exact h
end
theorem foldl_putL (p : Nat) : ∀ (l b : List UInt8) (k : Nat),p + k + l.length ≤ b.length → (l.zipIdx k).foldl (fun out x => out.set (p + x.2) x.1) b = b.take (p + k) ++ l ++ b.drop (p + k + l.length)
  | [],b,k,h => by simp
  | c :: l,b,k,h => by
    rw [List.length_cons] at h;rw [List.zipIdx_cons,List.foldl_cons,foldl_putL p l (b.set (p + k) c) (k + 1) (by rw [List.length_set]; exact q487 h)];have h1 : p + k < b.length := by exact q488 h
    have e1 : (b.set (p + k) c).take (p + (k + 1)) = b.take (p + k) ++ [c] := by
      rw [List.set_eq_take_append_cons_drop,if_pos h1,List.take_append,List.take_of_length_le (by rw [List.length_take]; exact q489),List.length_take,show p + (k + 1) - min (p + k) b.length = 1 by (exact q490 h1)]
      rfl
    rw [e1,List.drop_set_of_lt (by exact Nat.le_add_right _ _),List.length_cons,List.append_assoc,List.append_assoc,List.append_assoc,show p + (k + 1) + l.length = p + k + (l.length + 1) by exact q491]
    rfl
theorem putAt_list (b raw : List UInt8) (p : Nat) (h : p + raw.length ≤ b.length) : putAt b.toArray p raw.toArray = (b.take p ++ raw ++ b.drop (p + raw.length)).toArray := by
  have g : ∀ (l : List (UInt8 × Nat)) (b : List UInt8),l.foldl (fun (out : Array UInt8) x => out.setIfInBounds (p + x.2) x.1) b.toArray = (l.foldl (fun out x => out.set (p + x.2) x.1) b).toArray := by
    intro l;induction l with
    | nil => intro b; rfl
    | cons x l ih => intro b; rw [List.foldl_cons,List.setIfInBounds_toArray,ih,List.foldl_cons]
  unfold putAt;rw [g];have := foldl_putL p raw b 0 (by exact q492 h);rw [this]; rfl
theorem put_twice {P Z E D : List UInt8} {p : Nat} (hp : P.length = p) (h : Z.length = E.length) : (P ++ Z ++ D).take p ++ E ++ (P ++ Z ++ D).drop (p + E.length) = P ++ E ++ D := by
  have e1 : (P ++ Z ++ D).take p = P := by rw [List.append_assoc,List.take_left' hp]
  have e2 : (P ++ Z ++ D).drop (p + E.length) = D := List.drop_left' (by rw [List.length_append,hp,h]);rw [e1,e2]
noncomputable def leB (n x : Nat) : List UInt8 := (List.range n).map fun k => (x / 256 ^ k % 256).toUInt8
theorem leB_length (n x : Nat) : (leB n x).length = n := by simp [leB]
noncomputable def Fm.enc : Fm → V → List UInt8
  | _,.bool b => [if b then 1 else 0]
  | f,.int z => leB f.n (z % 2 ^ (8 * f.n)).toNat
  | _,_ => []
noncomputable def Fm.fits : Fm → V → Prop
  | .q,.bool _ => True
  | .B,.int z => 0 ≤ z ∧ z < 2 ^ 8
  | .H,.int z => 0 ≤ z ∧ z < 2 ^ 16
  | .I,.int z => 0 ≤ z ∧ z < 2 ^ 32
  | .i,.int z => -(2 ^ 31) ≤ z ∧ z < 2 ^ 31
  | _,_ => False
noncomputable def Fm.ch : Fm → Char
  | .q => '?' | .B => 'B' | .H => 'H' | .I => 'I' | .i => 'i'
noncomputable def Fm.nat : Fm → Bool
  | .q => true | _ => false
theorem Fm.parse : ∀ f : Fm,Struct.parse f.fmt = pure (fmtOf f.ch f.n f.nat)
  | .q => parse_bool | .B => parse_B | .H => parse_H | .I => parse_I | .i => parse_i
theorem Fm.fits_cases {P : Fm → V → Prop} (hq : ∀ b,P .q (.bool b)) (hB : ∀ z,0 ≤ z ∧ z < 2 ^ 8 → P .B (.int z)) (hH : ∀ z,0 ≤ z ∧ z < 2 ^ 16 → P .H (.int z)) (hI : ∀ z,0 ≤ z ∧ z < 2 ^ 32 → P .I (.int z)) (hi : ∀ z,-(2 ^ 31) ≤ z ∧ z < 2 ^ 31 → P .i (.int z)) {f : Fm} {v : V} (w : f.fits v) : P f v := by
  cases f <;> cases v <;> first | exact w.elim | exact hq _ | exact hB _ w | exact hH _ w | exact hI _ w | exact hi _ w
theorem Fm.enc_length {f : Fm} {v : V} (w : f.fits v) : (f.enc v).length = f.n :=
  Fm.fits_cases (P := fun f v => (f.enc v).length = f.n) (fun u_ => rfl) (fun u_ u_ => leB_length _ _) (fun u_ u_ => leB_length _ _) (fun u_ u_ => leB_length _ _) (fun u_ u_ => leB_length _ _) w
theorem Fm.packs {h : Heap} {F : Addr → Prop} {f : Fm} {v : V} {x : Value} (w : f.fits v) (q : Is h F v x) : Packs f.ch f.n f.nat x (f.enc v).toArray :=
  Fm.fits_cases (P := fun f v => Is h F v x → Packs f.ch f.n f.nat x (f.enc v).toArray) (fun u_ q => by obtain ⟨_,rfl⟩ := q.inv; exact packs_q) (fun u_ w q => by obtain ⟨_,rfl⟩ := q.inv; exact packs_B w.1 w.2) (fun u_ w q => by obtain ⟨_,rfl⟩ := q.inv; exact packs_H w.1 w.2) (fun u_ w q => by obtain ⟨_,rfl⟩ := q.inv; exact packs_I w.1 w.2) (fun u_ w q => by obtain ⟨_,rfl⟩ := q.inv; exact packs_i w.1 w.2) w q
section
variable {W : Wd} {Φ : Fx} {ns : List Str} {gs : List (Str × Value)} {μ μ' μ₁ ν : Mu} {ℓ ℓ' : Loc} {F F' : Addr → Prop} {s s' : Shared}
theorem In.upd2 {a : Addr} {c c₁ c' : Ce} {o : Obj} {f g : Obj → Obj} {k : Nat} (I : In W Φ ns F μ ℓ s) (U : UpdM μ a c c₁ μ₁) (U' : UpdM μ₁ a c₁ c' μ') (ho : s.heap.get? a = some o) (hc : CIs s.heap F c₁ (f o)) (hf : (f o).isFreed = false) (hc' : ∀ h,CIs h F c' (g (f o))) (hf' : (g (f o)).isFreed = false) :
    In W Φ ns F μ' ℓ { s with heap := (s.heap.update a f).update a g,toks := k } ∧ Ext F s.heap F ((s.heap.update a f).update a g) := by
  apply gG;intro nG
  obtain ⟨I₁,e₁⟩ := I.upd (k := k) U ho hc hf;obtain ⟨I₂,e₂⟩ := I₁.upd (k := k) U' (Heap.get?_update_self f ho hf) (hc' _) hf';apply nG;clear nG;exact ⟨I₂,e₁.trans e₂⟩
theorem l_pack {S a : Addr} {f : Fm} {b : List UInt8} {off : Int} {v : V} {Q : V → Mu → Loc → Prop} (hs : structAt W.K S f = true) (hv : f.fits v) (h0 : 0 ≤ off) (h1 : off + f.n ≤ b.length) (hz : b.length ≤ 16777216)
    (U : UpdM μ a (.ba b) (.ba (b.take off.toNat ++ f.enc v ++ b.drop (off.toNat + f.n))) μ') (q : Q .none μ' ℓ) : XL W RV Φ ns gs μ ℓ [.val (.ref S),.val (.ref a),.int off,v] (fun xs => call (.builtin "_struct.Struct.pack_into") xs) Q := by
  intro s F xs G O I hx;apply gG;intro nG
  obtain ⟨x,y,z,u,rfl,hx,hy,hz',hu⟩ := isL4 hx;apply nG;clear nG;cases hx; cases hy; cases hz';apply gG;intro nG
  obtain ⟨t,sl,ho⟩ := struct_of (I.K G) hs;obtain ⟨o,hb,hc⟩ := I.cell U.mem;apply nG;clear nG;cases hc;have hl := Fm.enc_length hv;have e1 : putAt b.toArray off.toNat (Array.replicate f.n 0) = (b.take off.toNat ++ List.replicate f.n 0 ++ b.drop (off.toNat + f.n)).toArray := by
    have := putAt_list b (List.replicate f.n 0) off.toNat (by rw [List.length_replicate]; exact q493 h0 h1);rw [List.length_replicate] at this;rw [← this]; simp
  have e2 : putAt (putAt b.toArray off.toNat (Array.replicate f.n 0)) off.toNat (f.enc v).toArray = (b.take off.toNat ++ f.enc v ++ b.drop (off.toNat + f.n)).toArray := by
    have hlt : (b.take off.toNat).length = off.toNat := by rw [List.length_take]; exact q494 h1
    have hm : off.toNat + f.n ≤ b.length := by exact q493 h0 h1
    rw [e1,putAt_list _ _ _ (by rw [List.length_append,List.length_append,hlt,List.length_replicate,List.length_drop,hl]; (exact Nat.le_add_right _ _))];exact congrArg List.toArray (put_twice hlt (by rw [List.length_replicate,hl]))
  refine .of ?_;refine wpAny_call (call_pack ho f.parse hb (held f.parse (f.packs hv hu) hb h0 (by rw [List.size_toArray]; exact h1) (by rw [List.size_toArray]; exact hz) ?_));have U₁ : ∃ μ₁,UpdM μ a (.ba b) (.ba (putAt b.toArray off.toNat (Array.replicate f.n 0)).toList) μ₁ ∧ UpdM μ₁ a (.ba (putAt b.toArray off.toNat (Array.replicate f.n 0)).toList) (.ba (b.take off.toNat ++ f.enc v ++ b.drop (off.toNat + f.n))) μ' := by
    clear q h1 hz e2 e1 hb I hx hu
    revert U
    generalize hc1 : Ce.ba b = c1;generalize hc2 : Ce.ba (b.take off.toNat ++ f.enc v ++ b.drop (off.toNat + f.n)) = c2;intro U;induction U with
    | here => exact ⟨_,.here,.here⟩
    | there h ih => (apply gG;intro nG;obtain ⟨m,i1,i2⟩ := ih hc1 hc2 <;> refine nG ?_ <;> clear nG); exact ⟨_,.there i1,.there i2⟩
  apply gG;intro nG
  obtain ⟨μ₁,U1,U2⟩ := U₁;apply nG;clear nG;obtain ⟨I',e'⟩ := I.upd2 (k := s.toks) (f := Obj.mapBytearray fun b => putAt b off.toNat (Array.replicate f.n 0)) (g := Obj.mapBytearray fun b => putAt b off.toNat (f.enc v).toArray) U1 U2 hb (by rfl) rfl
    (fun h => by show (⟨_,_,.bytearray (putAt (putAt b.toArray _ _) _ _) 0,_⟩ : Obj) = _; rw [e2]) rfl
  exact ⟨F,.none,μ',ℓ,I',e',.none,q⟩
end
end
section
open PySem PySem.W PyProof.Rows PySem.Calls Builtin
theorem ba_mro : mroOf (.type "bytearray") = pure [.type "bytearray",.type "object"] := by rw [mroOf_type]; kernel_rfl
theorem ba_lookup_new : typeLookup (.type "bytearray") "__new__" = pure (some (.builtin "bytearray.__new__")) := by rw [typeLookup_type,builtinLookup_eq_fast]; kernel_rfl
theorem ba_slot_init : Slot "bytearray" "__init__" "bytearray.__init__" :=
  .of (owner := "bytearray") (n := "__init__") (by rw [typeLookup_type,builtinLookup_eq_fast]; kernel_rfl) (by decide +kernel) (by decide +kernel) (by decide +kernel)
    (by first | exact .inl (by decide +kernel) | exact .inr (by decide +kernel)) (by rw [isSubtype_type]; kernel_rfl)
theorem ba_called : TypeCalled "bytearray" "bytearray.__new__" "bytearray.__init__" :=
  ⟨by decide +kernel,by decide +kernel,⟨_,_,ba_mro⟩,madeBy_type ba_mro ba_lookup_new (by decide +kernel),by decide +kernel,by rw [isSubtype_type]; kernel_rfl,ba_slot_init⟩
theorem ba_typeCall (a : Value) : checkTypeCall "bytearray" ⟨[a],[]⟩ = pure () := by kernel_rfl
theorem ba_newCall (a : Value) : checkBuiltinCall "bytearray.__new__" ⟨[.type "bytearray",a],[]⟩ = pure () := by kernel_rfl
theorem ba_entry_new : entryFor table "bytearray.__new__" = some Builtin.«list.__new__» := entryFor_alias (id' := "list.__new__") (by rw [fastTable_eq_tree]; kernel_rfl) (by first | rfl | decide +kernel) (by decide +kernel) (by rw [fastTable_eq_tree]; kernel_rfl)
theorem ba_entry_init : entryFor table "bytearray.__init__" = some Builtin.«bytearray.__init__» := entryFor_of_tree (by kernel_rfl)
theorem ba_args_init (a b : Value) : argsOk "bytearray.__init__" ⟨[a,b],[]⟩ := by unfold argsOk; kernel_rfl
theorem ba_plain_new : plainId "bytearray.__new__" = true := by decide +kernel
set_option maxRecDepth 1000000 in
set_option maxHeartbeats 4000000 in
theorem ba_owner : ("bytearray.__new__".splitOn ".__new__").headD "" = "bytearray" := by simp +decide [String.splitOn,String.splitOnAux]
theorem ba_sub : isSubtype (.type "bytearray") (.type "bytearray") = pure true := by rw [isSubtype_type]; kernel_rfl
section
variable {prog : Program} {w : World} {A : Around} {E : Value → Shared → Prop} {s : Shared}
theorem ba_new (a : Value) {Q₁ : Value → Shared → Prop}
    (h : Q₁ (.ref s.heap.objs.size) { s with heap := s.heap.push { cls := .type "bytearray",data := .bytearray #[] } }) :
    codeAny (model prog w) A (.call (.builtin "bytearray.__new__") ⟨[.type "bytearray",a],[]⟩) (wants Q₁ E) s := by
  refine codeAny_of_tree ?_;show wpAny _ A.in1 (do checkBuiltinCall "bytearray.__new__" ⟨[.type "bytearray",a],[]⟩; again (.builtin "bytearray.__new__" ⟨[.type "bytearray",a],[]⟩)) _ _ s;refine wpAny_bind (wpAny_of_eq (ba_newCall a) (wpAny_pure ⟨plainId_quiet ba_plain_new _,codeAny_builtin_stack ba_entry_new rfl fun p st => ?_⟩));rw [Around.under_plainId ba_plain_new _];have hsub := ba_sub;have hown := ba_owner;apply gG;intro nG
  obtain ⟨hp,g,d,tk,os⟩ := s;apply nG;clear nG;dsimp only;rw [hown]
  wp_walk
  exact h
theorem ba_bind (v : Value) : Bytes.bindOptional "bytearray.__init__" "bytearray" ["source","encoding","errors"] [v] [] = pure [some v,none,none] := by kernel_rfl
theorem ba_release_lookup : typeLookup (.type "bytearray") "__release_buffer__" = pure (some (.builtin "bytearray.__release_buffer__")) := by rw [typeLookup_type,builtinLookup_eq_fast]; kernel_rfl
theorem ba_release_end : ("bytearray.__release_buffer__".endsWith ("." ++ "__release_buffer__")) = true := by decide +kernel
theorem ba_release_drop : ("bytearray.__release_buffer__".dropRight ("__release_buffer__".length + 1)) = "bytearray" := by decide +kernel
theorem ba_typeOf {M : Model} {h : Heap} {a : Addr} {d : Option Addr} {dt : Data} {sl : Array (Option Value)} (ho : h.get? a = some ⟨.type "bytearray",d,dt,sl⟩) : Looks M h (typeOf (.ref a)) (.type "bytearray") := (Looks.ld (part := none) ho).andThen .now
theorem ba_no_release {M : Model} {h : Heap} {a : Addr} {d : Option Addr} {dt : Data} {sl : Array (Option Value)} (ho : h.get? a = some ⟨.type "bytearray",d,dt,sl⟩) : Looks M h (Bytes.ownRelease (.ref a)) false := by
  have h1 : Looks M h (specialOf (.ref a) "__release_buffer__") (some (.builtin "bytearray.__release_buffer__")) := (ba_typeOf ho).andThen (Looks.of_pure ba_release_lookup);have h2 : Looks M h (Bytes.slotIsOwn (.ref a) "__release_buffer__") true := by
    unfold Bytes.slotIsOwn;refine h1.andThen ?_;dsimp only;rw [ba_release_end,ba_release_drop,if_neg (by decide)];exact (ba_typeOf ho).andThen (Looks.of_pure ba_sub)
  exact h2.andThen .now
end
end
section
open PySem PySem.W PyProof.Rows PySem.Calls Builtin
section
variable {prog : Program} {w : World} {A : Around} {E : Value → Shared → Prop} {s : Shared}
theorem ba_init {a : Addr} {x : Value} {b : Array UInt8} {Q : Unit → Shared → Prop} (hA : A.guards = some []) (ho : s.heap.get? a = some { cls := .type "bytearray",data := .bytearray #[] })
    (hb : (∃ (n : Int) (t : Tok),x = .int n t ∧ 0 ≤ n ∧ n ≤ 16777216 ∧ b = Array.replicate n.toNat 0) ∨ (∃ t,x = .bytes b t ∧ b.size ≤ 16777216))
    (h : ∀ h',h'.get? a = some { cls := .type "bytearray",data := .bytearray b } → Heap.SameBut a s.heap h' → Q () { s with heap := h' }) :
    wN (model prog w) A (Builtin.«bytearray.__init__» ⟨[.ref a,x],[]⟩) (fun fin s' => fin = .done (.ret .none) ∧ Q () s') E s := by
  apply gG;intro nG
  obtain ⟨hh,g,dr,tt,os⟩ := s;apply nG;clear nG;dsimp only at ho;have L0 := ba_no_release (M := model prog w) ho;unfold Builtin.«bytearray.__init__»;dsimp only;refine .bind (.of (L0.here ?_));rw [if_neg (by decide)];refine .bind (.of ?_);rw [ba_bind];refine wpAny_pure ?_;dsimp only;refine .bind (.pure ?_);refine .bind (.pure ?_);unfold orM;refine .bind (.bind (.exported hA ?_));refine .of ?_;show wpAny _ _ (Bytes.exportsOf (.ref a) >>= fun n => pure (decide (n > 0))) _ _ _;unfold Bytes.exportsOf;generalize hw : @Bytes.write = wr;repeat lk
  refine .of ?_;rw [if_neg (by decide)];rw [← hw];refine wpAny_bind (wr_ba ho (Nat.zero_le _) ?_);generalize hs1 : Heap.update _ a _ = h1;have hb' : h1.get? a = some ⟨.type "bytearray",none,.bytearray #[] 0,#[]⟩ := by rw [← hs1]; exact Heap.get?_update_self _ ho rfl
  have hsb : Heap.SameBut a hh h1 := by rw [← hs1]; exact .update ..
  have up : ∀ c : Array UInt8,(h1.update a (Obj.mapBytearray fun u_ => c)).get? a = some { cls := .type "bytearray",data := .bytearray c } ∧ Heap.SameBut a hh (h1.update a (Obj.mapBytearray fun u_ => c)) :=
    fun c => ⟨Heap.get?_update_self _ hb' rfl,hsb.trans (.update ..)⟩
  dsimp only
  (apply gG;intro nG; rcases hb with ⟨n,t,rfl,h0,hz,rfl⟩ | ⟨t,rfl,hz⟩ <;> refine nG ?_ <;> clear nG)
  · have L1 : Looks (model prog w) h1 (specialOf (.int n t) (Str.ofString "__index__")) (some (.builtin "int.__index__")) := Looks.of_pure (by kernel_rfl);repeat lk
    rw [if_neg (by simp [Bytes.fitsIndex]; exact q495 h0 hz),if_neg (by exact q478 h0),if_neg (by simp; exact q496 hz),if_neg (by simp [Bytes.tooLong,sizeLine_eq]; exact q497 hz)];repeat lk
    obtain ⟨u1,u2⟩ := up (Array.replicate n.toNat 0)
    by_cases hn : n > 0
    · rw [if_pos hn];refine wpAny_bind (wr_ba hb' (by rw [Array.size_replicate]; (exact q498 hz)) ?_);exact wpAny_pure ⟨rfl,h _ u1 u2⟩
    · rw [if_neg hn];have e : n.toNat = 0 := by exact q499 hn
      refine wpAny_pure ⟨rfl,h h1 (by rw [e]; exact hb') hsb⟩
  · have L1 : Looks (model prog w) h1 (specialOf (.bytes b t) (Str.ofString "__index__")) none := Looks.of_pure (by kernel_rfl);have L2 : Looks (model prog w) h1 (Bytes.buffer? "bytearray.__init__" (.bytes b t) true) (some b) := Looks.of_pure (by unfold Bytes.buffer?; kernel_rfl);generalize hw : @Bytes.write = wr;repeat lk
    rw [← hw];obtain ⟨u1,u2⟩ := up b;refine wr_ba hb' hz ?_;exact wpAny_pure ⟨rfl,h _ u1 u2⟩
theorem calm_of {id : String} {args : Args} (h : Builtin.Bytes.decodersThatHold.contains id = false) : calm (Code.builtin id args) = true := by show (!_) = true; rw [Bool.not_eq_true']; exact h
theorem cN.bi {R : Result → Shared → Prop} {id : String} {args : Args} {b : Builtin} (hb : entryFor table id = some b) (hc : calm (Code.builtin id args) = true)
    (h : wN (model prog w) (A.under (Code.builtin id args)) (b args)
      (fun fin s' => match fin with | .done f => R (.ok f) s' | .again c' => c'.quiet = true ∧ cN (model prog w) A c' R s') (fun e s' => R (.error e) s') s) :
    cN (model prog w) A (Code.builtin id args) R s := by
  refine cN.tree hc ?_;show wN _ _ (match entryFor table id with | some b => b args | none => unsupported ((withoutEnding? id "#data").getD id)) _ _ s;rw [hb]; exact h
theorem cN.callBuiltin {R : Result → Shared → Prop} {id : String} {args : Args} {b : Builtin} (hq : plainId id = true) (hb : entryFor table id = some b) (hc : calm (Code.builtin id args) = true)
    (h : wpAny (model prog w) A.in1 (checkBuiltinCall id args) (fun u_ s₁ => wN (model prog w) A.in1 (b args)
      (fun fin s' => match fin with | .done f => R (.ok f) s' | .again c' => c'.quiet = true ∧ cN (model prog w) A c' R s') (fun e s' => R (.error e) s') s₁)
      (fun e s' => R (.error e) s') s) : cN (model prog w) A (Code.call (Value.builtin id) args) R s := by
  refine cN.tree rfl ?_;show wN _ A.in1 (checkBuiltinCall id args >>= fun u_ => again (Code.builtin id args)) _ _ s;refine .bind (.of (wpAny_mono h (fun u_ s₁ h₁ => .pure ⟨plainId_quiet hq _,cN.bi hb hc ?_⟩) fun u_ u_ z => z));rw [Around.under_plainId hq args]; exact h₁
theorem wN.special {self : Value} {T : String} {name : Str} {id : String} {args : List Value} {kw : List (Str × Value)}
    {Q : Option Value → Shared → Prop} (hT : s.TypeIs self T) (h : Slot T name id)
    (hc : wN (model prog w) A (PySem.call (Value.builtin id) (self :: args) kw) (fun v => Q (some v)) E s) : wN (model prog w) A (callSpecial? self name args kw) Q E s := by
  unfold callSpecial?;refine .bind (.of (wpAny_specialOf hT h.lookup ?_));simp only [h.bind];exact .holding (.bind (.pure (.bind (wN.mono hc (fun v s' h' => .pure h') fun u_ u_ h' => h'))))
theorem sameBut_push {h h' : Heap} {o : Obj} (hs : Heap.SameBut h.objs.size (h.push o) h') : ∀ b x,h.get? b = some x → h'.get? b = some x :=
  fun b x e => hs.extBut b x (Nat.ne_of_lt (Heap.lt_size e)) (Heap.get?_push_of_some _ e)
theorem ba_make {x : Value} {b : Array UInt8} {Q : Value → Shared → Prop} (hA : A.guards = some [])
    (hb : (∃ (n : Int) (t : Tok),x = .int n t ∧ 0 ≤ n ∧ n ≤ 16777216 ∧ b = Array.replicate n.toNat 0) ∨ (∃ t,x = .bytes b t ∧ b.size ≤ 16777216))
    (h : ∀ h',h'.get? s.heap.objs.size = some { cls := .type "bytearray",data := .bytearray b } → Heap.SameBut s.heap.objs.size (s.heap.push { cls := .type "bytearray",data := .bytearray #[] }) h' → Q (.ref s.heap.objs.size) { s with heap := h' }) :
    wN (model prog w) A (call (.type "bytearray") [x]) Q E s := by
  apply gG;intro nG
  obtain ⟨c,tl,hmro⟩ := ba_called.mro;apply nG;clear nG;have hmade := ba_called.made;have hsub := ba_called.sub;refine .call (.tree rfl ?_);show wN _ _ (callAny (.type "bytearray") _) _ _ _;refine .pure ⟨Code.quiet_builtin _ (by decide +kernel),.bi F.entry_type_call (calm_of (by decide +kernel)) ?_⟩;rw [Around.under_plain (weight_type_call_type "bytearray" [x] []) rfl];unfold Builtin.«type.__call__»;have h1 := ba_called.notType;have h2 := ba_called.canCreate;dsimp only;rw [h1,if_neg (by decide),h2,if_neg (by decide),ba_typeCall];refine .bind (.pure ?_);rw [ba_mro];refine .bind (.pure ?_);rw [if_neg (by decide),hmade];refine .bind (.pure ?_);dsimp only;refine .bind (.pure ?_);refine .bind (.holding (.of (wpAny_call (ba_new x ?_))));have hT : ∀ h' : Heap,(∃ o,h'.get? s.heap.objs.size = some o ∧ o.cls = .type "bytearray") → ({ s with heap := h' } : Shared).TypeIs (.ref s.heap.objs.size) "bytearray" := fun h' ⟨o,h1,h2⟩ => ⟨o,h1,h2⟩
  have ho : (s.heap.push { cls := .type "bytearray",data := .bytearray #[] }).get? s.heap.objs.size = some { cls := .type "bytearray",data := .bytearray #[] } := Heap.get?_push_size _ rfl;refine .bind (.of (wpAny_isInstance (hT _ ⟨_,ho,rfl⟩) ba_sub ?_));rw [if_neg (by decide)];refine .bind (.holding (.special (hT _ ⟨_,ho,rfl⟩) ba_slot_init (.call (.callBuiltin ba_slot_init.plain ba_entry_init (calm_of (by decide +kernel))
    (ba_slot_init.check _ _ _ _ _ _ _ _ (hT _ ⟨_,ho,rfl⟩) (ba_args_init _ _) (wN.mono (ba_init (E := fun u_ u_ => False) (s := { s with heap := s.heap.push { cls := .type "bytearray",data := .bytearray #[] } }) (Q := fun u_ s' => Q (.ref s.heap.objs.size) s') hA ho hb fun h' e1 e2 => h h' e1 e2) (fun fin s' z => ?_) fun u_ u_ z => z.elim))))))
  obtain ⟨rfl,z⟩ := z;exact .pure z
end
end
section
open PySem PySem.W PyProof.Rows PySem.Calls Builtin
theorem ba_slot_get : Slot "bytearray" "__getitem__" "bytearray.__getitem__" :=
  .of (owner := "bytearray") (n := "__getitem__") (by rw [typeLookup_type,builtinLookup_eq_fast]; kernel_rfl) (by decide +kernel) (by decide +kernel) (by decide +kernel)
    (by first | exact .inl (by decide +kernel) | exact .inr (by decide +kernel)) (by rw [isSubtype_type]; kernel_rfl)
theorem ba_slot_set : Slot "bytearray" "__setitem__" "bytearray.__setitem__" :=
  .of (owner := "bytearray") (n := "__setitem__") (by rw [typeLookup_type,builtinLookup_eq_fast]; kernel_rfl) (by decide +kernel) (by decide +kernel) (by decide +kernel)
    (by first | exact .inl (by decide +kernel) | exact .inr (by decide +kernel)) (by rw [isSubtype_type]; kernel_rfl)
theorem ba_entry_get : entryFor table "bytearray.__getitem__" = some Builtin.«bytearray.__getitem__» := entryFor_of_tree (by kernel_rfl)
theorem ba_entry_set : entryFor table "bytearray.__setitem__" = some Builtin.«bytearray.__setitem__» := entryFor_of_tree (by kernel_rfl)
theorem ba_args_get (a b : Value) : argsOk "bytearray.__getitem__" ⟨[a,b],[]⟩ := by unfold argsOk; kernel_rfl
theorem ba_args_set (a b c : Value) : argsOk "bytearray.__setitem__" ⟨[a,b,c],[]⟩ := by unfold argsOk; kernel_rfl
section
variable {prog : Program} {w : World} {A : Around} {E : Value → Shared → Prop} {s : Shared}
theorem slc_type {M : Model} {h : Heap} {a : Addr} {d : Option Addr} {dt : Data} {sl : Array (Option Value)} (ho : h.get? a = some ⟨.type "slice",d,dt,sl⟩) : Looks M h (typeOf (.ref a)) (.type "slice") := (Looks.ld (part := none) ho).andThen .now
theorem slc_sub {M : Model} {h : Heap} {a : Addr} {d : Option Addr} {dt : Data} {sl : Array (Option Value)} (ho : h.get? a = some ⟨.type "slice",d,dt,sl⟩) : Looks M h (Bytes.subscript? (.ref a)) none := by
  have h1 : Looks M h (specialOf (.ref a) "__index__") none := (slc_type ho).andThen (Looks.of_pure slice_no_index);unfold Bytes.subscript?;exact h1.andThen .now
theorem int_index (i : Int) (t : Tok) {M : Model} {h : Heap} : Looks M h (specialOf (.int i t) (Str.ofString "__index__")) (some (.builtin "int.__index__")) := Looks.of_pure (by kernel_rfl)
theorem slc_parts {M : Model} {h : Heap} {a : Addr} {d : Option Addr} {l u : Value} {lo hi : Option Int} {sl : Array (Option Value)} (ho : h.get? a = some ⟨.type "slice",d,.fields #[l,u,.none],sl⟩) (hl : IsPart l lo) (hu : IsPart u hi) :
    Looks M h (Bytes.sliceParts (.ref a)) (rawPart lo,rawPart hi,rawPart none) := by
  intro A Q E s k q;have ho' := k _ _ ho;apply gG;intro nG
  obtain ⟨hh,g,dr,t,os⟩ := s;apply nG;clear nG;dsimp only at ho';have F0 := looks_field (M := M) ho' 0 (v := l) rfl;have F1 := looks_field (M := M) ho' 1 (v := u) rfl;have F2 := looks_field (M := M) ho' 2 (v := .none) rfl;unfold Bytes.sliceParts;cases hl with
  | none => cases hu with
    | none => repeat lk
              exact q
    | int j tj => have I := int_index j tj (M := M) (h := hh)
                  repeat lk
                  exact q
  | int i ti =>
    have I' := int_index i ti (M := M) (h := hh);cases hu with
    | none => repeat lk
              exact q
    | int j tj => have I := int_index j tj (M := M) (h := hh)
                  repeat lk
                  exact q
noncomputable def cutL (l : List UInt8) (lo hi : Option Int) : List UInt8 := (l.drop (lo.elim 0 (clipAt l.length))).take (hi.elim l.length (clipAt l.length) - lo.elim 0 (clipAt l.length))
theorem sliced_cut (b : List UInt8) (lo hi : Option Int) : Bytes.sliced b.toArray (lo.elim 0 (clipAt b.length) : Nat) (hi.elim b.length (clipAt b.length) : Nat) 1 = (cutL b lo hi).toArray := by
  unfold Bytes.sliced cutL;rw [sliceRange_one,pick_run]
theorem ba_getSlice {a p : Addr} {b : List UInt8} {d d' : Option Addr} {l u : Value} {lo hi : Option Int} {sl sl' : Array (Option Value)} {Q : Value → Shared → Prop} (ha : s.heap.get? a = some ⟨.type "bytearray",d,.bytearray b.toArray 0,sl⟩)
    (hp : s.heap.get? p = some ⟨.type "slice",d',.fields #[l,u,.none],sl'⟩) (hl : IsPart l lo) (hu : IsPart u hi) (hz : b.length ≤ 16777216)
    (h : Q (.ref s.heap.objs.size) { s with heap := s.heap.push { cls := .type "bytearray",data := .bytearray (cutL b lo hi).toArray } }) : wpAny (model prog w) A (getItem (.ref a) (.ref p)) Q E s := by
  have hT : s.TypeIs (.ref a) "bytearray" := ⟨_,ha,rfl⟩
  refine wpAny_getItem_slot hT (by decide) ba_slot_get (wpAny_call_entry ba_slot_get hT ba_entry_get ?_ (ba_args_get _ _));apply gG;intro nG
  obtain ⟨hh,g,dr,t,os⟩ := s;apply nG;clear nG;dsimp only at ha hp;have L0 := slc_sub (M := model prog w) hp;have L1 := slc_type (M := model prog w) hp;have L2 := slc_parts (M := model prog w) hp hl hu;have L3 : Looks (model prog w) hh (sliceIndices (rawPart lo) (rawPart hi) (rawPart none) b.toArray.size) (sliceBounds lo hi none b.length) := Looks.of_pure (by rw [List.size_toArray]; exact sliceIndices_raw lo hi none b.length (fun e => nomatch e));unfold Builtin.«bytearray.__getitem__» Bytes.payload Bytes.payload?;generalize hnb : Bytes.newBytearray = nb;generalize hP1 : rawPart lo = P1 at *;generalize hP2 : rawPart hi = P2 at *;generalize hP3 : rawPart none = P3 at *;repeat lk
  rw [sliceBounds_plain,sliced_cut,← hnb];unfold Bytes.newBytearray;refine wpAny_newObj_type (wpAny_pure ⟨_,rfl,h⟩) ?_;show (cutL b lo hi).toArray.size ≤ sizeLine;rw [List.size_toArray,sizeLine_eq];unfold cutL;rw [List.length_take,List.length_drop]; exact q500 hz
theorem ba_payload {M : Model} {h : Heap} {e : Addr} {c : Array UInt8} {d : Option Addr} {sl : Array (Option Value)} (ho : h.get? e = some ⟨.type "bytearray",d,.bytearray c 0,sl⟩) : Looks M h (Bytes.payload (.ref e)) c := by
  unfold Bytes.payload Bytes.payload?;exact ((Looks.ld (part := none) ho).andThen .now).andThen .now
theorem ba_setSlice {a p : Addr} {b c : List UInt8} {d' : Option Addr} {l u v : Value} {lo hi : Option Int} {sl' : Array (Option Value)} {Q : Unit → Shared → Prop} {L H : Nat} (hA : A.guards = some []) (ha : s.heap.get? a = some ⟨.type "bytearray",none,.bytearray b.toArray 0,#[]⟩)
    (hp : s.heap.get? p = some ⟨.type "slice",d',.fields #[l,u,.none],sl'⟩) (hl : IsPart l lo) (hu : IsPart u hi) (hz : b.length ≤ 16777216)
    (hv : (∃ t,v = .bytes c.toArray t) ∨ (∃ e,v = .ref e ∧ e ≠ a ∧ s.heap.get? e = some ⟨.type "bytearray",none,.bytearray c.toArray 0,#[]⟩))
    (hL : lo.elim 0 (clipAt b.length) = L) (hH : hi.elim b.length (clipAt b.length) = H) (h1 : L ≤ H) (h2 : H ≤ b.length) (h3 : c.length = H - L)
    (h : ∀ h',h'.get? a = some ⟨.type "bytearray",none,.bytearray (b.take L ++ c ++ b.drop H).toArray 0,#[]⟩ →
      (∀ e o,e ≠ a → s.heap.get? e = some o → h'.get? e = some o) → Q () { s with heap := h' }) : wN (model prog w) A (setItem (.ref a) (.ref p) v) Q E s := by
  have hT : s.TypeIs (.ref a) "bytearray" := ⟨_,ha,rfl⟩
  unfold setItem;refine .holding (.bind (.of (wpAny_sequenceKey hT (by decide) ?_)));refine .bind (.special hT ba_slot_set (.call (.callBuiltin ba_slot_set.plain ba_entry_set (calm_of (by decide +kernel))
    (ba_slot_set.check _ _ _ _ _ _ _ _ hT (ba_args_set _ _ _) ?_))))
  apply gG;intro nG
  obtain ⟨hh,g,dr,t,os⟩ := s;apply nG;clear nG;dsimp only at ha hp;have L0 := slc_sub (M := model prog w) hp;have L1 := slc_type (M := model prog w) hp;have L2 := slc_parts (M := model prog w) hp hl hu;have L3 : ∀ h',Looks (model prog w) h' (sliceIndices (rawPart lo) (rawPart hi) (rawPart none) b.toArray.size) ((L : Int),(H : Int),(1 : Int)) := fun h' => Looks.of_pure (by rw [List.size_toArray,sliceIndices_raw lo hi none b.length (fun e => nomatch e),sliceBounds_plain,hL,hH])
  generalize hP1 : rawPart lo = P1 at *;generalize hP2 : rawPart hi = P2 at *;generalize hP3 : rawPart none = P3 at *;unfold Builtin.«bytearray.__setitem__»;refine .bind (.of (L0.here ?_));refine .bind (.of (L1.here ?_));have hmax : max (L : Int) (H : Int) = (H : Int) := Int.max_eq_right (Int.ofNat_le.mpr h1);have hlen : ((c.toArray.size : Int) != max (L : Int) (H : Int) - (L : Int)) = false := by
    rw [List.size_toArray,h3,hmax,Int.ofNat_sub h1]; exact bne_self_eq_false _
  have e0 : b.toArray.extract 0 ((L : Int)).toNat ++ c.toArray ++ b.toArray.extract (max (L : Int) H).toNat b.toArray.size = (b.take L ++ c ++ b.drop H).toArray := by
    rw [hmax,Int.toNat_natCast,Int.toNat_natCast];apply Array.toList_inj.mp
    simp
    exact List.take_of_length_le (by rw [List.length_drop]; exact Nat.le_refl _)
  have hsz : (b.take L ++ c ++ b.drop H).length ≤ 16777216 := by
    rw [List.length_append,List.length_append,List.length_take,List.length_drop]; (exact q501 hz h2 h3 hmax)
  have fin : ∀ (h' : Heap),h'.get? a = some ⟨.type "bytearray",none,.bytearray b.toArray 0,#[]⟩ → (∀ e o,e ≠ a → hh.get? e = some o → h'.get? e = some o) →
      wpAny (model prog w) A.in1 (Bytes.write (.ref a) (fun b => b.extract 0 ((L : Int)).toNat ++ c.toArray ++ b.extract (max (L : Int) H).toNat b.size)) (fun u_ s' => Q () s') (fun u_ u_ => False) { heap := h',gens := g,drawn := dr,toks := t,os := os } := by
    intro h' ha' hk;refine wr_ba ha' (by show Array.size (_ ++ _ ++ _) ≤ _; rw [e0,List.size_toArray]; exact hsz) (h _ ?_ fun e o ne eo => (Heap.get?_update_other _ _ (Ne.symm ne)).trans (hk e o ne eo));rw [Heap.get?_update_self _ ha' rfl];show some (Obj.mk _ _ (.bytearray (b.toArray.extract 0 ((L : Int)).toNat ++ c.toArray ++ b.toArray.extract (max (L : Int) H).toNat b.toArray.size) 0) _) = _;rw [e0]
  (apply gG;intro nG; rcases hv with ⟨tv,rfl⟩ | ⟨e,rfl,he,hoe⟩ <;> refine nG ?_ <;> clear nG)
  · refine .bind (.of (L2.here ?_));have L4 : Bytes.sameRef (.ref a) (.bytes c.toArray tv) = false := rfl;have L5 : isInstance (.bytes c.toArray tv) (.type "bytearray") = pure false := by kernel_rfl
    dsimp only;rw [L4,L5,if_neg (by decide)];refine .bind (.pure ?_);rw [if_pos (by decide)];refine .bind (.of (wpAny_of_eq (a := false) (by kernel_rfl) ?_));have L6 : asStr? (.bytes c.toArray tv) = pure none := by kernel_rfl
    rw [L6];refine .bind (.pure ?_);rw [if_neg (by decide)];refine .bind (.of (wpAny_rule ?_));refine .bind (ba_make hA (.inr ⟨tv,rfl,by rw [List.size_toArray]; exact q502 hz h2 h3⟩) fun h' e1 e2 => ?_);have kp := sameBut_push e2;have L2' := slc_parts (M := model prog w) (kp _ _ hp) hl hu;rw [hP1,hP2,hP3] at L2';have L8 : Looks (model prog w) h' (Bytes.payload (.ref hh.objs.size)) c.toArray := ba_payload e1;have L7 : Looks (model prog w) h' (Bytes.payload (.ref a)) b.toArray := ba_payload (kp _ _ ha);have L9 := L3 h';have fin' := fin h' (kp _ _ ha) (fun e o u_ eo => kp e o eo);generalize hw : @Bytes.write = wr at fin' ⊢;refine .of ?_;dsimp only;repeat (first | rw [hlen] | lk)
    exact (wpAny_mono fin' (fun u_ s' q => wpAny_pure (wN.pure q)) fun u_ u_ z => z.elim)
  · refine .of ?_;dsimp only at hoe;have L4 : Bytes.sameRef (.ref a) (.ref e) = false := by show (a == e) = false; exact beq_eq_false_iff_ne.mpr (Ne.symm he)
    have L5 : Looks (model prog w) hh (isInstance (.ref e) (.type "bytearray")) true := (ba_typeOf hoe).andThen (Looks.of_pure ba_sub);have L6 : Looks (model prog w) hh (Bytes.payload (.ref e)) c.toArray := ba_payload hoe;have L7 : Looks (model prog w) hh (Bytes.payload (.ref a)) b.toArray := ba_payload ha;have L8 := L3 hh;have fin' := fin hh ha (fun u_ u_ u_ e => e);generalize hw : @Bytes.write = wr at fin' ⊢;repeat (first | rw [L4] | rw [hlen] | lk)
    exact (wpAny_mono fin' (fun u_ s' q => wpAny_pure (wN.pure q)) fun u_ u_ z => z.elim)
end
end
section
open PySem PySem.W PyProof.Rows PySem.Calls Builtin
section
variable {W : Wd} {Φ : Fx} {ns : List Str} {gs : List (Str × Value)} {μ μ' μ₁ ν : Mu} {ℓ ℓ' : Loc} {F F' : Addr → Prop} {s s' : Shared} {α β : Type} {R : Heap → (Addr → Prop) → β → α → Prop}
theorem In.fresh {o : Obj} {c : Ce} {k : Nat} {a : Addr} {h' : Heap} (I : In W Φ ns F μ ℓ s) (fr : s.heap.get? a = none) (nw : h'.get? a = some o) (e : ∀ b x,s.heap.get? b = some x → h'.get? b = some x) (hc : CIs s.heap F c o) :
    In W Φ ns F ((a,c) :: μ) ℓ { s with heap := h',toks := k } ∧ Ext F s.heap F h' := by
  have ex : Ext F s.heap F h' := ⟨fun u_ z => z,fun a x u_ q => e a x q⟩
  have nm : a ∉ addrs μ := fun h => by obtain ⟨x,hx⟩ := I.st.mu_alive h; rw [fr] at hx; cases hx
  apply gG;intro nG
  obtain ⟨m,hm,hl⟩ := I.loc;apply nG;clear nG;refine ⟨⟨⟨I.st.gens,I.st.os,fun b x q => e b x (I.st.base b x q),fun p hp => ?_,List.nodup_cons.mpr ⟨nm,I.st.nodup⟩,fun b fa => ?_,I.st.frozBase⟩,⟨m,hm.keeps e,hl.ext ex⟩,?_,I.nfroz,⟨fun b x q n => e b x (I.grow.keep b x q n),I.grow.mono,I.grow.froz,fun b ha => ?_⟩⟩,ex⟩
  · rcases List.mem_cons.mp hp with rfl | hp
    · exact ⟨o,nw,hc.ext ex⟩
    · apply gG;intro nG
      obtain ⟨x,hx,hc⟩ := I.st.mu p hp;apply nG;clear nG;exact ⟨x,e _ _ hx,hc.ext ex⟩
  · apply gG;intro nG
    obtain ⟨⟨x,hx⟩,na⟩ := I.st.froz b fa;apply nG;clear nG;refine ⟨⟨x,e _ _ hx⟩,fun h => ?_⟩;rcases List.mem_cons.mp h with rfl | h
    · rw [fr] at hx; cases hx
    · exact na h
  · intro h;rcases List.mem_cons.mp h with h | h
    · obtain ⟨x,hx⟩ := I.lalive;have h' : Φ.env.locals = a := h;rw [h',fr] at hx; cases hx
    · exact I.apart h
  · rcases List.mem_cons.mp ha with rfl | ha
    · exact I.grow.fresh fr
    · exact I.grow.new b ha
theorem In.turned {a : Addr} {c c' : Ce} {o' : Obj} {k : Nat} {h' : Heap} (I : In W Φ ns F μ ℓ s) (U : UpdM μ a c c' μ') (nw : h'.get? a = some o') (e : ∀ b x,b ≠ a → s.heap.get? b = some x → h'.get? b = some x) (hc : CIs h' F c' o') :
    In W Φ ns F μ' ℓ { s with heap := h',toks := k } ∧ Ext F s.heap F h' := by
  have na : a ∈ addrs μ := List.mem_map_of_mem (f := Prod.fst) U.mem;have nF : ∀ b,F b → b ≠ a := fun b fb e => (I.st.froz b fb).2 (e ▸ na)
  have ex : Ext F s.heap F h' := ⟨fun u_ z => z,fun b x fb q => e b x (nF b fb) q⟩
  have nL : Φ.env.locals ≠ a := fun e => I.apart (e ▸ na)
  apply gG;intro nG
  obtain ⟨m,⟨x,es,ep,hx,r⟩,hl⟩ := I.loc;apply nG;clear nG;refine ⟨⟨⟨I.st.gens,I.st.os,fun b x q => e b x (nF b (I.st.frozBase b x q)) (I.st.base b x q),fun p hp => ?_,U.adr ▸ I.st.nodup,fun b fb => ?_,I.st.frozBase⟩,⟨m,⟨x,es,ep,e _ _ nL hx,r⟩,hl.ext ex⟩,U.adr ▸ I.apart,I.nfroz,⟨fun b y q nb => ?_,I.grow.mono,I.grow.froz,fun b hb => I.grow.new b (U.adr ▸ hb)⟩⟩,ex⟩
  · rcases U.back I.st.nodup p hp with rfl | ⟨hp,ne⟩
    · exact ⟨o',nw,hc⟩
    · apply gG;intro nG
      obtain ⟨x,hx,hcx⟩ := I.st.mu p hp;apply nG;clear nG;exact ⟨x,e _ _ ne hx,hcx.ext ex⟩
  · apply gG;intro nG
    obtain ⟨⟨x,hx⟩,nb⟩ := I.st.froz b fb;apply nG;clear nG;exact ⟨⟨x,e _ _ (nF b fb) hx⟩,U.adr ▸ nb⟩
  · refine e b y (fun e' => ?_) (I.grow.keep b y q nb);rcases I.grow.new b (e' ▸ na) with z | z
    · exact nb z
    · rw [q] at z; cases z
theorem In.less (I : In W Φ ns F μ ℓ s) (h : μ'.Sublist μ) : In W Φ ns F μ' ℓ s := by
  have hs : (addrs μ').Sublist (addrs μ) := h.map _;exact ⟨⟨I.st.gens,I.st.os,I.st.base,fun p hp => I.st.mu p (h.subset hp),I.st.nodup.sublist hs,fun a fa => ⟨(I.st.froz a fa).1,fun z => (I.st.froz a fa).2 (hs.subset z)⟩,I.st.frozBase⟩,I.loc,fun z => I.apart (hs.subset z),I.nfroz,
    ⟨I.grow.keep,I.grow.mono,I.grow.froz,fun a ha => I.grow.new a (hs.subset ha)⟩⟩
theorem x_less {t : Sem α} {Q : β → Mu → Loc → Prop} (h : μ'.Sublist μ) (k : X W R Φ ns gs μ' ℓ t Q) : X W R Φ ns gs μ ℓ t Q := fun s F G O I => k s F G O (I.less h)
theorem x_perm {t : Sem α} {Q : β → Mu → Loc → Prop} (h : μ'.Perm μ) (k : X W R Φ ns gs μ' ℓ t Q) : X W R Φ ns gs μ ℓ t Q := fun s F G O I => k s F G O (I.perm h)
theorem In.freeze {a : Addr} {c : Ce} (I : In W Φ ns F ((a,c) :: μ) ℓ s) : In W Φ ns (Frz F a) μ ℓ s ∧ Ext F s.heap (Frz F a) s.heap := by
  have nd := List.nodup_cons.mp I.st.nodup;have ex : Ext F s.heap (Frz F a) s.heap := ⟨fun u_ z => .inl z,fun u_ u_ u_ z => z⟩
  apply gG;intro nG
  obtain ⟨m,hm,hl⟩ := I.loc;apply nG;clear nG;refine ⟨⟨⟨I.st.gens,I.st.os,I.st.base,fun p hp => ?_,nd.2,fun b fb => ?_,fun b o q => .inl (I.st.frozBase b o q)⟩,⟨m,hm,hl.ext ex⟩,fun z => I.apart (.tail _ z),fun z => ?_,⟨I.grow.keep,fun b z => .inl (I.grow.mono b z),fun b z => ?_,fun b z => I.grow.new b (.tail _ z)⟩⟩,ex⟩
  · apply gG;intro nG
    obtain ⟨o,ho,hc⟩ := I.st.mu p (.tail _ hp);apply nG;clear nG;exact ⟨o,ho,hc.ext ex⟩
  · rcases fb with fb | rfl
    · exact ⟨(I.st.froz b fb).1,fun z => (I.st.froz b fb).2 (.tail _ z)⟩
    · exact ⟨by (apply gG;intro nG;obtain ⟨o,ho,_⟩ := I.st.mu _ (.head _) <;> refine nG ?_ <;> clear nG); exact ⟨o,ho⟩,nd.1⟩
  · rcases z with z | z
    · exact I.nfroz z
    · exact I.apart (z ▸ .head _)
  · rcases z with z | rfl
    · exact I.grow.froz b z
    · exact .inr (I.grow.new b (.head _))
theorem l_ba_n {n : Int} {Q : V → Mu → Loc → Prop} (h0 : 0 ≤ n) (h1 : n ≤ 16777216) (q : ∀ a,Q (.val (.ref a)) ((a,.ba (List.replicate n.toNat 0)) :: μ) ℓ) : XL W RV Φ ns gs μ ℓ [.int n] (fun xs => call (.type "bytearray") xs) Q := by
  intro s F xs G O I hx;apply gG;intro nG
  obtain ⟨x,rfl,ha⟩ := isL1 hx;obtain ⟨_,rfl⟩ := ha.inv;apply nG;clear nG;refine ba_make O.room.guards (.inl ⟨_,_,rfl,h0,h1,rfl⟩) fun h' e1 e2 => ?_
  obtain ⟨I',ex⟩ := I.fresh (c := .ba (List.replicate n.toNat 0)) (k := s.toks) (get_fresh _) e1 (sameBut_push e2) (by show _ = _; simp);exact ⟨F,_,_,ℓ,I',ex,.val,q _⟩
theorem x_Slice {lo hi : Option Expr} {pos : Pos} {Q : V → Mu → Loc → Prop} (h : X W RV Φ ns gs μ ℓ (valueOrNone (evalOpt lo Φ.env)) fun l μ ℓ => X W RV Φ ns gs μ ℓ (valueOrNone (evalOpt hi Φ.env)) fun u => Q (.slc l u)) :
    X W RV Φ ns gs μ ℓ (eval (.Slice lo hi none pos) Φ.env) Q := by
  intro s F G O I;show wN _ _ (valueOrNone (evalOpt lo Φ.env) >>= fun l => holding [l] (valueOrNone (evalOpt hi Φ.env)) >>= fun u => holding [l,u] (valueOrNone (evalOpt none Φ.env)) >>= fun st => newFields "slice" [l,u,st]) _ _ _;refine .bind (stepQ (h s F G O I) fun s₁ F₁ x μ₁ ℓ₁ a i₁ e₁ hx q₁ => .bind (.holding ?_));refine stepQ (q₁ s₁ F₁ G O i₁) fun s₂ F₂ y μ₂ ℓ₂ b i₂ e₂ hy q₂ => .bind (.holding ?_)
  refine .pure ?_;have r : Is (s₂.heap.push { cls := .type "slice",data := .fields [x,y,.none].toArray }) (Frz F₂ s₂.heap.objs.size) (.slc a b) (.ref s₂.heap.objs.size) := by
    have ex : Ext F₂ s₂.heap (Frz F₂ s₂.heap.objs.size) (s₂.heap.push { cls := .type "slice",data := .fields [x,y,.none].toArray }) := ⟨fun u_ z => .inl z,fun a x u_ q => Heap.get?_push_of_some _ q⟩
    exact .slc (.inr rfl) (Heap.get?_push_size _ rfl) ((hx.ext e₂).ext ex) (hy.ext ex)
  refine .of (wpAny_mono (Q := Res W RV Φ ns F₂ s₂.heap Q) (E := fun u_ u_ => False) ?_ (fun u_ u_ z => z.ext (e₁.trans e₂)) fun u_ u_ z => z);unfold newFields;exact wpAny_newObj_type (res_born (k := s₂.toks) i₂ rfl r q₂)
theorem x_part_none {Q : V → Mu → Loc → Prop} (q : Q .none μ ℓ) : X W RV Φ ns gs μ ℓ (valueOrNone (evalOpt none Φ.env)) Q := fun s F G O I => .pure (res_here I .none q)
theorem x_part_some {e : Expr} {Q : V → Mu → Loc → Prop} (h : X W RV Φ ns gs μ ℓ (eval e Φ.env) Q) : X W RV Φ ns gs μ ℓ (valueOrNone (evalOpt (some e) Φ.env)) Q := h
inductive SubOk (μ : Mu) : V → Prop
  | tup {l : List V} : SubOk μ (.tup l)
  | lst {l : List V} : SubOk μ (.lst l)
  | bytes {b : List UInt8} : SubOk μ (.bytes b)
  | ba {a : Addr} {b : List UInt8} (h : (a,Ce.ba b) ∈ μ) : SubOk μ (.val (.ref a))
  | list {a : Addr} {b : List V} (h : (a,Ce.list b) ∈ μ) : SubOk μ (.val (.ref a))
  | dict {a : Addr} {b : List (List Int × V)} (h : (a,Ce.dict b) ∈ μ) : SubOk μ (.val (.ref a))
  | rlist {a : Addr} {b : List V} (h : (a,Ce.rlist b) ∈ μ) : SubOk μ (.val (.ref a))
  | dictX {a : Addr} {o : Obj} {b : List (List Int × V)} (h : (a,Ce.dictX o b) ∈ μ) : SubOk μ (.val (.ref a))
theorem tup_getitem_lookup : typeLookup (.type "tuple") "__getitem__" = pure (some (.builtin "tuple.__getitem__")) := by rw [typeLookup_type,builtinLookup_eq_fast]; kernel_rfl
theorem SubOk.type {o : V} {x : Value} (h : SubOk μ o) (I : In W Φ ns F μ ℓ s) (hx : Is s.heap F o x) : ∃ T id,s.TypeIs x T ∧ typeLookup (.type T) "__getitem__" = pure (some (.builtin id)) := by
  cases h with
  | tup => cases hx with | tup hF ho hc hd hl => exact ⟨"tuple",_,⟨_,ho,hc⟩,tup_getitem_lookup⟩
  | lst => cases hx with | lst hF ho hc hd hl => exact ⟨"list",_,⟨_,ho,hc⟩,list_getitem_lookup⟩
  | bytes => cases hx; exact ⟨"bytes",_,typeIs_bytes _ _ _,FB.slot_bytes_getitem.lookup⟩
  | ba h => cases hx; (apply gG;intro nG;obtain ⟨o,ho,hc⟩ := I.cell h <;> refine nG ?_ <;> clear nG); cases hc; exact ⟨"bytearray",_,⟨_,ho,rfl⟩,ba_slot_get.lookup⟩
  | list h => obtain ⟨_,rfl⟩ := hx.inv; (apply gG;intro nG;obtain ⟨o,ho,hc⟩ := I.cell h <;> refine nG ?_ <;> clear nG); (apply gG;intro nG;obtain ⟨vs,n,rfl,_⟩ := hc <;> refine nG ?_ <;> clear nG); exact ⟨"list",_,⟨_,ho,rfl⟩,list_getitem_lookup⟩
  | dict h => obtain ⟨_,rfl⟩ := hx.inv; (apply gG;intro nG;obtain ⟨o,ho,hc⟩ := I.cell h <;> refine nG ?_ <;> clear nG); (apply gG;intro nG;obtain ⟨vs,n,rfl,_⟩ := hc <;> refine nG ?_ <;> clear nG); exact ⟨"dict",_,⟨_,ho,rfl⟩,slot_dict_getitem.lookup⟩
  | rlist h => obtain ⟨_,rfl⟩ := hx.inv; (apply gG;intro nG;obtain ⟨o,ho,hc⟩ := I.cell h <;> refine nG ?_ <;> clear nG); exact ⟨"list",_,⟨_,ho,hc.1⟩,list_getitem_lookup⟩
  | dictX h => obtain ⟨_,rfl⟩ := hx.inv; (apply gG;intro nG;obtain ⟨o,ho,hc⟩ := I.cell h <;> refine nG ?_ <;> clear nG); (apply gG;intro nG;obtain ⟨_,vs,n,rfl,_⟩ := hc <;> refine nG ?_ <;> clear nG); exact ⟨"dict",_,⟨_,ho,rfl⟩,slot_dict_getitem.lookup⟩
theorem x_sub {value slice : Expr} {pos : Pos} {Q : V → Mu → Loc → Prop}
    (h : X W RV Φ ns gs μ ℓ (eval value Φ.env) fun o μ ℓ => X W RV Φ ns gs μ ℓ (eval slice Φ.env) fun i μ ℓ => SubOk μ o ∧ X2 W RV Φ ns gs μ ℓ o i getItem Q)
    (hs : (∀ x y,subscripted slice false x y = operate [x,y] (getItem x y)) ∨ (∀ x y,subscripted slice false x y = operate [y,x] (getItem x y)) := by first | exact .inl fun u_ u_ => rfl | exact .inr fun u_ u_ => rfl) :
    X W RV Φ ns gs μ ℓ (eval (.Subscript value slice pos) Φ.env) Q := by
  intro s F G O I;rw [eval_Subscript];refine .bind (stepQ (h s F G O I) fun s₁ F₁ x μ₁ ℓ₁ a i₁ e₁ hx q₁ => .bind (.holding ?_));refine stepQ (q₁ s₁ F₁ G O i₁) fun s₂ F₂ y μ₂ ℓ₂ b i₂ e₂ hy q₂ => .stand ?_
  apply gG;intro nG
  obtain ⟨ok,q₂⟩ := q₂;obtain ⟨T,id,hT,hl⟩ := ok.type i₂ (hx.ext e₂);apply nG;clear nG;rw [getitemInPython_of_ne hT.not_modules];have fin : wN W.M Φ.A (subscripted slice false x y) (fun r s₃ => wN W.M Φ.A (letTemporaryGo value x r >>= fun u_ => pure r) (Res W RV Φ ns F s.heap Q) (fun u_ u_ => False) s₃) (fun u_ u_ => False) s₂ := by
    have g : wN W.M Φ.A (getItem x y) (fun r s₃ => wN W.M Φ.A (letTemporaryGo value x r >>= fun u_ => pure r) (Res W RV Φ ns F s.heap Q) (fun u_ u_ => False) s₃) (fun u_ u_ => False) s₂ :=
      stepQ (q₂ s₂ F₂ x y G O i₂ (hx.ext e₂) hy) fun s₃ F₃ z μ₃ ℓ₃ v i₃ e₃ hz q₃ => .bind (.of (wpAny_letTemporaryGo (.pure ⟨F₃,v,μ₃,ℓ₃,i₃,(e₁.trans e₂).trans e₃,hz,q₃⟩)))
    rcases hs with hs | hs <;> rw [hs] <;> exact .operate g
  refine .bind (.of (wpAny_bind (wpAny_specialOf hT hl (wpAny_pure ?_))));exact .bind fin
end
end
section
open PySem PySem.W PyProof.Rows PySem.Calls Builtin
inductive PartV : V → Option Int → Prop
  | none : PartV .none none
  | int {i : Int} : PartV (.int i) (some i)
theorem PartV.is {h : Heap} {F : Addr → Prop} {v : V} {o : Option Int} {x : Value} (p : PartV v o) (hx : Is h F v x) : IsPart x o := by
  cases p with
  | none => obtain ⟨_,rfl⟩ := hx.inv; exact .none
  | int => obtain ⟨_,rfl⟩ := hx.inv; exact .int _ _
theorem assign_sub_eq (o i : Expr) (pos : Pos) (env : Env) (v : Value) : assign (.Subscript o i pos) env v = (do let ov ← holding [v] (eval o env); let iv ← holding [v,ov] (eval i env); standAt pos; holding [v,ov,iv] (setItem ov iv v); release (match i with | .Slice _ _ none _ => [iv,v,ov] | _ => [v,ov,iv]) []) := rfl
section
variable {W : Wd} {Φ : Fx} {ns : List Str} {gs : List (Str × Value)} {μ μ' μ₁ ν : Mu} {ℓ ℓ' : Loc} {F F' : Addr → Prop} {s s' : Shared} {α β : Type} {R : Heap → (Addr → Prop) → β → α → Prop}
theorem picked_cut (b : List UInt8) (lo hi : Option Int) : KBy.picked b.toArray lo hi = (cutL b lo hi).toArray := by
  rw [KBc.picked_eq];simp [cutL]
theorem s_bytes {b : List UInt8} {l u : V} {lo hi : Option Int} {Q : V → Mu → Loc → Prop} (hl : PartV l lo) (hu : PartV u hi) (hz : b.length ≤ 16777216) (q : Q (.bytes (cutL b lo hi)) μ ℓ) : X2 W RV Φ ns gs μ ℓ (.bytes b) (.slc l u) getItem Q := by
  intro s F x y G O I hx hy;obtain ⟨_,rfl⟩ := hx.inv; cases hy with
  | slc hF ho hl' hu' =>
    refine .of (getItem_meets (typeIs_bytes _ _ _) (by decide) FB.slot_bytes_getitem FB.entry_bytes_getitem (FB.args_bytes_getitem_2 _ _) (KBc.meets_slice2 _ _ _ (hl.is hl') (hu.is hu')) ?_);refine ⟨⟨_,ho,rfl,rfl⟩,Nat.le_trans (KBc.size_picked_le _ _ _) (by rw [List.size_toArray,sizeLine_eq]; exact hz),fun t' k => ?_⟩;rw [picked_cut];exact res_tok I .bytes q
theorem l_len_bytes {b : List UInt8} {Q : V → Mu → Loc → Prop} (hz : b.length ≤ 16777216) (q : Q (.int b.length) μ ℓ) : XL W RV Φ ns gs μ ℓ [.bytes b] (fun xs => call (.builtin "len") xs) Q := by
  intro s F xs G O I hx;apply gG;intro nG
  obtain ⟨x,rfl,ha⟩ := isL1 hx;obtain ⟨_,rfl⟩ := ha.inv;apply nG;clear nG;refine .of (len_bytes (by rw [List.size_toArray]; (exact Nat.le_trans (by assumption) (by decide))) ?_);rw [List.size_toArray];exact res_tok I .int q
theorem l_len_ba {a : Addr} {b : List UInt8} {Q : V → Mu → Loc → Prop} (h2 : (a,Ce.ba b) ∈ μ) (hz : b.length ≤ 16777216) (q : Q (.int b.length) μ ℓ) : XL W RV Φ ns gs μ ℓ [.val (.ref a)] (fun xs => call (.builtin "len") xs) Q := by
  intro s F xs G O I hx;apply gG;intro nG
  obtain ⟨x,rfl,ha⟩ := isL1 hx;apply nG;clear nG;cases ha;apply gG;intro nG
  obtain ⟨o,ho,hc⟩ := I.cell h2;apply nG;clear nG;cases hc;refine .of (call_len_ba ho (by rw [List.size_toArray]; exact hz) fun t k => ?_);rw [List.size_toArray];exact res_tok I .int q
theorem c_eq_bytes {b c : List UInt8} {Q : V → Mu → Loc → Prop} (q : Q (.bool (b == c)) μ ℓ) : X2 W RV Φ ns gs μ ℓ (.bytes b) (.bytes c) (compareOp .Eq) Q := by
  intro s F x y G O I hx hy; obtain ⟨_,rfl⟩ := hx.inv; obtain ⟨_,rfl⟩ := hy.inv; refine .of (eq_bytes ?_); exact res_here I .bool q
theorem c_ne_bytes {b c : List UInt8} {Q : V → Mu → Loc → Prop} (q : Q (.bool (b != c)) μ ℓ) : X2 W RV Φ ns gs μ ℓ (.bytes b) (.bytes c) (compareOp .NotEq) Q := by
  intro s F x y G O I hx hy; obtain ⟨_,rfl⟩ := hx.inv; obtain ⟨_,rfl⟩ := hy.inv; refine .of (ne_bytes ?_); exact res_here I .bool q
theorem o_add_bytes {b c : List UInt8} {Q : V → Mu → Loc → Prop} (hz : b.length + c.length ≤ 16777216) (q : Q (.bytes (b ++ c)) μ ℓ) : X2 W RV Φ ns gs μ ℓ (.bytes b) (.bytes c) (binaryOp .Add) Q := by
  intro s F x y G O I hx hy; obtain ⟨_,rfl⟩ := hx.inv; obtain ⟨_,rfl⟩ := hy.inv;exact .of (bytes_add_K (by rw [List.size_toArray,List.size_toArray]; exact hz) rfl fun t' k => res_tok I .bytes q)
theorem o_mul_bytes {b : List UInt8} {n : Int} {Q : V → Mu → Loc → Prop} (hb : b ≠ []) (hl : b.length ≤ 16) (h0 : -1048576 ≤ n) (h1 : n ≤ 1048576) (q : Q (.bytes (List.replicate n.toNat b).flatten) μ ℓ) : X2 W RV Φ ns gs μ ℓ (.bytes b) (.int n) (binaryOp .Mult) Q := by
  intro s F x y G O I hx hy; obtain ⟨_,rfl⟩ := hx.inv; obtain ⟨_,rfl⟩ := hy.inv;exact .of (bytes_mul_any hb h0 h1 hl fun t' k => res_tok I .bytes q)
theorem s_ba {a : Addr} {b : List UInt8} {l u : V} {lo hi : Option Int} {Q : V → Mu → Loc → Prop} (hm : (a,Ce.ba b) ∈ μ) (hl : PartV l lo) (hu : PartV u hi) (hz : b.length ≤ 16777216) (q : ∀ a',Q (.val (.ref a')) ((a',.ba (cutL b lo hi)) :: μ) ℓ) :
    X2 W RV Φ ns gs μ ℓ (.val (.ref a)) (.slc l u) getItem Q := by
  intro s F x y G O I hx hy;cases hx;apply gG;intro nG
  obtain ⟨o,ho,hc⟩ := I.cell hm;apply nG;clear nG;cases hc;cases hy with
  | slc hF hp hl' hu' =>
    refine .of (ba_getSlice ho hp (hl.is hl') (hu.is hu') hz ?_);exact res_made (c := .ba (cutL b lo hi)) (k := s.toks) I rfl rfl .val (q _)
theorem p_ba {a : Addr} {b c : List UInt8} {l u v : V} {lo hi : Option Int} {L H : Nat} {Q : Unit → Mu → Loc → Prop} (hl : PartV l lo) (hu : PartV u hi) (hz : b.length ≤ 16777216)
    (hv : v = .bytes c ∨ ∃ e,v = .val (.ref e) ∧ e ≠ a ∧ (e,Ce.ba c) ∈ μ)
    (hL : lo.elim 0 (clipAt b.length) = L) (hH : hi.elim b.length (clipAt b.length) = H) (h1 : L ≤ H) (h2 : H ≤ b.length) (h3 : c.length = H - L)
    (U : UpdM μ a (.ba b) (.ba (b.take L ++ c ++ b.drop H)) μ') (q : Q () μ' ℓ) : X3 W RU Φ ns gs μ ℓ (.val (.ref a)) (.slc l u) v setItem Q := by
  intro s F x y z G O I hx hy hz';cases hx;apply gG;intro nG
  obtain ⟨o,ho,hc⟩ := I.cell U.mem;apply nG;clear nG;cases hc;cases hy with
  | slc hF hp hl' hu' =>
    have hv' : (∃ t,z = .bytes c.toArray t) ∨ (∃ e,z = .ref e ∧ e ≠ a ∧ s.heap.get? e = some ⟨.type "bytearray",none,.bytearray c.toArray 0,#[]⟩) := by
      (apply gG;intro nG; rcases hv with rfl | ⟨e,rfl,ne,he⟩ <;> refine nG ?_ <;> clear nG)
      · cases hz'; exact .inl ⟨_,rfl⟩
      · cases hz';apply gG;intro nG
        obtain ⟨o,ho,hc⟩ := I.cell he;apply nG;clear nG;cases hc;exact .inr ⟨e,rfl,ne,ho⟩
    refine ba_setSlice O.room.guards ho hp (hl.is hl') (hu.is hu') hz hv' hL hH h1 h2 h3 fun h' e1 e2 => ?_
    obtain ⟨I',ex⟩ := I.turned (k := s.toks) U e1 (fun b x ne e => e2 b x ne e) rfl;exact ⟨F,(),μ',ℓ,I',ex,trivial,q⟩
theorem a_sub {o i : Expr} {pos : Pos} {v : V} {Q : Unit → Mu → Loc → Prop} (h : X W RV Φ ns gs μ ℓ (eval o Φ.env) fun ov μ ℓ => X W RV Φ ns gs μ ℓ (eval i Φ.env) fun iv μ ℓ => X3 W RU Φ ns gs μ ℓ ov iv v setItem Q) :
    X1 W RU Φ ns gs μ ℓ v (assign (.Subscript o i pos) Φ.env) Q := by
  intro s F y G O I hy;rw [assign_sub_eq];refine .bind (.holding (stepQ (h s F G O I) fun s₁ F₁ x μ₁ ℓ₁ ov i₁ e₁ hx q₁ => .bind (.holding ?_)));refine stepQ (q₁ s₁ F₁ G O i₁) fun s₂ F₂ z μ₂ ℓ₂ iv i₂ e₂ hz q₂ => .stand (.bind (.holding ?_))
  refine stepQ (q₂ s₂ F₂ x z y G O i₂ (hx.ext e₂) hz ((hy.ext e₁).ext e₂)) fun s₃ F₃ r μ₃ ℓ₃ u i₃ e₃ hr q₃ => release_any ?_
  exact ⟨F₃,_,μ₃,ℓ₃,i₃,(e₁.trans e₂).trans e₃,trivial,q₃⟩
theorem s_tup {l : List V} {i : Int} {v : V} {Q : V → Mu → Loc → Prop} (h0 : 0 ≤ i) (h1 : i < 2 ^ 40) (hv : l[i.toNat]? = some v) (q : Q v μ ℓ) : X2 W RV Φ ns gs μ ℓ (.tup l) (.int i) getItem Q := by
  intro s F x y G O I hx hy;apply gG;intro nG
  obtain ⟨_,rfl⟩ := hy.inv;obtain ⟨_,_,_,_,rfl,hF,ho,hc,hd,hl⟩ := hx.tup_inv;apply nG;clear nG
  ·
    apply gG;intro nG
    obtain ⟨z,hz,hi⟩ := hl.at hv;apply nG;clear nG;have hlt := (List.getElem?_eq_some_iff.mp hz).1;refine .of (getItem_tuple (j := i.toNat) (x := z) ⟨_,ho,hc,_,hd⟩ (by exact q503 h0) (by exact q504 h1) ?_ (by simpa using hz) (res_here I hi q));have hn : ¬ i < 0 := by exact q478 h0
    simp [seqIndex?,hn];exact q505 h0 hlt
theorem s_lst {l : List V} {i : Int} {v : V} {Q : V → Mu → Loc → Prop} (h0 : 0 ≤ i) (h1 : i < 2 ^ 40) (hv : l[i.toNat]? = some v) (q : Q v μ ℓ) : X2 W RV Φ ns gs μ ℓ (.lst l) (.int i) getItem Q := by
  intro s F x y G O I hx hy;apply gG;intro nG
  obtain ⟨_,rfl⟩ := hy.inv;obtain ⟨_,_,_,_,rfl,hF,ho,hc,hd,hl⟩ := hx.lst_inv;apply nG;clear nG
  ·
    apply gG;intro nG
    obtain ⟨z,hz,hi⟩ := hl.at hv;apply nG;clear nG;exact .of (wpAny_getItem_list ⟨_,ho,hc,_,hd⟩ h0 (by exact q504 h1) (by simpa using hz) (res_here I hi q))
theorem m_append {a : Addr} {l : List V} {pl : Sem Bool} {Q : Value × List V → Mu → Loc → Prop} (hm : (a,Ce.list l) ∈ μ) (q : Q (.builtin "list.append",[.val (.ref a)]) μ ℓ) :
    X1 W RM Φ ns gs μ ℓ (.val (.ref a)) (fun v => getMethod v (Str.ofString "append") pl) Q := by
  intro s F x G O I hx;apply gG;intro nG
  obtain ⟨_,rfl⟩ := hx.inv;obtain ⟨o,ho,hc⟩ := I.cell hm;obtain ⟨vs,n,rfl,hl⟩ := hc;apply nG;clear nG;exact .of (getMethod_list_append ho rfl rfl (res_here I ⟨rfl,.cons .val .nil⟩ q))
theorem l_append {a : Addr} {l : List V} {v : V} {Q : V → Mu → Loc → Prop} (hz : l.length ≤ 1000000) (U : UpdM μ a (.list l) (.list (l ++ [v])) μ') (q : Q .none μ' ℓ) : XL W RV Φ ns gs μ ℓ [.val (.ref a),v] (fun xs => call (.builtin "list.append") xs) Q := by
  intro s F xs G O I hx;apply gG;intro nG
  obtain ⟨x,y,rfl,ha,hv⟩ := isL2 hx;obtain ⟨_,rfl⟩ := ha.inv;obtain ⟨o,ho,hc⟩ := I.cell U.mem;obtain ⟨vs,n,rfl,hl⟩ := hc;apply nG;clear nG;refine .of (wpAny_list_append_plain ⟨n,ho⟩ (fun h' hp hs => ?_) (by rw [← Array.length_toList,hl.length,sizeLine_eq]; (exact Nat.le_trans (by assumption) (by decide))));apply gG;intro nG
  obtain ⟨n',hp⟩ := hp;have na : a ∈ addrs μ := List.mem_map_of_mem (f := Prod.fst) U.mem;have ex : Ext F s.heap F h' := ⟨fun u_ z => z,fun b x fb q => (hs.2 b fun e => (I.st.froz b fb).2 (e ▸ na)).trans q⟩
  obtain ⟨I',ex'⟩ := I.turned (k := s.toks) U hp (fun b x ne e => (hs.2 b ne).trans e) ⟨_,_,rfl,by rw [Array.toList_push]; exact (hl.append (.cons hv .nil)).ext ex⟩;apply nG;clear nG;exact ⟨F,.none,μ',ℓ,I',ex',.none,q⟩
end
end
section
open PySem PySem.W PyProof.Rows PySem.Calls Builtin
section
variable {prog : Program} {w : World} {A : Around} {s : Shared}
theorem cN.block {stmts : List Stmt} {env : Env} {R : Result → Shared → Prop} (h : wN (model prog w) A (execs stmts env) (fun f s' => R (.ok f) s') (fun u_ u_ => False) s) : cN (model prog w) A (.block stmts env) R s := by
  refine cN.tree rfl ?_;show wN _ _ (do return Fin.done (← (execs stmts env).onRaise (fun x => do noteFrame x env; theTreesLotGoes x))) _ _ s;exact .bind (.onRaise (wN.mono h (fun f s' h' => .pure h') fun u_ u_ z => z.elim))
theorem cN.forLoop {target : Expr} {it : Value} {body orelse : List Stmt} {env : Env} {R : Result → Shared → Prop} (I : Nat → Shared → Prop)
    (turn : ∀ n s,I n s → wN (model prog w) A (pyNext it) (fun r s₁ => match r with
      | none => wN (model prog w) A (execs orelse env) (fun f s₃ => R (.ok f) s₃) (fun u_ u_ => False) s₁
      | some v => wN (model prog w) A (assign target env v) (fun u_ s₂ => wN (model prog w) A (execs body env) (fun f s₃ => match f with
          | .next | .cont => ∃ m,m < n ∧ I m s₃
          | .brk => R (.ok .next) s₃
          | .ret v => R (.ok (.ret v)) s₃) (fun u_ u_ => False) s₂) (fun u_ u_ => False) s₁) (fun u_ u_ => False) s)
    (n : Nat) (h : I n s) (ht : ∀ v,letOwnedTupleGo target it v = pure ()) : cN (model prog w) A (.forLoop target it body orelse env) R s := by
  induction n using Nat.strongRecOn generalizing s with
  | ind n ih =>
    refine cN.tree rfl ?_;show wN _ A ((forTurn target it body orelse env).onRaise (fun x => do noteFrame x env; theTreesLotGoes x)) _ _ s;refine .onRaise ?_;unfold forTurn;refine .stand (.bind (.onRaise (wN.mono (turn n s h) (fun r s₁ h₁ => ?_) fun u_ u_ z => z.elim)));cases r with
    | none => exact .pure ⟨rfl,cN.block h₁⟩
    | some v =>
      refine .bind (.of (wpAny_of_eq (ht v) ?_));refine .bind (wN.mono h₁ (fun u_ s₂ h₂ => .bind (wN.mono h₂ (fun f s₃ h₃ => ?_) fun u_ u_ z => z.elim)) fun u_ u_ z => z.elim);cases f with
      | next => (apply gG;intro nG;obtain ⟨m,hm,hI⟩ := h₃ <;> refine nG ?_ <;> clear nG); exact .pure ⟨rfl,ih m hm hI⟩
      | cont => (apply gG;intro nG;obtain ⟨m,hm,hI⟩ := h₃ <;> refine nG ?_ <;> clear nG); exact .pure ⟨rfl,ih m hm hI⟩
      | brk => exact .pure h₃
      | ret v => exact .pure h₃
theorem cN.whileLoop {test : Expr} {body orelse : List Stmt} {env : Env} {R : Result → Shared → Prop} (I : Nat → Shared → Prop)
    (turn : ∀ n s,I n s → wN (model prog w) A (isTrue test env (eval test env)) (fun b s₁ => match b with
      | false => wN (model prog w) A (execs orelse env) (fun f s₃ => R (.ok f) s₃) (fun u_ u_ => False) s₁
      | true => wN (model prog w) A (execs body env) (fun f s₃ => match f with
          | .next | .cont => ∃ m,m < n ∧ I m s₃
          | .brk => R (.ok .next) s₃
          | .ret v => R (.ok (.ret v)) s₃) (fun u_ u_ => False) s₁) (fun u_ u_ => False) s)
    (n : Nat) (h : I n s) : cN (model prog w) A (.whileLoop test body orelse env) R s := by
  induction n using Nat.strongRecOn generalizing s with
  | ind n ih =>
    refine cN.tree rfl ?_;show wN _ A ((whileTurn test body orelse env).onRaise (fun x => do noteFrame x env; theTreesLotGoes x)) _ _ s;refine .onRaise ?_;unfold whileTurn;refine .bind (wN.mono (turn n s h) (fun b s₁ h₁ => ?_) fun u_ u_ z => z.elim);cases b with
    | false => exact .bind (wN.mono h₁ (fun f s₃ h₃ => .pure h₃) fun u_ u_ z => z.elim)
    | true =>
      refine .bind (wN.mono h₁ (fun f s₃ h₃ => ?_) fun u_ u_ z => z.elim);cases f with
      | next => (apply gG;intro nG;obtain ⟨m,hm,hI⟩ := h₃ <;> refine nG ?_ <;> clear nG); exact .pure ⟨rfl,ih m hm hI⟩
      | cont => (apply gG;intro nG;obtain ⟨m,hm,hI⟩ := h₃ <;> refine nG ?_ <;> clear nG); exact .pure ⟨rfl,ih m hm hI⟩
      | brk => exact .pure h₃
      | ret v => exact .pure h₃
end
section
variable {W : Wd} {Φ : Fx} {ns : List Str} {gs : List (Str × Value)} {μ μ' μ₁ ν : Mu} {ℓ ℓ' : Loc} {F F' : Addr → Prop} {s s' : Shared} {α β : Type} {R : Heap → (Addr → Prop) → β → α → Prop}
theorem xs_while {test : Expr} {body : List Stmt} {pos : Pos} {Q : Fl → Mu → Loc → Prop} (J : Nat → Mu → Loc → Prop) (n : Nat) (h : J n μ ℓ)
    (turn : ∀ n μ ℓ,J n μ ℓ → X W RB Φ ns gs μ ℓ (isTrue test Φ.env (eval test Φ.env)) fun b μ ℓ => if b = true then X W RF Φ ns gs μ ℓ (execs body Φ.env) fun f μ ℓ => match f with
        | .next | .cont => ∃ m,m < n ∧ J m μ ℓ
        | .brk => Q .next μ ℓ
        | .ret v => Q (.ret v) μ ℓ
      else Q .next μ ℓ) : X W RF Φ ns gs μ ℓ (exec (.While test body [] pos) Φ.env) Q := by
  intro s F G O I;rw [exec_While];unfold runOwn;refine .stand (.onRaise (.run ?_));refine cN.whileLoop (fun k s' => ∃ F' μ' ℓ',In W Φ ns F' μ' ℓ' s' ∧ Ext F s.heap F' s'.heap ∧ J k μ' ℓ') (fun k s₀ ⟨F₀,μ₀,ℓ₀,i₀,e₀,j₀⟩ => ?_) n ⟨F,μ,ℓ,I,.refl,h⟩;refine stepQ (turn k μ₀ ℓ₀ j₀ s₀ F₀ G O i₀) fun s₁ F₁ c μ₁ ℓ₁ b i₁ e₁ hb q₁ => ?_
  subst hb;cases b with
  | false => exact .of (wpAny_execs_nil ⟨F₁,.next,μ₁,ℓ₁,i₁,e₀.trans e₁,.next,q₁⟩)
  | true =>
    refine stepQ (q₁ s₁ F₁ G O i₁) fun s₂ F₂ f μ₂ ℓ₂ d i₂ e₂ hf q₂ => ?_
    cases hf with
    | next => (apply gG;intro nG;obtain ⟨m,hm,j⟩ := q₂ <;> refine nG ?_ <;> clear nG); exact ⟨m,hm,F₂,μ₂,ℓ₂,i₂,(e₀.trans e₁).trans e₂,j⟩
    | cont => (apply gG;intro nG;obtain ⟨m,hm,j⟩ := q₂ <;> refine nG ?_ <;> clear nG); exact ⟨m,hm,F₂,μ₂,ℓ₂,i₂,(e₀.trans e₁).trans e₂,j⟩
    | brk => exact ⟨F₂,.next,μ₂,ℓ₂,i₂,(e₀.trans e₁).trans e₂,.next,q₂⟩
    | ret hv => exact ⟨F₂,.ret _,μ₂,ℓ₂,i₂,(e₀.trans e₁).trans e₂,.ret hv,q₂⟩
noncomputable def NextIs (W : Wd) (F₀ : Addr → Prop) (h₀ : Heap) (I : Addr) (ob : Nat → Ce) (l : List V) : Prop :=
  ∀ (i : Nat) (Φ : Fx) (ns : List Str) (F : Addr → Prop) (μ : Mu) (ℓ : Loc) (s : Shared),Gd W → Φ.A.handled = none → In W Φ ns F ((I,ob i) :: μ) ℓ s → Ext F₀ h₀ F s.heap →
    wpAny W.M Φ.A (pyNext (.ref I)) (fun r s' => match l[i]? with
      | some v => ∃ x F',r = some x ∧ In W Φ ns F' ((I,ob (i + 1)) :: μ) ℓ s' ∧ Ext F s.heap F' s'.heap ∧ Is s'.heap F' v x
      | none => r = none ∧ ∃ F',In W Φ ns F' μ ℓ s' ∧ Ext F s.heap F' s'.heap) (fun u_ u_ => False) s
noncomputable def Iters (W : Wd) (Φ : Fx) (ns : List Str) (gs : List (Str × Value)) (o : V) (l : List V) (μ : Mu) (ℓ : Loc) : Prop :=
  ∀ s F x,Gd W → FxOk W.H₀ Φ ns gs → In W Φ ns F μ ℓ s → Is s.heap F o x →
    wN W.M Φ.A (pyIter x) (fun it s' => ∃ I ob F',it = .ref I ∧ In W Φ ns F' ((I,ob 0) :: μ) ℓ s' ∧ Ext F s.heap F' s'.heap ∧ NextIs W F' s'.heap I ob l) (fun u_ u_ => False) s
noncomputable def lpF (J : Nat → Mu → Loc → Prop) (i : Nat) (p : Addr × Ce) (Q : Fl → Mu → Loc → Prop) (f : Fl) (μ : Mu) (ℓ : Loc) : Prop := match f with
  | .next | .cont => ∃ μ',(p :: μ').Perm μ ∧ J (i + 1) μ' ℓ
  | .brk => Q .next μ ℓ
  | .ret v => Q (.ret v) μ ℓ
noncomputable def NxP (W : Wd) (Φ : Fx) (ns : List Str) (I : Addr) (ob : Nat → Ce) (l : List V) (i : Nat) (F : Addr → Prop) (μ : Mu) (ℓ : Loc) (h : Heap) (r : Option Value) (s' : Shared) : Prop := match l[i]? with
  | some v => ∃ x F',r = some x ∧ In W Φ ns F' ((I,ob (i + 1)) :: μ) ℓ s' ∧ Ext F h F' s'.heap ∧ Is s'.heap F' v x
  | none => r = none ∧ ∃ F',In W Φ ns F' μ ℓ s' ∧ Ext F h F' s'.heap
inductive ItR (W : Wd) (Φ : Fx) (ns : List Str) (l : List V) (J : Nat → Mu → Loc → Prop) (F : Addr → Prop) (ℓ : Loc) (h : Heap) (it : Value) (s' : Shared) : Prop
  | mk (I : Addr) (ob : Nat → Ce) (F' : Addr → Prop) (μ' : Mu) (e : it = .ref I) (i : In W Φ ns F' ((I,ob 0) :: μ') ℓ s') (x : Ext F h F' s'.heap) (j : J 0 μ' ℓ)
      (nx : ∀ i F₃ μ₃ ℓ₃ s₃,i ≤ l.length → J i μ₃ ℓ₃ → In W Φ ns F₃ ((I,ob i) :: μ₃) ℓ₃ s₃ → Ext F' s'.heap F₃ s₃.heap → wpAny W.M Φ.A (pyNext (.ref I)) (NxP W Φ ns I ob l i F₃ μ₃ ℓ₃ s₃.heap) (fun u_ u_ => False) s₃) : ItR W Φ ns l J F ℓ h it s'
noncomputable def IterJ (W : Wd) (Φ : Fx) (ns : List Str) (gs : List (Str × Value)) (o : V) (l : List V) (J : Nat → Mu → Loc → Prop) (μ : Mu) (ℓ : Loc) : Prop :=
  ∀ s F x,Gd W → FxOk W.H₀ Φ ns gs → In W Φ ns F μ ℓ s → Is s.heap F o x → wN W.M Φ.A (pyIter x) (ItR W Φ ns l J F ℓ s.heap) (fun u_ u_ => False) s
theorem Iters.J {o : V} {l : List V} {J : Nat → Mu → Loc → Prop} (a : Iters W Φ ns gs o l μ ℓ) (b : J 0 μ ℓ) : IterJ W Φ ns gs o l J μ ℓ := fun s F x G O I hx => wN.mono (a s F x G O I hx) (fun it s' z => by
  apply gG;intro nG
  obtain ⟨I,ob,F',e,i,x,nx⟩ := z;apply nG;clear nG;exact ⟨I,ob,F',μ,e,i,x,b,fun i F μ ℓ s u_ u_ ii ee => nx i Φ ns F μ ℓ s G O.room.handled ii ee⟩) fun u_ u_ z => z
inductive FoR (W : Wd) (Φ : Fx) (ns : List Str) (gs : List (Str × Value)) (target : Expr) (body : List Stmt) (Q : Fl → Mu → Loc → Prop) (o : V) (μ : Mu) (ℓ : Loc) : Prop
  | mk (l : List V) (J : Nat → Mu → Loc → Prop) (it : IterJ W Φ ns gs o l J μ ℓ)
      (turn : ∀ i v I (ob : Ce) μ ℓ,l[i]? = some v → J i μ ℓ → X1 W RU Φ ns gs ((I,ob) :: μ) ℓ v (assign target Φ.env) fun u_ μ ℓ => X W RF Φ ns gs μ ℓ (execs body Φ.env) (lpF J i (I,ob) Q))
      (done : ∀ μ ℓ,J l.length μ ℓ → Q .next μ ℓ) : FoR W Φ ns gs target body Q o μ ℓ
inductive FoI (W : Wd) (Φ : Fx) (ns : List Str) (n : Nat) (J : Nat → Mu → Loc → Prop) (a : Addr) (ob : Nat → Ce) (F : Addr → Prop) (h : Heap) (k : Nat) (s' : Shared) : Prop
  | mk (i : Nat) (F' : Addr → Prop) (μ' : Mu) (ℓ' : Loc) (hk : k = n + 1 - i) (hi : i ≤ n) (ii : In W Φ ns F' ((a,ob i) :: μ') ℓ' s') (e : Ext F h F' s'.heap) (j : J i μ' ℓ') : FoI W Φ ns n J a ob F h k s'
theorem xs_forE {target iter : Expr} {body : List Stmt} {pos : Pos} {Q : Fl → Mu → Loc → Prop} (h : X W RV Φ ns gs μ ℓ (eval iter Φ.env) (FoR W Φ ns gs target body Q))
    (hs : ∀ x,foldedSetIterable iter Φ.env x = pure x) (ht : ∀ it v,letOwnedTupleGo target it v = pure ()) : X W RF Φ ns gs μ ℓ (exec (.For target iter body [] pos) Φ.env) Q := by
  intro s F G O I;rw [exec_For];refine .stand (.bind (stepQ (h s F G O I) fun s₁ F₁ x μ₁ ℓ₁ o i₁ e₁ hx q₁ => ?_));apply gG;intro nG
  obtain ⟨l,J,it,turn,done⟩ := q₁;apply nG;clear nG;refine .bind (.of (wpAny_of_eq (hs x) ?_));refine .stand (.bind (.holding (wN.mono (it s₁ F₁ x G O i₁ hx) (fun it s₂ z => ?_) fun u_ u_ z => z)));apply gG;intro nG
  obtain ⟨a,ob,F₂,μ₂,rfl,i₂,e₂,j₂,nx⟩ := z;apply nG;clear nG;unfold runOwn;refine .onRaise (.run ?_);refine cN.forLoop (FoI W Φ ns l.length J a ob F₂ s₂.heap) (fun k s₃ z => ?_) (l.length + 1) ⟨0,F₂,μ₂,ℓ₁,rfl,Nat.zero_le _,i₂,.refl,j₂⟩ (ht _);apply gG;intro nG
  obtain ⟨i,F₃,μ₃,ℓ₃,hk,hi,i₃,e₃,j₃⟩ := z;apply nG;clear nG;refine wN.mono (.of (nx i F₃ μ₃ ℓ₃ s₃ hi j₃ i₃ e₃)) (fun r s₄ z => ?_) fun u_ u_ z => z
  unfold NxP at z;cases hv : l[i]? with
  | none =>
    rw [hv] at z;apply gG;intro nG
    obtain ⟨rfl,F₄,i₄,e₄⟩ := z;apply nG;clear nG;have hl : i = l.length := Nat.le_antisymm hi (List.getElem?_eq_none_iff.mp hv);exact .of (wpAny_execs_nil ⟨F₄,.next,μ₃,ℓ₃,i₄,((e₁.trans e₂).trans e₃).trans e₄,.next,done _ _ (hl ▸ j₃)⟩)
  | some v =>
    rw [hv] at z;apply gG;intro nG
    obtain ⟨y,F₄,rfl,i₄,e₄,hy⟩ := z;apply nG;clear nG;have hlt : i < l.length := (List.getElem?_eq_some_iff.mp hv).1;refine stepQ (turn i v a (ob (i + 1)) μ₃ ℓ₃ hv j₃ s₄ F₄ y G O i₄ hy) fun s₅ F₅ u_ μ₅ ℓ₅ u_ i₅ e₅ u_ q₅ => ?_
    refine stepQ (q₅ s₅ F₅ G O i₅) fun s₆ F₆ f μ₆ ℓ₆ d i₆ e₆ hf q₆ => ?_
    have ee := ((e₃.trans e₄).trans e₅).trans e₆;have again : ∀ {μ₆ ℓ₆},In W Φ ns F₆ μ₆ ℓ₆ s₆ → (∃ μ',((a,ob (i + 1)) :: μ').Perm μ₆ ∧ J (i + 1) μ' ℓ₆) → ∃ m,m < k ∧ FoI W Φ ns l.length J a ob F₂ s₂.heap m s₆ := fun i₆ q => q.elim fun μ' q => ⟨l.length - i,by (exact q507 hk hlt),i + 1,F₆,μ',_,by exact q508,hlt,i₆.perm q.1,ee,q.2⟩
    cases hf with
    | next => exact again i₆ q₆
    | cont => exact again i₆ q₆
    | brk => exact ⟨F₆,.next,μ₆,ℓ₆,i₆,(e₁.trans e₂).trans ee,.next,q₆⟩
    | ret hv => exact ⟨F₆,.ret _,μ₆,ℓ₆,i₆,(e₁.trans e₂).trans ee,.ret hv,q₆⟩
end
end
section
open PySem PySem.W PyProof.Rows PySem.Calls Builtin
section
variable {W : Wd} {Φ : Fx} {ns : List Str} {gs : List (Str × Value)} {μ μ' μ₁ ν : Mu} {ℓ ℓ' : Loc} {F F' : Addr → Prop} {s s' : Shared} {α β : Type} {R : Heap → (Addr → Prop) → β → α → Prop}
theorem In.turned1 {a : Addr} {c c' : Ce} {o' : Obj} {k : Nat} {h' : Heap} (I : In W Φ ns F ((a,c) :: μ) ℓ s) (nw : h'.get? a = some o') (e : ∀ b x,b ≠ a → s.heap.get? b = some x → h'.get? b = some x) (hc : CIs h' F c' o') :
    In W Φ ns F ((a,c') :: μ) ℓ { s with heap := h',toks := k } ∧ Ext F s.heap F h' := I.turned .here nw e hc
theorem In.ended1 {a : Addr} {c : Ce} {k : Nat} {h' : Heap} (I : In W Φ ns F ((a,c) :: μ) ℓ s) (e : ∀ b x,b ≠ a → s.heap.get? b = some x → h'.get? b = some x) :
    In W Φ ns F μ ℓ { s with heap := h',toks := k } ∧ Ext F s.heap F h' := by
  have nd := List.nodup_cons.mp I.st.nodup;have nF : ∀ b,F b → b ≠ a := fun b fb e => (I.st.froz b fb).2 (e ▸ .head _)
  have ex : Ext F s.heap F h' := ⟨fun u_ z => z,fun b x fb q => e b x (nF b fb) q⟩
  have nL : Φ.env.locals ≠ a := fun e => I.apart (e ▸ .head _)
  apply gG;intro nG
  obtain ⟨m,⟨x,es,ep,hx,r⟩,hl⟩ := I.loc;apply nG;clear nG;refine ⟨⟨⟨I.st.gens,I.st.os,fun b x q => e b x (nF b (I.st.frozBase b x q)) (I.st.base b x q),fun p hp => ?_,nd.2,fun b fb => ?_,I.st.frozBase⟩,⟨m,⟨x,es,ep,e _ _ nL hx,r⟩,hl.ext ex⟩,fun z => I.apart (.tail _ z),I.nfroz,⟨fun b y q nb => ?_,I.grow.mono,I.grow.froz,fun b hb => I.grow.new b (.tail _ hb)⟩⟩,ex⟩
  · apply gG;intro nG
    obtain ⟨x,hx,hcx⟩ := I.st.mu p (.tail _ hp);apply nG;clear nG;exact ⟨x,e _ _ (fun q => nd.1 (by have z := List.mem_map_of_mem (f := Prod.fst) hp; rw [q] at z; exact z)) hx,hcx.ext ex⟩
  · apply gG;intro nG
    obtain ⟨⟨x,hx⟩,nb⟩ := I.st.froz b fb;apply nG;clear nG;exact ⟨⟨x,e _ _ (nF b fb) hx⟩,fun z => nb (.tail _ z)⟩
  · refine e b y (fun e' => ?_) (I.grow.keep b y q nb);rcases I.grow.new b (e' ▸ .head _) with z | z
    · exact nb z
    · rw [q] at z; cases z
theorem it_lst {l : List V} : Iters W Φ ns gs (.lst l) l μ ℓ := by
  intro s F x G O I hx;cases hx with
  | @lst _ a vs n o hF ho hc hd hl =>
    have hL : s.heap.IsList a vs.toArray := ⟨o,ho,hc,n,hd⟩
    refine .of (wpAny_pyIter_list hL ?_);obtain ⟨I',ex⟩ := I.made (k := s.toks) (c := .raz (.type "list_iterator") (.fields #[.ref a,.int ((0 : Nat) : Int) 0])) (o := { cls := .type "list_iterator",data := .fields #[.ref a,.int 0 0] }) rfl ⟨rfl,rfl⟩;refine ⟨_,fun i => .raz (.type "list_iterator") (.fields #[.ref a,.int (i : Int) 0]),F,rfl,I',ex,?_⟩;intro i Φ' ns' F' μ' ℓ' s' G' hh I'' e'';apply gG;intro nG
    obtain ⟨ob,hob,hcl,hdt⟩ := I''.st.mu _ (.head _);apply nG;clear nG;have hit : s'.heap.IsListIter s.heap.objs.size a i := ⟨ob,hob,hcl,hdt⟩
    have ho' := e''.keep a o hF (ex.keep a o hF ho);have hL' : s'.heap.IsList a vs.toArray := ⟨o,ho',hc,n,hd⟩
    have hl' := (hl.ext ex).ext e'';cases hv : l[i]? with
    | some v =>
      apply gG;intro nG
      obtain ⟨y,hy,hi⟩ := hl'.at hv;apply nG;clear nG;refine wpAny_pyNext_list_item hit hL' (by simpa using hy) fun h₁ hit₁ hs₁ => ?_
      apply gG;intro nG
      obtain ⟨ob',hob',hcl',hdt'⟩ := hit₁;obtain ⟨J,ex'⟩ := I''.turned1 (k := s'.toks) (c' := .raz (.type "list_iterator") (.fields #[.ref a,.int ((i + 1 : Nat) : Int) 0])) hob' (fun b x ne e => (hs₁.2 b ne).trans e) ⟨hcl',hdt'⟩;apply nG;clear nG;exact ⟨y,F',rfl,J,ex',hi.ext ex'⟩
    | none =>
      refine wpAny_pyNext_list_end hh hit hL' ?_ fun h₁ he => ?_
      · have := List.getElem?_eq_none_iff.mp hv;rw [List.getElem?_toArray];exact List.getElem?_eq_none_iff.mpr (by rw [hl.length]; exact this)
      · obtain ⟨J,ex'⟩ := I''.ended1 (k := s'.toks) (h' := h₁) (fun b x ne e => he b x ne e);exact ⟨rfl,F',J,ex'⟩
noncomputable def itob (a c n : Int) (i : Nat) : Ce := .raw { cls := .type "range_iterator",data := .fields #[rawInt (a + i * c),rawInt (n - i),rawInt c] }
theorem next_range {a c : Int} {n : Nat} {J : Addr} : NextIs W F s.heap J (itob a c n) ((List.range n).map fun i : Nat => V.int (a + (i : Int) * c)) := by
  intro i Φ' ns' F' μ' ℓ' s' G' hh I'' e'';apply gG;intro nG
  obtain ⟨ob,hob,hcl⟩ := I''.st.mu _ (.head _);apply nG;clear nG;cases hcl;have hit : IsRangeIter s'.heap J (a + i * c) ((n : Int) - i) c := hob
  by_cases hi : i < n
  · rw [List.getElem?_map,List.getElem?_range hi];refine wpAny_pyNext_range_item hit (by exact q509 hi) fun h₁ hit₁ hs₁ => ?_
    have e1 : a + ((i + 1 : Nat) : Int) * c = a + (i : Int) * c + c := by push_cast; rw [Int.add_mul,Int.one_mul,Int.add_assoc]
    have e2 : (n : Int) - ((i + 1 : Nat) : Int) = (n : Int) - (i : Int) - 1 := by push_cast; exact q510
    obtain ⟨J',ex'⟩ := I''.turned1 (k := s'.toks + 1) (c' := itob a c n (i + 1)) hit₁ (fun b x ne e => (hs₁.2 b ne).trans e) (by show _ = _; rw [e1,e2]);exact ⟨_,F',rfl,J',ex',.int⟩
  · rw [List.getElem?_map,List.getElem?_eq_none (by rw [List.length_range]; exact q136 hi)];refine wpAny_pyNext_range_end hh hit (by exact q511 hi) fun h₁ he => ?_
    obtain ⟨J',ex'⟩ := I''.ended1 (k := s'.toks) (h' := h₁) (fun b x ne e => he b x ne e);exact ⟨rfl,F',J',ex'⟩
end
end
section
open PySem PySem.W PyProof.Rows PySem.Calls Builtin
noncomputable def others (h : Heap) (L : Addr) : List (Addr × Obj) := (List.range h.objs.size).filterMap fun a => if a = L then none else (h.get? a).map fun o => (a,o)
theorem noObj (b : Addr) : ({} : Heap).get? b = none := rfl
theorem others_mem {h : Heap} {L b : Addr} {o : Obj} : (b,o) ∈ others h L ↔ b ≠ L ∧ h.get? b = some o := by
  unfold others;rw [List.mem_filterMap]
  constructor
  · rintro xC0_; apply gG;intro nG;obtain ⟨a,ha,e⟩ := xC0_
    apply nG;clear nG
    by_cases q : a = L
    · rw [if_pos q] at e; cases e
    · rw [if_neg q] at e;apply gG;intro nG
      obtain ⟨o',h1,h2⟩ := Option.map_eq_some_iff.mp e;apply nG;clear nG;cases h2;exact ⟨q,h1⟩
  · rintro ⟨q,e⟩;exact ⟨b,List.mem_range.mpr (Heap.lt_size e),by rw [if_neg q,e]; rfl⟩
theorem others_news (h : Heap) (L : Addr) : News {} L h (others h L) := fun p hp => by
  apply gG;intro nG
  obtain ⟨b,o⟩ := p;obtain ⟨h1,h2⟩ := others_mem.mp hp;apply nG;clear nG;exact ⟨h2,h1,rfl⟩
theorem others_keep {h h' : Heap} {L : Addr} {more : List (Addr × Obj)} (N : News {} L h' (more ++ others h L)) : ∀ b o,b ≠ L → h.get? b = some o → h'.get? b = some o :=
  fun b o q e => (N (b,o) (List.mem_append_right _ (others_mem.mpr ⟨q,e⟩))).1
section
variable {W : Wd} {Φ : Fx} {ns : List Str} {gs : List (Str × Value)} {μ μ' μ₁ ν : Mu} {ℓ ℓ' : Loc} {F F' : Addr → Prop} {s s' : Shared} {α β : Type} {R : Heap → (Addr → Prop) → β → α → Prop}
theorem In.kept {m : Str → Option Value} {h' : Heap} {k : Nat} (I : In W Φ ns F μ ℓ s) (hm : LocL s.heap F m ns ℓ) (hn : h'.Ns Φ.env.locals m) (e : ∀ b o,b ≠ Φ.env.locals → s.heap.get? b = some o → h'.get? b = some o) (O : FxOk W.H₀ Φ ns gs) :
    In W Φ ns F μ ℓ { s with heap := h',toks := k } ∧ Ext F s.heap F h' := by
  have nz : ∀ a o,F a → s.heap.get? a = some o → h'.get? a = some o := fun a o fa q => e a o (fun z => I.nfroz (z ▸ fa)) q
  have ex : Ext F s.heap F h' := ⟨fun u_ z => z,nz⟩
  refine ⟨⟨⟨I.st.gens,I.st.os,fun b o q => nz b o (I.st.frozBase b o q) (I.st.base b o q),fun p hp => ?_,I.st.nodup,fun a fa => ?_,I.st.frozBase⟩,⟨_,hn,hm.ext ex⟩,I.apart,I.nfroz,⟨fun b o q nb => ?_,I.grow.mono,I.grow.froz,I.grow.new⟩⟩,ex⟩
  · apply gG;intro nG
    obtain ⟨o,ho,hc⟩ := I.st.mu p hp;apply nG;clear nG;exact ⟨o,e _ _ (fun q => I.apart (q ▸ List.mem_map_of_mem hp)) ho,hc.ext ex⟩
  · apply gG;intro nG
    obtain ⟨⟨o,ho⟩,na⟩ := I.st.froz a fa;apply nG;clear nG;exact ⟨⟨o,nz a o fa ho⟩,na⟩
  · exact e b o (fun z => by rw [z] at q; rw [O.isNew.1] at q; cases q) (I.grow.keep b o q nb)
theorem In.claim {a : Addr} {c : Ce} {o : Obj} (I : In W Φ ns F μ ℓ s) (ho : s.heap.get? a = some o) (hc : CIs s.heap F c o) (na : a ∉ addrs μ) (nf : ¬ F a) (nl : Φ.env.locals ≠ a) (nw : a ∈ Φ.mods ∨ Φ.h₀.get? a = none) : In W Φ ns F ((a,c) :: μ) ℓ s := by
  refine ⟨⟨I.st.gens,I.st.os,I.st.base,fun p hp => ?_,List.nodup_cons.mpr ⟨na,I.st.nodup⟩,fun b fb => ⟨(I.st.froz b fb).1,fun z => ?_⟩,I.st.frozBase⟩,I.loc,fun z => ?_,I.nfroz,⟨I.grow.keep,I.grow.mono,I.grow.froz,fun b hb => ?_⟩⟩
  · rcases List.mem_cons.mp hp with rfl | hp
    · exact ⟨o,ho,hc⟩
    · exact I.st.mu p hp
  · rcases List.mem_cons.mp z with rfl | z
    · exact nf fb
    · exact (I.st.froz b fb).2 z
  · rcases List.mem_cons.mp z with z | z
    · exact nl z
    · exact I.apart z
  · rcases List.mem_cons.mp hb with rfl | hb
    · exact nw
    · exact I.grow.new b hb
theorem In.ledger {m : Str → Option Value} {h' : Heap} {k : Nat} {D : Addr} {o : Obj} {c : Ce} (O : FxOk W.H₀ Φ ns gs) (I : In W Φ ns F μ ℓ s) (hm : LocL s.heap F m ns ℓ) (hn : h'.Ns Φ.env.locals m) (N : News {} Φ.env.locals h' ((D,o) :: others s.heap Φ.env.locals))
    (fr : s.heap.get? D = none) (hc : ∀ e : Ext F s.heap F h',CIs h' F c o) : In W Φ ns F ((D,c) :: μ) ℓ { s with heap := h',toks := k } ∧ Ext F s.heap F h' := by
  apply gG;intro nG
  obtain ⟨I',ex⟩ := I.kept (k := k) hm hn (others_keep (more := [_]) N) O;obtain ⟨hD,hDL,_⟩ := N _ (.head _);apply nG;clear nG;refine ⟨I'.claim hD (hc ex) (fun z => ?_) (fun z => ?_) (fun z => hDL z.symm) (I.grow.fresh fr),ex⟩
  · obtain ⟨x,hx⟩ := I.st.mu_alive z; rw [fr] at hx; cases hx
  · (apply gG;intro nG;obtain ⟨⟨x,hx⟩,_⟩ := I.st.froz D z <;> refine nG ?_ <;> clear nG); rw [fr] at hx; cases hx
theorem In.fr {m : Str → Option Value} (hm : s.heap.Ns Φ.env.locals m) : Fr {} Φ.env.locals s.heap m := ⟨hm,fun b o e => (by rw [noObj] at e; cases e),Nat.zero_le _⟩
theorem x_List {elts : List Expr} {pos : Pos} {Q : V → Mu → Loc → Prop} (h : X W RL Φ ns gs μ ℓ (spliced (backTo pos (starEach elts Φ.env))) fun l μ ℓ => l.length ≤ 1000000 ∧ ∀ a,Q (.val (.ref a)) ((a,.list l) :: μ) ℓ) : X W RV Φ ns gs μ ℓ (eval (.List elts pos) Φ.env) Q := by
  intro s F G O I;rw [arm_eval_List];refine .stand (.bind (stepQ (h s F G O I) fun s₁ F₁ xs μ₁ ℓ₁ l i₁ e₁ hx q₁ => ?_));obtain ⟨hz,q₁⟩ := q₁;refine .of (wpAny_newList (Res.ext e₁ ?_) (by rw [hx.length,sizeLine_eq]; (exact Nat.le_trans (by assumption) (by decide))));exact res_made (k := s₁.toks) i₁ (o := { cls := .type "list",data := .seq xs.toArray }) rfl (c := .list l) ⟨_,_,rfl,hx⟩ .val (q₁ _)
theorem x_ListR {elts : List Expr} {pos : Pos} {Q : V → Mu → Loc → Prop} (h : X W RL Φ ns gs μ ℓ (spliced (backTo pos (starEach elts Φ.env))) fun l μ ℓ => l.length ≤ 1000000 ∧ ∀ a,Q (.val (.ref a)) ((a,.rlist l) :: μ) ℓ) : X W RV Φ ns gs μ ℓ (eval (.List elts pos) Φ.env) Q := by
  intro s F G O I;rw [arm_eval_List];refine .stand (.bind (stepQ (h s F G O I) fun s₁ F₁ xs μ₁ ℓ₁ l i₁ e₁ hx q₁ => ?_));obtain ⟨hz,q₁⟩ := q₁;refine .of (wpAny_newList (Res.ext e₁ ?_) (by rw [hx.length,sizeLine_eq]; exact q512 hz));exact res_made (k := s₁.toks) i₁ (o := { cls := .type "list",data := .seq xs.toArray }) rfl (c := .rlist l) ⟨rfl,_,_,rfl,hx⟩ .val (q₁ _)
theorem x_ListF {elts : List Expr} {pos : Pos} {Q : V → Mu → Loc → Prop} (h : X W RL Φ ns gs μ ℓ (spliced (backTo pos (starEach elts Φ.env))) fun l μ ℓ => l.length ≤ 1000000 ∧ Q (.lst l) μ ℓ) : X W RV Φ ns gs μ ℓ (eval (.List elts pos) Φ.env) Q := by
  intro s F G O I;rw [arm_eval_List];refine .stand (.bind (stepQ (h s F G O I) fun s₁ F₁ xs μ₁ ℓ₁ l i₁ e₁ hx q₁ => ?_));obtain ⟨hz,q₁⟩ := q₁;refine .of (wpAny_newList (Res.ext e₁ ?_) (by rw [hx.length,sizeLine_eq]; exact q512 hz));refine res_born (k := s₁.toks) i₁ rfl ?_ q₁;exact .lst (.inr rfl) (Heap.get?_push_size _ rfl) rfl rfl (hx.ext ⟨fun u_ z => .inl z,fun a x u_ q => Heap.get?_push_of_some _ q⟩)
theorem x_Tuple {elts : List Expr} {k : Nat} {pos : Pos} {Q : V → Mu → Loc → Prop} (h : X W RL Φ ns gs μ ℓ (spliced (backTo pos (starEach elts Φ.env))) fun l μ ℓ => l.length ≤ 1000000 ∧ Q (.tup l) μ ℓ) : X W RV Φ ns gs μ ℓ (eval (.Tuple elts k pos) Φ.env) Q := by
  intro s F G O I;rw [arm_eval_Tuple];refine .stand (.bind (stepQ (h s F G O I) fun s₁ F₁ xs μ₁ ℓ₁ l i₁ e₁ hx q₁ => ?_));obtain ⟨hz,q₁⟩ := q₁;refine .of (wpAny_newTuple (Res.ext e₁ ?_) (by rw [hx.length,sizeLine_eq]; exact q512 hz));exact res_born (k := s₁.toks) i₁ rfl (is_tup hx) q₁
theorem s_rlist {a : Addr} {l : List V} {i : Int} {v : V} {Q : V → Mu → Loc → Prop} (hm : (a,Ce.rlist l) ∈ μ) (h0 : 0 ≤ i) (h1 : i < 2 ^ 40) (hv : l[i.toNat]? = some v) (q : Q v μ ℓ) : X2 W RV Φ ns gs μ ℓ (.val (.ref a)) (.int i) getItem Q := by
  intro s F x y G O I hx hy;obtain ⟨_,rfl⟩ := hy.inv; obtain ⟨_,rfl⟩ := hx.inv;apply gG;intro nG
  obtain ⟨o,ho,hc⟩ := I.cell hm;obtain ⟨hc,vs,n,hd,hl⟩ := hc;obtain ⟨z,hz,hi⟩ := hl.at hv;apply nG;clear nG;exact .of (wpAny_getItem_list ⟨_,ho,hc,_,hd⟩ h0 (by exact q504 h1) (by rw [← Array.getElem?_toList]; exact hz) (res_here I hi q))
theorem l_len_rlist {a : Addr} {l : List V} {Q : V → Mu → Loc → Prop} (hm : (a,Ce.rlist l) ∈ μ) (hz : l.length ≤ 16777216) (q : Q (.int l.length) μ ℓ) : XL W RV Φ ns gs μ ℓ [.val (.ref a)] (fun xs => call (.builtin "len") xs) Q := by
  intro s F xs G O I hx;apply gG;intro nG
  obtain ⟨x,rfl,ha⟩ := isL1 hx;obtain ⟨_,rfl⟩ := ha.inv;obtain ⟨o,ho,hc⟩ := I.cell hm;obtain ⟨hc,vs,n,hd,hl⟩ := hc;apply nG;clear nG;have e : vs.size = l.length := by rw [← hl.length,Array.length_toList]
  refine .of (call_len_list ⟨_,ho,hc,_,hd⟩ (by exact q506 hz e) ?_);rw [e];exact res_tok I .int q
theorem p_rlist {a : Addr} {l : List V} {i : Int} {v : V} {Q : Unit → Mu → Loc → Prop} (h0 : 0 ≤ i) (h1 : i < l.length) (hz : l.length ≤ 1000000) (U : UpdM μ a (.rlist l) (.rlist (l.set i.toNat v)) μ') (q : Q () μ' ℓ) : X3 W RU Φ ns gs μ ℓ (.val (.ref a)) (.int i) v setItem Q := by
  intro s F x y z G O I hx hy hv;obtain ⟨_,rfl⟩ := hx.inv; obtain ⟨_,rfl⟩ := hy.inv;apply gG;intro nG
  obtain ⟨o,ho,hc⟩ := I.cell U.mem;obtain ⟨hc,vs,n,hd,hl⟩ := hc;apply nG;clear nG;have e : vs.size = l.length := by rw [← hl.length,Array.length_toList]
  refine .of (wpAny_setItem_list ⟨_,ho,hc,_,hd⟩ h0 (by exact q513 h1 hz) (by exact q514 h1 e) fun h' hp hs => ?_);apply gG;intro nG
  obtain ⟨o',ho',hc',n',hd'⟩ := hp;have na : a ∈ addrs μ := List.mem_map_of_mem (f := Prod.fst) U.mem;have ex : Ext F s.heap F h' := ⟨fun u_ z => z,fun b x fb q => (hs.2 b fun e => (I.st.froz b fb).2 (e ▸ na)).trans q⟩
  obtain ⟨I',ex'⟩ := I.turned (k := s.toks) U ho' (fun b x ne e => (hs.2 b ne).trans e) ⟨hc',_,_,hd',by rw [Array.toList_setIfInBounds]; exact (hl.set hv).ext ex⟩;apply nG;clear nG;exact ⟨F,(),μ',ℓ,I',ex',trivial,q⟩
theorem x_froz {x : Str} {pos : Pos} {a : Addr} {l : List V} {Q : V → Mu → Loc → Prop} (g : LocGet ns ℓ x (.val (.ref a))) (pm : ((a,Ce.list l) :: μ').Perm μ) (q : Q (.lst l) μ' ℓ) : X W RV Φ ns gs μ ℓ (eval (.Name x pos) Φ.env) Q := by
  intro s F G O I;have I₁ := I.perm pm;apply gG;intro nG
  obtain ⟨o,ho,hc⟩ := I₁.st.mu _ (.head _);obtain ⟨vs,n,rfl,hl⟩ := hc;obtain ⟨I₂,ex⟩ := I₁.freeze;obtain ⟨m,hm,hL⟩ := I₂.loc;obtain ⟨y,hy,hv⟩ := hL.get g;obtain ⟨_,rfl⟩ := hv.inv;apply nG;clear nG;exact .of <| wpAny_Name (wpAny_loadName_local O.kind (O.loc x g.mem).1 hm hy ⟨_,_,_,_,I₂,ex,.lst (n := n) (vs := vs.toList) (.inr rfl) ho rfl (by simp) (hl.ext ex),q⟩) (O.loc x g.mem).2
theorem o_mul_list {a : Addr} {l : List V} {n : Int} {Q : V → Mu → Loc → Prop} (hm : (a,Ce.list l) ∈ μ) (h0 : 0 ≤ n) (hz : l.length * n.toNat ≤ 256) (h1 : n < 1000) (q : ∀ a',Q (.val (.ref a')) ((a',.rlist (List.replicate n.toNat l).flatten) :: μ) ℓ) : X2 W RV Φ ns gs μ ℓ (.val (.ref a)) (.int n) (binaryOp .Mult) Q := by
  intro s F x y G O I hx hy;obtain ⟨_,rfl⟩ := hx.inv; obtain ⟨_,rfl⟩ := hy.inv;apply gG;intro nG
  obtain ⟨o,ho,hc⟩ := I.cell hm;obtain ⟨vs,k,rfl,hl⟩ := hc;obtain ⟨m,hmm,hL⟩ := I.loc;apply nG;clear nG;refine .of (KMa.mul (In.fr hmm) (others_news s.heap Φ.env.locals) (vs := vs.toList) ⟨_,ho,rfl,k,by simp⟩ (by exact q503 h0) (by exact q515 h1) (by rw [hl.length]; exact hz) rfl fun D h' F' N' lt => ?_);have fr : s.heap.get? D = none := by
    cases q : s.heap.get? D with
    | none => rfl
    | some x => exact absurd (lt _ (others_mem.mpr ⟨(N' _ (.head _)).2.1,q⟩)) (Nat.lt_irrefl _)
  have rep : Ext F s.heap F h' → ∀ k : Nat,IsL h' F (List.replicate k l).flatten (List.replicate k vs.toList).flatten := by
    intro ex k;induction k with
    | zero => exact .nil
    | succ k ih => rw [List.replicate_succ,List.replicate_succ,List.flatten_cons,List.flatten_cons]; exact (hl.ext ex).append ih
  obtain ⟨I',ex⟩ := I.ledger (k := s.toks) (c := .rlist (List.replicate n.toNat l).flatten) O hL F'.ns N' fr fun ex => ⟨rfl,_,_,rfl,rep ex n.toNat⟩
  exact ⟨F,_,_,ℓ,I',ex,.val,q _⟩
inductive ListV (μ : Mu) : V → List V → Prop
  | lst {l : List V} : ListV μ (.lst l) l
  | list {a : Addr} {l : List V} (h : (a,Ce.list l) ∈ μ) : ListV μ (.val (.ref a)) l
  | rlist {a : Addr} {l : List V} (h : (a,Ce.rlist l) ∈ μ) : ListV μ (.val (.ref a)) l
theorem ListV.is {o : V} {l : List V} {x : Value} (v : ListV μ o l) (I : In W Φ ns F μ ℓ s) (hx : Is s.heap F o x) : ∃ a vs,x = .ref a ∧ s.heap.IsList a vs ∧ IsL s.heap F l vs.toList := by
  cases v with
  | lst => cases hx with | @lst _ a vs n o hF ho hc hd hl => exact ⟨a,vs.toArray,rfl,⟨_,ho,hc,_,hd⟩,by simpa using hl⟩
  | list h => obtain ⟨_,rfl⟩ := hx.inv; (apply gG;intro nG;obtain ⟨o,ho,hc⟩ := I.cell h <;> refine nG ?_ <;> clear nG); (apply gG;intro nG;obtain ⟨vs,n,rfl,hl⟩ := hc <;> refine nG ?_ <;> clear nG); exact ⟨_,vs,rfl,⟨_,ho,rfl,_,rfl⟩,hl⟩
  | rlist h => obtain ⟨_,rfl⟩ := hx.inv; (apply gG;intro nG;obtain ⟨o,ho,hc⟩ := I.cell h <;> refine nG ?_ <;> clear nG); (apply gG;intro nG;obtain ⟨hc,vs,n,hd,hl⟩ := hc <;> refine nG ?_ <;> clear nG); exact ⟨_,vs,rfl,⟨_,ho,hc,_,hd⟩,hl⟩
theorem o_add_list {v v' : V} {l l' : List V} {Q : V → Mu → Loc → Prop} (hv : ListV μ v l) (hv' : ListV μ v' l') (hz : l.length + l'.length ≤ 1000000) (q : ∀ a',Q (.val (.ref a')) ((a',.list (l ++ l')) :: μ) ℓ) : X2 W RV Φ ns gs μ ℓ v v' (binaryOp .Add) Q := by
  intro s F x y G O I hx hy;apply gG;intro nG
  obtain ⟨a,vs,rfl,ha,hl⟩ := hv.is I hx;obtain ⟨b,ws,rfl,hb,hl'⟩ := hv'.is I hy;obtain ⟨m,hmm,hL⟩ := I.loc;apply nG;clear nG;refine .of (add_lists (In.fr hmm) (others_news s.heap Φ.env.locals) (vs := vs.toList) (ws := ws.toList) (by simpa using ha) (by simpa using hb) (fun h' F' N' => ?_) (by rw [hl.length,hl'.length,sizeLine_eq]; (exact Nat.le_trans (by assumption) (by decide))));obtain ⟨I',ex⟩ := I.ledger (k := s.toks) (c := .list (l ++ l')) O hL F'.ns N' (get_fresh _) fun ex => ⟨_,_,rfl,by simpa using (hl.append hl').ext ex⟩
  exact ⟨F,_,_,ℓ,I',ex,.val,q _⟩
theorem l_len_listV {v : V} {l : List V} {Q : V → Mu → Loc → Prop} (hv : ListV μ v l) (hz : l.length ≤ 16777216) (q : Q (.int l.length) μ ℓ) : XL W RV Φ ns gs μ ℓ [v] (fun xs => call (.builtin "len") xs) Q := by
  intro s F xs G O I hx;apply gG;intro nG
  obtain ⟨x,rfl,ha⟩ := isL1 hx;obtain ⟨a,vs,rfl,ho,hl⟩ := hv.is I ha;apply nG;clear nG;have e : vs.size = l.length := by rw [← hl.length,Array.length_toList]
  refine .of (call_len_list ho (by exact q506 hz e) ?_);rw [e];exact res_tok I .int q
theorem s_listV {v z : V} {l : List V} {i : Int} {Q : V → Mu → Loc → Prop} (hv : ListV μ v l) (h0 : 0 ≤ i) (h1 : i < 2 ^ 40) (hz : l[i.toNat]? = some z) (q : Q z μ ℓ) : X2 W RV Φ ns gs μ ℓ v (.int i) getItem Q := by
  intro s F x y G O I hx hy;apply gG;intro nG
  obtain ⟨_,rfl⟩ := hy.inv;obtain ⟨a,vs,rfl,ho,hl⟩ := hv.is I hx;obtain ⟨y,hy,hi⟩ := hl.at hz;apply nG;clear nG;exact .of (wpAny_getItem_list ho h0 (by exact q504 h1) (by rw [← Array.getElem?_toList]; exact hy) (res_here I hi q))
theorem l_tuple_list {v : V} {l : List V} {Q : V → Mu → Loc → Prop} (hv : ListV μ v l) (hz : l.length ≤ 1000000) (q : Q (.tup l) μ ℓ) : XL W RV Φ ns gs μ ℓ [v] (fun xs => call (.type "tuple") xs) Q := by
  intro s F xs G O I hx;apply gG;intro nG
  obtain ⟨x,rfl,ha⟩ := isL1 hx;obtain ⟨a,vs,rfl,ho,hl⟩ := hv.is I ha;apply nG;clear nG;refine .of (call_tuple_list ho (fun h' hk => ?_) (by rw [← Array.length_toList,hl.length,sizeLine_eq]; exact q512 hz));obtain ⟨I',ex⟩ := I.more (k := s.toks) hk;have hl' := hl.ext ex;have r := res_born (R := RV) (o := { cls := .type "tuple",data := .seq vs }) (k := s.toks) I' rfl (by simpa using is_tup (s := { s with heap := h' }) hl') q;exact r.ext ex
theorem s_cutList {v l u : V} {xs : List V} {lo hi : Option Int} {Q : V → Mu → Loc → Prop} (hv : ListV μ v xs) (hl : PartV l lo) (hu : PartV u hi) (hz : xs.length ≤ 1000000)
    (q : ∀ a',Q (.val (.ref a')) ((a',.list ((xs.drop (lo.elim 0 (clipAt xs.length))).take (hi.elim xs.length (clipAt xs.length) - lo.elim 0 (clipAt xs.length)))) :: μ) ℓ) : X2 W RV Φ ns gs μ ℓ v (.slc l u) getItem Q := by
  intro s F x y G O I hx hy;apply gG;intro nG
  obtain ⟨a,vs,rfl,ho,hL⟩ := hv.is I hx;apply nG;clear nG;cases hy with
  | slc hF hp hl' hu' =>
    have e : vs.size = xs.length := by rw [← hL.length,Array.length_toList]
    refine .of (wpAny_getItem_list_slice ho ⟨_,hp,rfl,rfl⟩ (hl.is hl') (hu.is hu') .none (fun z => nomatch z) ?_ (by rw [e,sizeLine_eq]; (exact q512 hz)));rw [slicePick_plain,e];exact res_made (k := s.toks) I rfl (c := .list _) ⟨_,_,rfl,by simpa using (hL.drop _).take _⟩ .val (q _)
end
end
section
open PySem PySem.W PyProof.Rows PySem.Calls Builtin
theorem typ_str : typeOf (.type "str") = pure (.type "type") := by kernel_rfl
theorem typ_bytes : typeOf (.type "bytes") = pure (.type "type") := by kernel_rfl
theorem typ_ba : typeOf (.type "bytearray") = pure (.type "type") := by kernel_rfl
theorem sub_str_str : isSubtype (.type "str") (.type "str") = pure true := by rw [isSubtype_type]; kernel_rfl
theorem sub_bytes_bytes : isSubtype (.type "bytes") (.type "bytes") = pure true := by rw [isSubtype_type]; kernel_rfl
theorem sub_bytes_ba : isSubtype (.type "bytes") (.type "bytearray") = pure false := by rw [isSubtype_type]; kernel_rfl
noncomputable def dSeq : Data → Option (List Value × Nat)
  | .seq vs n => some (vs.toList,n)
  | _ => none
theorem dSeq_of {d : Data} {vs : List Value} {n : Nat} (h : dSeq d = some (vs,n)) : d = .seq vs.toArray n := by cases d <;> first | exact nso h | (cases h; rfl)
noncomputable def tupleAt (K : Frag) (a : Addr) (cs : List Value) : Bool := (K.lookup a).any fun o => o.cls == .type "tuple" && (o.dict == none && (dSeq o.data == some (cs,0) && o.slots.isEmpty))
set_option tactic.hygienic true in
theorem tupleAt_of {K : Frag} {h : Heap} {a : Addr} {cs : List Value} (X : K.In h) (e : tupleAt K a cs = true) : h.get? a = some { cls := .type "tuple",data := .seq cs.toArray } := by
  apply gG;intro nG
  obtain ⟨⟨c,d,dt,sl⟩,ho,e⟩ := (Option.any_eq_true _ _).mp e;obtain ⟨e1,e⟩ := Bool.and_eq_true_iff.mp e;obtain ⟨e2,e⟩ := Bool.and_eq_true_iff.mp e;obtain ⟨e3,e⟩ := Bool.and_eq_true_iff.mp e;apply nG;clear nG;refine (X _ _ ho).trans ?_;rw [show c = _ from beq_iff_eq.mp e1,show d = _ from beq_iff_eq.mp e2,show dt = _ from dSeq_of (beq_iff_eq.mp e3),show sl = _ from Array.isEmpty_iff.mp e]
section
variable {W : Wd} {Φ : Fx} {ns : List Str} {gs : List (Str × Value)} {μ μ' μ₁ ν : Mu} {ℓ ℓ' : Loc} {F F' : Addr → Prop} {s s' : Shared} {α β : Type} {R : Heap → (Addr → Prop) → β → α → Prop}
theorem c_le_bool {a b : Bool} {Q : V → Mu → Loc → Prop} (q : Q (.bool (decide (b2i a ≤ b2i b))) μ ℓ) : X2 W RV Φ ns gs μ ℓ (.bool a) (.bool b) (compareOp .LtE) Q := by
  intro s F x y G O I hx hy; obtain ⟨_,rfl⟩ := hx.inv; obtain ⟨_,rfl⟩ := hy.inv; refine .of (le_bool ?_); exact res_here I .bool q
theorem c_ne_bool {a b : Bool} {Q : V → Mu → Loc → Prop} (q : Q (.bool (a != b)) μ ℓ) : X2 W RV Φ ns gs μ ℓ (.bool a) (.bool b) (compareOp .NotEq) Q := by
  intro s F x y G O I hx hy; obtain ⟨_,rfl⟩ := hx.inv; obtain ⟨_,rfl⟩ := hy.inv; refine .of (ne_bool ?_); exact res_here I .bool q
theorem l_int {i : Int} {Q : V → Mu → Loc → Prop} (q : Q (.int i) μ ℓ) : XL W RV Φ ns gs μ ℓ [.int i] (fun xs => call (.type "int") xs) Q := by
  intro s F xs G O I hx;apply gG;intro nG
  obtain ⟨x,rfl,ha⟩ := isL1 hx;obtain ⟨_,rfl⟩ := ha.inv;apply nG;clear nG;exact .of (call_int_int (res_here I .int q))
theorem l_bool {b : Bool} {Q : V → Mu → Loc → Prop} (q : Q (.bool b) μ ℓ) : XL W RV Φ ns gs μ ℓ [.bool b] (fun xs => call (.type "bool") xs) Q := by
  intro s F xs G O I hx;apply gG;intro nG
  obtain ⟨x,rfl,ha⟩ := isL1 hx;obtain ⟨_,rfl⟩ := ha.inv;apply nG;clear nG;exact .of (call_bool_bool (res_here I .bool q))
set_option tactic.hygienic true in
theorem l_isi_str {x : Str} {a : Addr} {Q : V → Mu → Loc → Prop} (ht : tupleAt W.K a [.type "str"] = true) (q : Q (.bool true) μ ℓ) : XL W RV Φ ns gs μ ℓ [.str x,.val (.ref a)] (fun xs => call (.builtin "isinstance") xs) Q := by
  intro s F xs G O I hx;apply gG;intro nG
  obtain ⟨y,z,rfl,ha,hb⟩ := isL2 hx;apply nG;clear nG;obtain ⟨_,rfl⟩ := ha.inv; obtain ⟨_,rfl⟩ := hb.inv
  rename_i t
  have htp := tupleAt_of (I.K G) ht;refine .of (call_isinstance (S := fun u_ R s' => s'.heap.get? a = some { cls := .type "tuple",data := .seq [Value.type "str"].toArray } ∧ ∀ tk,R (.ok (.ret (.bool true))) { s' with toks := tk }) (fun u_ u_ u_ u_ s' hs => ?_) ⟨htp,fun tk => res_tok I .bool q⟩);refine PySem.isinstance_outer (isinstance_nested_tuple (P := fun u_ => True) (Tx := "str") (vs := [true]) (fun u_ u_ h => h) rfl hs.1 ⟨fun dep tk => .of_wp fun prog w A R s'' z => ?_,trivial⟩ trivial fun tk => hs.2 tk) (fun e => by cases e);exact isinstance_nested_true rfl rfl typ_str sub_str_str ⟨_,rfl,z.2 s''.toks⟩
set_option tactic.hygienic true in
theorem l_isi_bytes {x : List UInt8} {a : Addr} {Q : V → Mu → Loc → Prop} (ht : tupleAt W.K a [.type "bytes",.type "bytearray"] = true) (q : Q (.bool true) μ ℓ) : XL W RV Φ ns gs μ ℓ [.bytes x,.val (.ref a)] (fun xs => call (.builtin "isinstance") xs) Q := by
  intro s F xs G O I hx;apply gG;intro nG
  obtain ⟨y,z,rfl,ha,hb⟩ := isL2 hx;apply nG;clear nG;obtain ⟨_,rfl⟩ := ha.inv; obtain ⟨_,rfl⟩ := hb.inv
  rename_i t
  have htp := tupleAt_of (I.K G) ht;refine .of (call_isinstance (S := fun u_ R s' => s'.heap.get? a = some { cls := .type "tuple",data := .seq [Value.type "bytes",Value.type "bytearray"].toArray } ∧ ∀ tk,R (.ok (.ret (.bool true))) { s' with toks := tk }) (fun u_ u_ u_ u_ s' hs => ?_) ⟨htp,fun tk => res_tok I .bool q⟩);refine PySem.isinstance_outer (isinstance_nested_tuple (P := fun u_ => True) (Tx := "bytes") (vs := [true,false]) (fun u_ u_ h => h) rfl hs.1 ⟨fun dep tk => .of_wp fun prog w A R s'' z => ?_,fun dep tk => .of_wp fun prog w A R s'' z => ?_,trivial⟩ trivial fun tk => hs.2 tk) (fun e => by cases e)
  · exact isinstance_nested_true rfl rfl typ_bytes sub_bytes_bytes ⟨_,rfl,z.2 s''.toks⟩
  · apply gG;intro nG
    obtain ⟨hh,g,d,tt,os⟩ := s'';apply nG;clear nG;exact isinstance_nested_false_bytes (by decide) typ_ba sub_bytes_ba ⟨_,rfl,z.2 (tt + 1)⟩
theorem x_Dict0 {pos : Pos} {Q : V → Mu → Loc → Prop} (q : ∀ a,Q (.val (.ref a)) ((a,.dict []) :: μ) ℓ) : X W RV Φ ns gs μ ℓ (eval (.Dict [] [] pos) Φ.env) Q := by
  intro s F G O I;rw [eval_Dict_empty];refine .stand (.of ?_);unfold newDict;refine wpAny_newObj_type ?_;exact res_made (k := s.toks) I rfl (c := .dict []) ⟨#[],0,rfl,.nil,List.nodup_nil⟩ .val (q _)
end
theorem ba_no_bytes : typeLookup (.type "bytearray") "__bytes__" = pure none := by rw [typeLookup_type,builtinLookup_eq_fast]; kernel_rfl
theorem ba_no_index : typeLookup (.type "bytearray") "__index__" = pure none := by rw [typeLookup_type,builtinLookup_eq_fast]; kernel_rfl
section
variable {prog : Program} {w : World} {A : Around} {E : Value → Shared → Prop} {s : Shared}
theorem by_new_ba {a : Addr} {b : Array UInt8} {Q : Value → Shared → Prop} (ho : s.heap.get? a = some ⟨.type "bytearray",none,.bytearray b 0,#[]⟩) (hz : b.size ≤ 16777216) (h : ∀ t k,Q (.bytes b t) { s with toks := k }) :
    codeAny (model prog w) A (.call (.builtin "bytes.__new__") ⟨[.type "bytes",.ref a],[]⟩) (wants Q E) s := by
  refine codeAny_of_tree ?_;show wpAny _ A.in1 (do checkBuiltinCall "bytes.__new__" ⟨[.type "bytes",.ref a],[]⟩; again (.builtin "bytes.__new__" ⟨[.type "bytes",.ref a],[]⟩)) _ _ s;refine wpAny_bind (wpAny_of_eq (F.bm_newCall _) (wpAny_pure ⟨plainId_quiet F.bm_plain _,codeAny_builtin F.bm_entry ?_⟩));rw [Around.under_plainId F.bm_plain _];apply gG;intro nG
  obtain ⟨hh,g,dr,t,os⟩ := s;apply nG;clear nG;dsimp only at ho;have T := ba_typeOf (M := model prog w) ho;have L0 : Looks (model prog w) hh (specialOf (.ref a) (Str.ofString "__bytes__")) none := T.andThen (Looks.of_pure ba_no_bytes);have L1 : Looks (model prog w) hh (specialOf (.ref a) (Str.ofString "__index__")) none := T.andThen (Looks.of_pure ba_no_index);have L2 : Looks (model prog w) hh (Bytes.buffer? "bytes.__new__" (.ref a) true) (some b) := by
    have h1 : Looks (model prog w) hh (specialOf (.ref a) (Str.ofString "__buffer__")) (some (.builtin "bytearray.__buffer__")) := T.andThen (Looks.of_pure ba_buffer);have h2 : Looks (model prog w) hh (Bytes.slotIsOwn (.ref a) "__buffer__") true := by
      unfold Bytes.slotIsOwn;refine h1.andThen ?_;dsimp only;rw [show ("bytearray.__buffer__".endsWith ("." ++ "__buffer__")) = true by decide +kernel,show ("bytearray.__buffer__".dropRight ("__buffer__".length + 1)) = "bytearray" by decide +kernel,if_neg (by decide)];exact T.andThen (Looks.of_pure ba_sub)
    unfold Bytes.buffer?;refine h1.andThen ?_;dsimp only;refine h2.andThen ?_;rw [if_neg (by decide)];refine h1.andThen ?_;refine (ba_no_release ho).andThen ?_;rw [if_neg (by decide)];exact (ba_payload ho).andThen .now
  have L3 : Looks (model prog w) hh (asStr? (.ref a)) none := (Looks.ld (part := none) ho).andThen .now;have L4 : Looks (model prog w) hh (isSubtype (.type "bytes") (.type "bytes")) true := Looks.of_pure sub_bytes_bytes;unfold Builtin.«bytes.__new__»;dsimp only;refine wpAny_bind (wpAny_of_eq (a := true) rfl ?_);rw [if_neg (by decide)];refine wpAny_bind (L4.here ?_);rw [if_neg (by decide),F.bm_bind];refine wpAny_bind (wpAny_pure ?_);dsimp only;refine wpAny_bind (wpAny_pure ?_);refine wpAny_bind (wpAny_pure ?_);rw [if_neg (by decide)];refine wpAny_bind (L0.here ?_);dsimp only;refine wpAny_bind (wpAny_bind (L3.here (wpAny_pure ?_)));rw [if_neg (by decide)];refine wpAny_bind (L1.here ?_);rw [if_pos (by rfl)]
  k_delta "fromObject"
  refine wpAny_bind (L2.here ?_);dsimp only;refine wpAny_bind (wpAny_rule ?_);refine wpAny_bind (wpAny_mkBytes ?_ (by rw [sizeLine_eq]; exact q516 hz));show wpAny _ _ (if (Value.type "bytes" == Value.type "bytes") = true then _ else _) _ _ _;refine bm_if_true (by decide) ?_
  first
    | exact wpAny_pure (h _ _)
    | exact wpAny_bind (wpAny_pure (wpAny_pure (h _ _)))
theorem by_make_ba {a : Addr} {b : Array UInt8} {Q : Value → Shared → Prop} (ho : s.heap.get? a = some ⟨.type "bytearray",none,.bytearray b 0,#[]⟩) (hz : b.size ≤ 16777216) (h : ∀ t k,Q (.bytes b t) { s with toks := k }) :
    wpAny (model prog w) A (call (.type "bytes") [.ref a]) Q E s := by
  refine callType_codes (Q₁ := fun obj s₁ => s₁.TypeIs obj "bytes" ∧ Q obj s₁) F.bm_called (F.bm_typeCall _) F.entry_object_init
    (by_new_ba ho hz fun t k => ⟨PySem.W.typeIs_bytes _ _ _,h t k⟩) fun obj s₁ h₁ => ?_
  exact ⟨h₁.1,F.args_object_init_2 obj _,object_init_meets F.bm_called.init.lookup F.bm_called.made (by decide) prog w A.in1 _ s₁ ⟨h₁.1,rfl,h₁.2⟩⟩
end
end
section
open PySem PySem.W PyProof.Rows PySem.Calls Builtin
section
variable {W : Wd} {Φ : Fx} {ns : List Str} {gs : List (Str × Value)} {μ μ' μ₁ ν : Mu} {ℓ ℓ' : Loc} {F F' : Addr → Prop} {s s' : Shared} {α β : Type} {R : Heap → (Addr → Prop) → β → α → Prop}
noncomputable def XK (W : Wd) (Φ : Fx) (ns : List Str) (gs : List (Str × Value)) (μ : Mu) (ℓ : Loc) (l k : List V) (t : List Value → List Value → Sem Value) (Q : V → Mu → Loc → Prop) : Prop :=
  ∀ s F xs ks,Gd W → FxOk W.H₀ Φ ns gs → In W Φ ns F μ ℓ s → IsL s.heap F l xs → IsL s.heap F k ks → wN (W.M) Φ.A (t xs ks) (Res W RV Φ ns F s.heap Q) (fun u_ u_ => False) s
theorem xkw_nil {Q : List V → Mu → Loc → Prop} (q : Q [] μ ℓ) : X W RL Φ ns gs μ ℓ (evalAll []) Q := fun s F G O I => .pure (res_here I .nil q)
theorem xkw_cons {pos : Pos} {e : Expr} {rest : List (Sem Value)} {Q : List V → Mu → Loc → Prop} (h : X W RV Φ ns gs μ ℓ (eval e Φ.env) fun v μ ℓ => X W RL Φ ns gs μ ℓ (evalAll rest) fun vs => Q (v :: vs)) :
    X W RL Φ ns gs μ ℓ (evalAll ((do let v ← eval e Φ.env; standAt pos; pure v) :: rest)) Q := by
  intro s F G O I;show wN _ _ ((eval e Φ.env >>= fun v => standAt pos >>= fun u_ => pure v) >>= fun v => holding [v] (evalAll rest) >>= fun vs => pure (v :: vs)) _ _ _;refine .bind (.bind (stepQ (h s F G O I) fun s₁ F₁ x μ₁ ℓ₁ a i₁ e₁ hx q₁ => .stand (.pure ?_)));refine .bind (.holding (stepQ (q₁ s₁ F₁ G O i₁) fun s₂ F₂ y μ₂ ℓ₂ b i₂ e₂ hy q₂ => .pure ?_));exact ⟨F₂,_,μ₂,ℓ₂,i₂,e₁.trans e₂,.cons (hx.ext e₂) hy,q₂⟩
theorem evalArgs_kwN {A : Around} {E : Value → Shared → Prop} {f : Value} {args : List (Bool × Sem Value)} {kws : List (Option Str × Sem Value)} {Q : Args → Shared → Prop} (hp : args.any (·.1) = false) (hall : kws.all (·.1.isSome) = true)
    (h : wN W.M A (spliced args) (fun vs s₁ => wN W.M A (evalAll (kws.map (·.2))) (fun ks s₂ => Q ⟨vs,(kws.filterMap (·.1)).zip ks⟩ s₂) E s₁) E s) : wN W.M A (evalArgs f true args kws) Q E s := by
  have main : wN W.M A (spliced args >>= fun pos => holding (pos ++ ([] : List Value)) (if kws.all (·.1.isSome) = true then (evalAll (kws.map (·.2)) >>= fun ks => (pure pos : Sem (List Value)) >>= fun p => pure (⟨p,(kws.filterMap (·.1)).zip ks⟩ : Args)) else unsupported "")) Q E s := by
    refine .bind (wN.mono h (fun vs s' h' => .holding ?_) fun u_ u_ x => x);rw [if_pos hall];exact .bind (wN.mono h' (fun ks s₂ h₂ => .bind (.pure (.pure h₂))) fun u_ u_ x => x)
  cases args with
  | nil =>
    unfold evalArgs;show wN _ _ (spliced [] >>= _) Q E s;refine .bind (wN.mono h (fun vs s' h' => .holding ?_) fun u_ u_ x => x);simp only [hall,if_true];exact .bind (wN.mono h' (fun ks s₂ h₂ => .bind (.pure (.pure h₂))) fun u_ u_ x => x)
  | cons p r =>
    apply gG;intro nG
    obtain ⟨st,t⟩ := p;simp only [List.any_cons,Bool.or_eq_false_iff] at hp;obtain ⟨rfl,_⟩ := hp;apply nG;clear nG;unfold evalArgs;show wN _ _ (spliced ((false,t) :: r) >>= _) Q E s;refine .bind (wN.mono h (fun vs s' h' => .holding ?_) fun u_ u_ x => x);simp only [hall,if_true];exact .bind (wN.mono h' (fun ks s₂ h₂ => .bind (.pure (.pure h₂))) fun u_ u_ x => x)
theorem x_callK {func : Expr} {args : List Expr} {kws : List Keyword} {pos : Pos} {names : List Str} {Q : V → Mu → Loc → Prop}
    (h : X W RV Φ ns gs μ ℓ (eval func Φ.env) fun fv μ ℓ => ∃ f,fv = .val f ∧ Keeps W f ∧ X W RL Φ ns gs μ ℓ (spliced (backTo pos (starEach args Φ.env))) fun vs μ ℓ =>
      X W RL Φ ns gs μ ℓ (evalAll ((backToKw pos (keywordEach kws Φ.env)).map (·.2))) fun ks μ ℓ => XK W Φ ns gs μ ℓ vs ks (fun xs ks => call f xs (names.zip ks)) Q)
    (hn : (backToKw pos (keywordEach kws Φ.env)).filterMap (·.1) = names := by rfl) (hall : (backToKw pos (keywordEach kws Φ.env)).all (·.1.isSome) = true := by rfl)
    (he : eval (.Call func args kws pos) Φ.env = (do callWith pos (← eval func Φ.env) [] (backTo pos (starEach args Φ.env)) (backToKw pos (keywordEach kws Φ.env))) := by rfl)
    (hp : (backTo pos (starEach args Φ.env)).any (·.1) = false := by rfl) : X W RV Φ ns gs μ ℓ (eval (.Call func args kws pos) Φ.env) Q := by
  intro s F G O I;rw [he];refine .bind (stepQ (h s F G O I) fun s₁ F₁ x μ₁ ℓ₁ a i₁ e₁ hx q₁ => ?_);apply gG;intro nG
  obtain ⟨f,rfl,hk,q₁⟩ := q₁;obtain ⟨_,rfl⟩ := hx.inv;apply nG;clear nG;refine callN (keeps_of hk) (evalArgs_kwN hp hall ?_);refine stepQ (q₁ s₁ F₁ G O i₁) fun s₂ F₂ xs μ₂ ℓ₂ b i₂ e₂ hxs q₂ => ?_
  refine stepQ (q₂ s₂ F₂ G O i₂) fun s₃ F₃ ks μ₃ ℓ₃ c i₃ e₃ hks q₃ => ?_
  rw [hn];exact ⟨i₃.K G,wN.mono (q₃ s₃ F₃ xs ks G O i₃ (hxs.ext e₃) hks) (fun u_ u_ z => z.ext ((e₁.trans e₂).trans e₃)) (fun u_ u_ z => z)⟩
theorem x_mcallK {o : Expr} {name : Str} {apos : Pos} {args : List Expr} {kws : List Keyword} {pos : Pos} {names : List Str} {Q : V → Mu → Loc → Prop} {pl : Sem Bool}
    (h : X W RV Φ ns gs μ ℓ (eval o Φ.env) fun ov μ ℓ => X1 W RM Φ ns gs μ ℓ ov (fun v => getMethod v name pl) fun fl μ ℓ => Keeps W fl.1 ∧
      X W RL Φ ns gs μ ℓ (spliced (backTo pos (starEach args Φ.env))) fun vs μ ℓ =>
      X W RL Φ ns gs μ ℓ (evalAll ((backToKw pos (keywordEach kws Φ.env)).map (·.2))) fun ks μ ℓ => XK W Φ ns gs μ ℓ (fl.2 ++ vs) ks (fun xs ks => call fl.1 xs (names.zip ks)) Q)
    (hn : (backToKw pos (keywordEach kws Φ.env)).filterMap (·.1) = names := by rfl) (hall : (backToKw pos (keywordEach kws Φ.env)).all (·.1.isSome) = true := by rfl)
    (he : eval (.Call (.Attribute o name apos) args kws pos) Φ.env = (do
      let ov ← eval o Φ.env
      standAt apos.atName
      let (f,first) ← holding [ov] (getMethod ov name pl)
      callWith pos f first (backTo pos (starEach args Φ.env)) (backToKw pos (keywordEach kws Φ.env))) := by rfl)
    (hp : (backTo pos (starEach args Φ.env)).any (·.1) = false := by rfl) : X W RV Φ ns gs μ ℓ (eval (.Call (.Attribute o name apos) args kws pos) Φ.env) Q := by
  intro s F G O I;rw [he];refine .bind (stepQ (h s F G O I) fun s₁ F₁ x μ₁ ℓ₁ a i₁ e₁ hx q₁ => .stand (.bind (.holding ?_)));refine stepQ (q₁ s₁ F₁ x G O i₁ hx) fun s₂ F₂ fl μ₂ ℓ₂ b i₂ e₂ hfl q₂ => ?_
  apply gG;intro nG
  obtain ⟨f,first⟩ := fl;obtain ⟨fb,lb⟩ := b;obtain ⟨r1,r2⟩ := hfl;apply nG;clear nG;cases r1;obtain ⟨hk,q₂⟩ := q₂;refine callN (keeps_of hk) (evalArgs_kwN hp hall ?_);refine stepQ (q₂ s₂ F₂ G O i₂) fun s₃ F₃ xs μ₃ ℓ₃ b i₃ e₃ hxs q₃ => ?_
  refine stepQ (q₃ s₃ F₃ G O i₃) fun s₄ F₄ ks μ₄ ℓ₄ c i₄ e₄ hks q₄ => ?_
  rw [hn];exact ⟨i₄.K G,wN.mono (q₄ s₄ F₄ (first ++ xs) ks G O i₄ (((r2.ext e₃).append hxs).ext e₄) hks) (fun u_ u_ z => z.ext (((e₁.trans e₂).trans e₃).trans e₄)) (fun u_ u_ z => z)⟩
theorem xargs_star {e : Expr} {p pos : Pos} {rest : List Expr} {Q : List V → Mu → Loc → Prop}
    (h : X W RV Φ ns gs μ ℓ (eval e Φ.env) fun v μ ℓ => ∃ l,v = .tup l ∧ l.length ≤ 1000 ∧ X W RL Φ ns gs μ ℓ (spliced (backTo pos (starEach rest Φ.env))) fun vs => Q (l ++ vs))
    (he : starEach (.Starred e p :: rest) Φ.env = (true,eval e Φ.env) :: starEach rest Φ.env := by rfl) : X W RL Φ ns gs μ ℓ (spliced (backTo pos (starEach (.Starred e p :: rest) Φ.env))) Q := by
  intro s F G O I;rw [he];show wN _ _ ((eval e Φ.env >>= fun v => standAt pos >>= fun u_ => pure v) >>= fun v => _) _ _ _;refine .bind (.bind (stepQ (h s F G O I) fun s₁ F₁ x μ₁ ℓ₁ a i₁ e₁ hx q₁ => .stand (.pure ?_)));apply gG;intro nG
  obtain ⟨l,rfl,hz,q₁⟩ := q₁;apply nG;clear nG;cases hx with
  | @tup _ a vs n o hF ho hc hd hl =>
    have hT : s₁.TypeIs (.ref a) "tuple" := ⟨_,ho,hc⟩
    refine .bind (.of ?_);unfold notIterableAtAll;refine wpAny_bind (wpAny_specialOf hT PyProof.Rows.slot_tuple_iter.lookup (wpAny_pure ?_));rw [if_neg (by decide)];refine .bind (.of ?_);refine wpAny_collect_seq a (.inr rfl) ho hc hd (fun h' hk => ?_) (by rw [List.size_toArray,hl.length,sizeLine_eq]; (exact Nat.le_trans (by assumption) (by decide)));obtain ⟨I',ex⟩ := i₁.more (k := s₁.toks) hk;refine .bind (.holding (stepQ (q₁ _ _ G O I') fun s₂ F₂ y μ₂ ℓ₂ b i₂ e₂ hy q₂ => .pure ?_));exact ⟨F₂,_,μ₂,ℓ₂,i₂,(e₁.trans ex).trans e₂,by simpa using ((hl.ext ex).ext e₂).append hy,q₂⟩
theorem a_name {x : Str} {pos : Pos} {v : V} {Q : Unit → Mu → Loc → Prop} (g : LocSet ns ℓ x v ℓ') (q : Q () μ ℓ') : X1 W RU Φ ns gs μ ℓ v (assign (.Name x pos) Φ.env) Q := by
  intro s F y G O I hv;rw [PySem.assign_Name];apply gG;intro nG
  obtain ⟨m,hm,hl⟩ := I.loc;apply nG;clear nG;refine .stand (.of fun Γ p hΓ => ?_);rw [Sem.wp_bindName];refine wpAny_storeName_local (Q := Res W RU Φ ns F s.heap Q) (O.loc x g.mem).1 hm (fun h' hn hs => ?_) (by rw [O.kind]; rfl) Γ p hΓ;obtain ⟨i,e⟩ := I.store (k := s.toks + 1) O hv g hl hn hs;exact ⟨F,(),μ,ℓ',i,e,trivial,q⟩
noncomputable def XA (W : Wd) (Φ : Fx) (ns : List Str) (gs : List (Str × Value)) (μ : Mu) (ℓ : Loc) (l : List V) (ts : List (Value → Sem Unit)) (Q : Unit → Mu → Loc → Prop) : Prop :=
  ∀ s F xs,Gd W → FxOk W.H₀ Φ ns gs → In W Φ ns F μ ℓ s → IsL s.heap F l xs → wN (W.M) Φ.A (assignInOrder ts xs) (Res W RU Φ ns F s.heap Q) (fun u_ u_ => False) s
theorem xa_nil {Q : Unit → Mu → Loc → Prop} (q : Q () μ ℓ) : XA W Φ ns gs μ ℓ [] [] Q := fun s F xs G O I hx => by cases hx; exact .pure (res_here I trivial q)
theorem a_tuple {elts : List Expr} {k : Nat} {pos : Pos} {l : List V} {Q : Unit → Mu → Loc → Prop} (h : XA W Φ ns gs μ ℓ l ((assignEach elts Φ.env).map (·.2)) Q)
    (hn : (assignEach elts Φ.env).length = l.length := by rfl) (hstar : (assignEach elts Φ.env).findIdx? (·.1) = none := by rfl) : X1 W RU Φ ns gs μ ℓ (.tup l) (assign (.Tuple elts k pos) Φ.env) Q := by
  intro s F y G O I hv;cases hv with
  | @tup _ a vs n o hF ho hc hd hl =>
    rw [assign_Tuple];refine .stand ?_;unfold unpack;have hs : (assignEach elts Φ.env).length = vs.toArray.size := by rw [hn,← hl.length,List.size_toArray]
    rw [hs,hstar];refine .bind (.holding (.of (unpackItems_tuple O.room.handled ⟨o,ho,hc,_,hd⟩ fun h' hk => ?_)));obtain ⟨I',ex⟩ := I.more (k := s.toks) (h' := h') fun b o e => hk b o (Nat.ne_of_lt (Heap.lt_size e)) e
    exact wN.mono (h _ F vs G O I' (hl.ext ex)) (fun u_ u_ z => z.ext ex) fun u_ u_ z => z
end
end
section
open PySem PySem.W PyProof.Rows PySem.Calls Builtin
section
variable {W : Wd} {Φ : Fx} {ns : List Str} {gs : List (Str × Value)} {μ μ' μ₁ ν : Mu} {ℓ ℓ' : Loc} {F F' : Addr → Prop} {s s' : Shared} {α β : Type} {R : Heap → (Addr → Prop) → β → α → Prop}
noncomputable abbrev kndT (W : Wd) : HeapKind W.prog W.w (List Int) := tupleKind (intKind W.prog W.w)
inductive IsD (h : Heap) (F : Addr → Prop) : List (List Int × V) → List (List Int × Addr × Value) → Prop
  | nil : IsD h F [] []
  | cons {ks : List Int} {v : V} {a : Addr} {x : Value} {l : List (List Int × V)} {xs : List (List Int × Addr × Value)} (hk : Is h F (.tup (ks.map V.int)) (.ref a)) (hv : Is h F v x) (hl : IsD h F l xs) : IsD h F ((ks,v) :: l) ((ks,a,x) :: xs)
section
variable {h : Heap} {F : Addr → Prop} {l : List (List Int × V)} {xs : List (List Int × Addr × Value)}
theorem IsD.ext {h' : Heap} {F' : Addr → Prop} (e : Ext F h F' h') (H : IsD h F l xs) : IsD h' F' l xs := H.rec .nil fun hk hv u_ i => .cons (hk.ext e) (hv.ext e) i
theorem IsE.toD (W : Wd) {es : List DictEntry} (H : IsE h F l es) : ∃ xs,IsD h F l xs ∧ es = xs.map (entryOfKey (kndT W)) := by
  induction H with
  | nil => exact ⟨[],.nil,rfl⟩
  | @cons ks v e l es hh hk hv hl ih =>
    apply gG;intro nG
    obtain ⟨xs,hx,rfl⟩ := ih;obtain ⟨eh,ek,ev⟩ := e;obtain ⟨a,rfl⟩ : ∃ a,ek = .ref a := by cases hk; exact ⟨_,rfl⟩
    apply nG;clear nG;cases (show eh = kHash ks from hh);exact ⟨(ks,a,ev) :: xs,.cons hk hv hx,rfl⟩
theorem IsD.toE (W : Wd) (H : IsD h F l xs) : IsE h F l (xs.map (entryOfKey (kndT W))) := H.rec .nil fun hk hv u_ i => .cons rfl hk hv i
theorem IsD.keys (H : IsD h F l xs) : xs.map (·.1) = l.map (·.1) := H.rec rfl fun u_ u_ u_ i => congrArg (List.cons _) i
theorem IsD.length (H : IsD h F l xs) : xs.length = l.length := H.rec rfl fun u_ u_ u_ i => congrArg (· + 1) i
theorem items_int (W : Wd) {ks : List Int} {vs : List Value} (H : IsL h F (ks.map V.int) vs) : ItemsAre (intKind W.prog W.w) ks vs := by
  induction ks generalizing vs with
  | nil => cases H; exact .nil
  | cons k ks ih => cases H with | cons hv hl => obtain ⟨_,rfl⟩ := hv.inv; exact .cons (by simp [intKind,Value.isInt]) (ih hl)
theorem tupKey (W : Wd) {ks : List Int} {a : Addr} (hk : Is h F (.tup (ks.map V.int)) (.ref a)) : (kndT W).is h ks a := by
  cases hk with
  | tup hF ho hc hd hl => exact ⟨_,_,_,ho,hc,hd,by simpa using items_int W hl⟩
theorem IsD.is (W : Wd) (H : IsD h F l xs) : ∀ x ∈ xs,(kndT W).is h x.1 x.2.1 := H.rec (fun u_ hx => nomatch hx) fun hk u_ u_ i x hx => (List.mem_cons.mp hx).elim (fun e => e ▸ tupKey W hk) (i x)
end
noncomputable def dGet (l : List (List Int × V)) (ks : List Int) : Option V := (l.find? fun x => decide (x.1 = ks)).map (·.2)
noncomputable def dPut (l : List (List Int × V)) (ks : List Int) (v : V) : List (List Int × V) := if (dGet l ks).isSome then l.map (fun p => if p.1 = ks then (p.1,v) else p) else l ++ [(ks,v)]
theorem IsD.get {h : Heap} {F : Addr → Prop} {ks : List Int} {l : List (List Int × V)} {xs : List (List Int × Addr × Value)} (H : IsD h F l xs) :
    (dGet l ks = none ∧ atKey xs ks = none) ∨ ∃ v a x,dGet l ks = some v ∧ atKey xs ks = some (a,x) ∧ Is h F v x := by
  induction H with
  | nil => exact .inl ⟨rfl,rfl⟩
  | @cons k v a x l xs hk hv hl ih =>
    by_cases e : k = ks
    · exact .inr ⟨v,a,x,by simp [dGet,e],by simp [atKey,e],hv⟩
    · simpa [dGet,atKey,List.find?_cons,e] using ih
theorem IsD.some {h : Heap} {F : Addr → Prop} {ks : List Int} {l : List (List Int × V)} {xs : List (List Int × Addr × Value)} (hd : IsD h F l xs) : (atKey xs ks).isSome = (dGet l ks).isSome := by
  (apply gG;intro nG; rcases hd.get (ks := ks) with ⟨e1,e2⟩ | ⟨v,a,x,e1,e2,_⟩ <;> refine nG ?_ <;> clear nG) <;> rw [e1,e2] <;> rfl
theorem IsD.putAt {h : Heap} {F : Addr → Prop} {ks : List Int} {v : V} {y : Value} (hv : Is h F v y) {l : List (List Int × V)} {xs : List (List Int × Addr × Value)} (H : IsD h F l xs) : IsD h F (l.map (fun p => if p.1 = ks then (p.1,v) else p)) (xs.map (PySem.putAt ks y)) := by
  induction H with
  | nil => exact .nil
  | @cons k v' a x l xs hk hv' hl ih =>
    rw [List.map_cons,List.map_cons]
    by_cases e : k = ks
    · rw [if_pos e,show PySem.putAt ks y (k,a,x) = (k,a,y) from if_pos e]; exact .cons hk hv ih
    · rw [if_neg e,show PySem.putAt ks y (k,a,x) = (k,a,x) from if_neg e]; exact .cons hk hv' ih
theorem IsD.snoc {h : Heap} {F : Addr → Prop} {ks : List Int} {a : Addr} {v : V} {y : Value} (hk : Is h F (.tup (ks.map V.int)) (.ref a)) (hv : Is h F v y) {l : List (List Int × V)} {xs : List (List Int × Addr × Value)} (H : IsD h F l xs) : IsD h F (l ++ [(ks,v)]) (xs ++ [(ks,a,y)]) := H.rec (.cons hk hv .nil) fun hk' hv' u_ i => .cons hk' hv' i
theorem IsD.put {h : Heap} {F : Addr → Prop} {ks : List Int} {a : Addr} {v : V} {y : Value} {l : List (List Int × V)} {xs : List (List Int × Addr × Value)} (hd : IsD h F l xs) (hk : Is h F (.tup (ks.map V.int)) (.ref a)) (hv : Is h F v y) :
    IsD h F (dPut l ks v) (storedH xs ks a y) := by
  unfold dPut storedH;rw [hd.some]
  split
  · exact hd.putAt hv
  · exact hd.snoc hk hv
theorem dict_of {d : Addr} {l : List (List Int × V)} {o : Obj} (ho : s.heap.get? d = some o) (hc : CIs s.heap F (.dict l) o) : ∃ xs,IsD s.heap F l xs ∧ s.heap.DictOfH (kndT W) d xs := by
  apply gG;intro nG
  obtain ⟨es,n,rfl,he,nd⟩ := hc;obtain ⟨xs,hx,e⟩ := he.toD W;apply nG;clear nG;exact ⟨xs,hx,_,_,_,ho,⟨rfl,rfl,rfl⟩,rfl,e,hx.is W,by rw [hx.keys]; exact nd⟩
theorem dict_back {h : Heap} {d : Addr} {l : List (List Int × V)} {xs : List (List Int × Addr × Value)} (hm : h.DictOfH (kndT W) d xs) (hx : IsD h F l xs) : ∃ o,h.get? d = some o ∧ CIs h F (.dict l) o := by
  apply gG;intro nG
  obtain ⟨o,es,ep,ho,⟨c1,c2,c3⟩,hd,he,_,nd⟩ := hm;obtain ⟨cls,dx,dt,sl⟩ := o;apply nG;clear nG;dsimp only at c1 c2 c3 hd;subst c1 c2 c3 hd;exact ⟨_,ho,es,ep,rfl,by rw [he]; exact hx.toE W,by rw [← hx.keys]; exact nd⟩
theorem room_key (O : FxOk W.H₀ Φ ns gs) : (kndT W).room Φ.A.in1 := by
  refine tupleKind_room_in1 ?_;have := O.room.units;show Φ.A.units + 1 < cLine;unfold cLine;exact q518 this
theorem c_in {d : Addr} {l : List (List Int × V)} {ks : List Int} {Q : V → Mu → Loc → Prop} (hd : (d == sysModules) = false) (hm : (d,Ce.dict l) ∈ μ) (q : Q (.bool (dGet l ks).isSome) μ ℓ) :
    X2 W RV Φ ns gs μ ℓ (.tup (ks.map V.int)) (.val (.ref d)) (compareOp .In) Q := by
  intro s F x y G O I hx hy;obtain ⟨_,rfl⟩ := hy.inv;obtain ⟨o,ho,hc⟩ := I.cell hm;obtain ⟨xs,hxs,hD⟩ := dict_of ho hc;cases hx with
  | tup hF ho' hc' hd' hl =>
    exact .of (wpAny_in_heap (room_key O) (tupKey W (.tup hF ho' hc' hd' hl)) hd hD (by rw [hxs.some]; exact res_tok I .bool q))
theorem s_dict {d : Addr} {l : List (List Int × V)} {ks : List Int} {v : V} {Q : V → Mu → Loc → Prop} (hm : (d,Ce.dict l) ∈ μ) (hv : dGet l ks = some v) (q : Q v μ ℓ) :
    X2 W RV Φ ns gs μ ℓ (.val (.ref d)) (.tup (ks.map V.int)) getItem Q := by
  intro s F y x G O I hy hx;obtain ⟨_,rfl⟩ := hy.inv;obtain ⟨o,ho,hc⟩ := I.cell hm;obtain ⟨xs,hxs,hD⟩ := dict_of ho hc;rcases hxs.get (ks := ks) with ⟨e,_⟩ | ⟨v',a,z,e1,e2,hz⟩
  · rw [hv] at e; cases e
  · rw [hv] at e1; cases e1;cases hx with
    | tup hF ho' hc' hd' hl => exact .of (wpAny_getItem_heap (room_key O) (tupKey W (.tup hF ho' hc' hd' hl)) hD e2 (res_tok I hz q))
theorem p_dict {d : Addr} {l : List (List Int × V)} {ks : List Int} {v : V} {Q : Unit → Mu → Loc → Prop} (hz : l.length ≤ 100000) (U : UpdM μ d (.dict l) (.dict (dPut l ks v)) μ') (q : Q () μ' ℓ) :
    X3 W RU Φ ns gs μ ℓ (.val (.ref d)) (.tup (ks.map V.int)) v setItem Q := by
  intro s F y x z G O I hy hx hv;apply gG;intro nG
  obtain ⟨_,rfl⟩ := hy.inv;obtain ⟨o,ho,hc⟩ := I.cell U.mem;obtain ⟨xs,hxs,hD⟩ := dict_of (W := W) ho hc;apply nG;clear nG;have na : d ∈ addrs μ := List.mem_map_of_mem (f := Prod.fst) U.mem;cases hx with
  | tup hF ho' hc' hd' hl =>
    have hk := Is.tup hF ho' hc' hd' hl;refine .of (wpAny_setItem_heap (room_key O) (tupKey W hk) hD (fun h' hD' hs => ?_) (by rw [hxs.length,sizeLine_eq]; (exact Nat.le_trans (by assumption) (by decide))));have ex : Ext F s.heap F h' := ⟨fun u_ z => z,fun b x fb q => (hs.2 b fun e => (I.st.froz b fb).2 (e ▸ na)).trans q⟩
    apply gG;intro nG
    obtain ⟨o',ho',hc'⟩ := dict_back (W := W) hD' ((hxs.put hk hv).ext ex);obtain ⟨I',ex'⟩ := I.turned (k := s.toks + (kndT W).draws ks) U ho' (fun b x ne e => (hs.2 b ne).trans e) hc';apply nG;clear nG;exact ⟨F,(),μ',ℓ,I',ex',trivial,q⟩
theorem m_dget {d : Addr} {l : List (List Int × V)} {pl : Sem Bool} {Q : Value × List V → Mu → Loc → Prop} (hm : (d,Ce.dict l) ∈ μ) (q : Q (.builtin "dict.get",[.val (.ref d)]) μ ℓ) :
    X1 W RM Φ ns gs μ ℓ (.val (.ref d)) (fun v => getMethod v (Str.ofString "get") pl) Q := by
  intro s F x G O I hx;apply gG;intro nG
  obtain ⟨_,rfl⟩ := hx.inv;obtain ⟨o,ho,hc⟩ := I.cell hm;obtain ⟨vs,n,rfl,hl⟩ := hc;apply nG;clear nG;exact .of (getMethod_builtin ⟨_,ho,rfl⟩ PySem.F.plainAttrs_dict PySem.F.slot_dict_get PySem.F.type_dict_get (fun a e => by cases e; exact ⟨_,ho,rfl⟩) (res_here I ⟨rfl,.cons .val .nil⟩ q))
theorem l_dget {d : Addr} {l : List (List Int × V)} {ks : List Int} {Q : V → Mu → Loc → Prop} (hd : (d == sysModules) = false) (hm : (d,Ce.dict l) ∈ μ) (q : Q ((dGet l ks).getD .none) μ ℓ) :
    XL W RV Φ ns gs μ ℓ [.val (.ref d),.tup (ks.map V.int)] (fun xs => call (.builtin "dict.get") xs) Q := by
  intro s F xs G O I hx;apply gG;intro nG
  obtain ⟨x,y,rfl,ha,hk⟩ := isL2 hx;obtain ⟨_,rfl⟩ := ha.inv;obtain ⟨o,ho,hc⟩ := I.cell hm;obtain ⟨xs,hxs,hD⟩ := dict_of (W := W) ho hc;apply nG;clear nG;cases hk with
  | tup hF ho' hc' hd' hl =>
    refine .of (call_meetsIn PySem.F.slot_dict_get hD.typeIs PySem.F.entry_dict_get (PySem.F.args_dict_get_2 _ _) (meetsH_dict_get (kndT W) d _ hd) ⟨room_key O,ks,xs,tupKey W (.tup hF ho' hc' hd' hl),hD,?_⟩)
    (apply gG;intro nG; rcases hxs.get (ks := ks) with ⟨e1,e2⟩ | ⟨v',a,z,e1,e2,hz⟩ <;> refine nG ?_ <;> clear nG)
    · rw [e2]; rw [e1] at q; exact res_tok I .none q
    · rw [e2]; rw [e1] at q; exact res_tok I hz q
noncomputable def revCe (c : Addr) (i : Int) : Ce := .raz (.type "list_reverseiterator") (.fields #[.ref c,.int i 0])
theorem l_reversed {c : Addr} {l : List V} {Q : V → Mu → Loc → Prop} (hm : (c,Ce.rlist l) ∈ μ) (q : ∀ I,Q (.val (.ref I)) ((I,revCe c ((l.length : Int) - 1)) :: μ) ℓ) :
    XL W RV Φ ns gs μ ℓ [.val (.ref c)] (fun xs => call (.type "reversed") xs) Q := by
  intro s F xs G O I hx;apply gG;intro nG
  obtain ⟨x,rfl,ha⟩ := isL1 hx;obtain ⟨_,rfl⟩ := ha.inv;obtain ⟨o,ho,hc⟩ := I.cell hm;obtain ⟨hcl,vs,n,hd,hl⟩ := hc;apply nG;clear nG;refine .of (call_reversed_list ⟨o,ho,hcl,n,hd⟩ ?_);have e : (vs.size : Int) - 1 = (l.length : Int) - 1 := by rw [← Array.length_toList,hl.length]
  rw [e];exact res_made (k := s.toks) I rfl (c := revCe c ((l.length : Int) - 1)) ⟨rfl,rfl⟩ .val (q _)
theorem next_rev {c J : Addr} {l : List V} {i : Nat} {Φ' : Fx} {ns' : List Str} {ℓ : Loc} (hh : Φ'.A.handled = none) (hm : (c,Ce.rlist l) ∈ μ) (I : In W Φ' ns' F ((J,revCe c ((l.length : Int) - 1 - i)) :: μ) ℓ s) (hi : i ≤ l.length) :
    wpAny W.M Φ'.A (pyNext (.ref J)) (fun r s' => match l.reverse[i]? with
      | some v => ∃ x F',r = some x ∧ In W Φ' ns' F' ((J,revCe c ((l.length : Int) - 1 - (i + 1 : Nat))) :: μ) ℓ s' ∧ Ext F s.heap F' s'.heap ∧ Is s'.heap F' v x
      | none => r = none ∧ ∃ F',In W Φ' ns' F' μ ℓ s' ∧ Ext F s.heap F' s'.heap) (fun u_ u_ => False) s := by
  apply gG;intro nG
  obtain ⟨ob,hob,hcl,hdt⟩ := I.st.mu _ (.head _);obtain ⟨o,ho,hco⟩ := I.cell (.tail _ hm);obtain ⟨hcl',vs,n,hd,hl⟩ := hco;apply nG;clear nG;have hL : s.heap.IsList c vs := ⟨o,ho,hcl',n,hd⟩
  by_cases hlt : i < l.length
  · have e : (l.length : Int) - 1 - i = ((l.length - 1 - i : Nat) : Int) := by exact q519 hlt
    have hit : s.heap.IsRevIter J c ((l.length - 1 - i : Nat) : Int) := ⟨ob,hob,hcl,by rw [hdt,e]; rfl⟩
    have hv : l.reverse[i]? = some (l[l.length - 1 - i]'(by exact q520 e)) := by rw [List.getElem?_reverse hlt,List.getElem?_eq_getElem]
    rw [hv];apply gG;intro nG
    obtain ⟨y,hy,hiy⟩ := hl.at (i := l.length - 1 - i) (List.getElem?_eq_getElem (by exact q520 e));apply nG;clear nG;refine wpAny_pyNext_rev_item hit hL (by simpa using hy) fun h₁ hit₁ hs₁ => ?_
    apply gG;intro nG
    obtain ⟨ob',hob',hcl₁,hdt'⟩ := hit₁;have e2 : ((l.length - 1 - i : Nat) : Int) - 1 = (l.length : Int) - 1 - (i + 1 : Nat) := by exact q521 e
    obtain ⟨I',ex'⟩ := I.turned1 (k := s.toks) (c' := revCe c ((l.length : Int) - 1 - (i + 1 : Nat))) hob' (fun b x ne e => (hs₁.2 b ne).trans e) ⟨hcl₁,by rw [hdt',e2]; rfl⟩;apply nG;clear nG;exact ⟨y,F,rfl,I',ex',hiy.ext ex'⟩
  · have hv : l.reverse[i]? = none := List.getElem?_eq_none (by rw [List.length_reverse]; (exact q136 hlt));rw [hv];have e : (l.length : Int) - 1 - i = -1 := by exact q522 hi hlt
    have hit : s.heap.IsRevIter J c (-1) := ⟨ob,hob,hcl,by rw [hdt,e]; rfl⟩
    refine wpAny_pyNext_rev_end hh hit fun h₁ he => ?_
    obtain ⟨I',ex'⟩ := I.ended1 (k := s.toks) (h' := h₁) (fun b x ne e => he b x ne e);exact ⟨rfl,F,I',ex'⟩
theorem revJ {c a : Addr} {l : List V} {J : Nat → Mu → Loc → Prop} {μ₂ : Mu} (pm : ((a,revCe c ((l.length : Int) - 1)) :: μ₂).Perm μ) (j : J 0 μ₂ ℓ) (hJ : ∀ i μ ℓ,J i μ ℓ → (c,Ce.rlist l) ∈ μ) : IterJ W Φ ns gs (.val (.ref a)) l.reverse J μ ℓ := by
  intro s F x G O I hx;apply gG;intro nG
  obtain ⟨_,rfl⟩ := hx.inv;have i₂ := I.perm pm;obtain ⟨ob,hob,hcl,hdt⟩ := i₂.st.mu _ (.head _);apply nG;clear nG;exact .of (wpAny_pyIter_revIter ⟨ob,hob,hcl,hdt⟩ ⟨a,fun i => revCe c ((l.length : Int) - 1 - (i : Nat)),F,μ₂,rfl,by simpa using i₂,.refl,j,fun i F₃ μ₃ ℓ₃ s₃ hi j₃ i₃ u_ => next_rev O.room.handled (hJ _ _ _ j₃) i₃ (by rwa [List.length_reverse] at hi)⟩)
theorem x_Dict1 {pos : Pos} {Q : V → Mu → Loc → Prop} (q : ∀ a,(a == sysModules) = false → Q (.val (.ref a)) ((a,.dict []) :: μ) ℓ) : X W RV Φ ns gs μ ℓ (eval (.Dict [] [] pos) Φ.env) Q := by
  intro s F G O I;rw [eval_Dict_empty];refine .stand (.of ?_);unfold newDict;refine wpAny_newObj_type ?_;apply gG;intro nG
  obtain ⟨mg,o,_,_,ho,_⟩ := G.g;apply nG;clear nG;have := Heap.lt_size (I.st.base _ _ ho);refine res_made (k := s.toks) I rfl (c := .dict []) ⟨#[],0,rfl,.nil,List.nodup_nil⟩ .val (q _ ?_);rw [beq_eq_false_iff_ne];intro e;rw [e] at this;exact absurd this (by decide)
end
end
section
open PySem PySem.W PyProof.Rows PySem.Calls Builtin
theorem entry_unpackM : entryFor table "_struct.unpack" = some Builtin.«_struct.unpack» := entryFor_of_tree (by kernel_rfl)
theorem args_unpackM (a b : Value) : checkBuiltinCall "_struct.unpack" ⟨[a,b],[]⟩ = pure () := by kernel_rfl
noncomputable def fmt4 : Struct.Format := ⟨true,false,[⟨'B',1,0,1⟩,⟨'B',1,1,1⟩,⟨'B',1,2,1⟩,⟨'B',1,3,1⟩],4,4⟩
theorem modfmt4 (t : Tok) : Struct.moduleFormat (.str (Str.ofString ">BBBB") t) = pure fmt4 := by kernel_rfl
theorem parts4 (b : Array UInt8) : Struct.unpacked "_struct.unpack" fmt4 b 0 = (do
  let v0 ← mkInt (Struct.natOf true (b.extract 0 1)); let v1 ← mkInt (Struct.natOf true (b.extract 1 2)); let v2 ← mkInt (Struct.natOf true (b.extract 2 3)); let v3 ← mkInt (Struct.natOf true (b.extract 3 4)); newTuple [v0,v1,v2,v3]) := by kernel_rfl
section
variable {W : Wd} {Φ : Fx} {ns : List Str} {gs : List (Str × Value)} {μ μ' μ₁ ν : Mu} {ℓ ℓ' : Loc} {F F' : Addr → Prop} {s s' : Shared} {α β : Type} {R : Heap → (Addr → Prop) → β → α → Prop}
set_option tactic.hygienic true in
theorem l_unpack4 {a0 a1 a2 a3 : UInt8} {Q : V → Mu → Loc → Prop} (q : Q (.tup [.int a0.toNat,.int a1.toNat,.int a2.toNat,.int a3.toNat]) μ ℓ) :
    XL W RV Φ ns gs μ ℓ [.str (Str.ofString ">BBBB"),.bytes [a0,a1,a2,a3]] (fun xs => call (.builtin "_struct.unpack") xs) Q := by
  intro s F xs G O I hx;apply gG;intro nG
  obtain ⟨x,y,rfl,hx,hy⟩ := isL2 hx;apply nG;clear nG;cases hx; cases hy
  rename_i t u
  refine .of (call_builtin_at (by decide +kernel) entry_unpackM (args_unpackM _ _) (PyProof.Rows.wpAt_of_any ?_));apply gG;intro nG
  obtain ⟨hh,g,dr,tt,os⟩ := s;apply nG;clear nG;unfold Builtin.«_struct.unpack» Struct.unpackExact Bytes.bytesLike;have L1 : Looks W.M hh (Bytes.buffer? "_struct.unpack" (.bytes [a0,a1,a2,a3].toArray u)) (some [a0,a1,a2,a3].toArray) := Looks.of_pure KBy.buffer_eq;have L2 : Looks W.M hh (Struct.moduleFormat (.str (Str.ofString ">BBBB") t)) fmt4 := Looks.of_pure (modfmt4 t);have n0 : Struct.natOf true (#[a0,a1,a2,a3].extract 0 1) = a0.toNat := by show 0 * 256 + a0.toNat = _; exact q523
  have n1 : Struct.natOf true (#[a0,a1,a2,a3].extract 1 2) = a1.toNat := by show 0 * 256 + a1.toNat = _; exact q523
  have n2 : Struct.natOf true (#[a0,a1,a2,a3].extract 2 3) = a2.toNat := by show 0 * 256 + a2.toNat = _; exact q523
  have n3 : Struct.natOf true (#[a0,a1,a2,a3].extract 3 4) = a3.toNat := by show 0 * 256 + a3.toNat = _; exact q523
  have q' : wpAny W.M Φ.A.in1 (Struct.unpacked "_struct.unpack" fmt4 #[a0,a1,a2,a3] 0) (Res W RV Φ ns F hh Q) (fun u_ u_ => False) ⟨hh,g,dr,tt,os⟩ := by
    rw [parts4,n0,n1,n2,n3];refine wpAny_bind (wpAny_mkInt (wpAny_bind (wpAny_mkInt (wpAny_bind (wpAny_mkInt (wpAny_bind (wpAny_mkInt ?_)))))));exact newTuple_froz I (.cons .int (.cons .int (.cons .int (.cons .int .nil)))) (by rw [sizeLine_eq]; simp) q
  generalize hup : Struct.unpacked "_struct.unpack" = up at q' ⊢;have e1 : noKeywords "_struct.unpack" ⟨[.str (Str.ofString ">BBBB") t,.bytes #[a0,a1,a2,a3] u],[]⟩ = pure () := rfl;have e2 : checkCount "unpack" 2 2 ([Value.str (Str.ofString ">BBBB") t,.bytes #[a0,a1,a2,a3] u]).length = pure () := rfl;dsimp only [List.headD,List.getD,List.getElem?_cons_succ,List.getElem?_cons_zero,Option.getD];rw [e1,e2];refine wpAny_bind (wpAny_pure (wpAny_bind (wpAny_pure (wpAny_bind (L2.here (wpAny_bind ?_))))));repeat lk
  exact wpAny_mono q' (fun v s' q => wpAny_pure ⟨v,rfl,q⟩) fun u_ u_ z => z
end
end
section
open PySem PySem.W PyProof.Rows PySem.Calls Builtin
section
variable {W : Wd} {Φ : Fx} {ns : List Str} {gs : List (Str × Value)} {μ μ' μ₁ ν : Mu} {ℓ ℓ' : Loc} {F F' : Addr → Prop} {s s' : Shared} {α β : Type} {R : Heap → (Addr → Prop) → β → α → Prop}
noncomputable def rangeObj (a b c : Int) (t u v : Tok) : Obj := { cls := .type "range",data := .fields #[.int a t,.int b u,.int c v] }
theorem l_range3 {a b c : Int} {Q : V → Mu → Loc → Prop} (hc : c ≠ 0) (hp : Builtin.divisionGoesByPylong (b - a) c = false) (q : ∀ r t u v,Q (.val (.ref r)) ((r,.raw (rangeObj a b c t u v)) :: μ) ℓ) :
    XL W RV Φ ns gs μ ℓ [.int a,.int b,.int c] (fun xs => call (.type "range") xs) Q := by
  intro s F xs G O I hx;apply gG;intro nG
  obtain ⟨x,y,z,rfl,hx,hy,hz⟩ := isL3 hx;apply nG;clear nG;obtain ⟨_,rfl⟩ := hx.inv; obtain ⟨_,rfl⟩ := hy.inv; obtain ⟨_,rfl⟩ := hz.inv;refine .of (call_range_3 hc ?_ (.inl hp));exact res_made (k := s.toks) I rfl (c := .raw (rangeObj a b c _ _ _)) rfl .val (q _ _ _ _)
theorem l_range1 {n : Int} {Q : V → Mu → Loc → Prop} (q : ∀ r t u v,Q (.val (.ref r)) ((r,.raw (rangeObj 0 n 1 t u v)) :: μ) ℓ) :
    XL W RV Φ ns gs μ ℓ [.int n] (fun xs => call (.type "range") xs) Q := by
  intro s F xs G O I hx;apply gG;intro nG
  obtain ⟨x,rfl,ha⟩ := isL1 hx;obtain ⟨_,rfl⟩ := ha.inv;apply nG;clear nG;refine .of (call_range_1 ?_);exact res_made (k := s.toks + 1 + 1) I rfl (c := .raw (rangeObj 0 n 1 _ _ _)) rfl .val (q _ _ _ _)
theorem it_range {a b c : Int} {r : Addr} {t u v : Tok} {n : Nat} (hm : (r,Ce.raw (rangeObj a b c t u v)) ∈ μ) (hsmall : Builtin.Range.small a b c = true) (hn : Builtin.Range.rangeSize a b c = n) :
    Iters W Φ ns gs (.val (.ref r)) ((List.range n).map fun i : Nat => V.int (a + (i : Int) * c)) μ ℓ := by
  intro s F x G O I hx;cases hx;apply gG;intro nG
  obtain ⟨o,ho,hc⟩ := I.cell hm;apply nG;clear nG;cases hc;refine .of (wpAny_pyIter_range ho hsmall ?_);rw [hn];obtain ⟨I',ex⟩ := I.made (k := s.toks) (c := itob a c n 0) (o := { cls := .type "range_iterator",data := .fields #[rawInt a,rawInt n,rawInt c] }) rfl (by show _ = _; simp);exact ⟨_,itob a c n,F,rfl,I',ex,next_range⟩
theorem it_range1 {r : Addr} {t u v : Tok} {n : Nat} (hm : (r,Ce.raw (rangeObj 0 (n : Nat) 1 t u v)) ∈ μ) (hz : n < 100000) :
    Iters W Φ ns gs (.val (.ref r)) ((List.range n).map fun i : Nat => V.int (i : Int)) μ ℓ := by
  have h := it_range (W := W) (Φ := Φ) (ns := ns) (gs := gs) (ℓ := ℓ) (n := n) hm (small_one (by exact (by decide)) (by exact (by decide)) (by (first | with_reducible exact Int.natCast_nonneg _ | with_reducible exact nn31 | lia)) (by exact q524 hz)) (by rw [rangeSize_one]; split <;> lia);have e : ((List.range n).map fun i : Nat => V.int (0 + (i : Int) * 1)) = (List.range n).map fun i : Nat => V.int (i : Int) := by
    apply List.map_congr_left; intro i _; rw [Int.zero_add,Int.mul_one]
  rwa [e] at h
end
end
section
open PySem PySem.W PySem.Calls PyProof.Rows
noncomputable abbrev pw : Program := PySem.Challenge.pw_ar0015_01
noncomputable def iRun (st : SharedT → Thread → Option (SharedT × Thread)) : Nat → SharedT → Thread → Option SharedT
  | 0,_,_ => none
  | n + 1,s,t => match t.atExitBegin with
    | some [] => some s
    | some _ => none
    | none => match st s t with
      | some (s',t') => iRun st n s' t'
      | none => none
noncomputable def tRun (ok : Thread → Bool) (st : SharedT → Thread → Option (SharedT × Thread)) : Nat → SharedT → Thread → Option SharedT
  | 0,_,_ => none
  | n + 1,s,t => match through t with
    | true => some s
    | false => match ok t with
      | false => none
      | true => match st s t with
        | some (s',t') => tRun ok st n s' t'
        | none => none
theorem iRun_spec {tb : String → Option Builtin} {p : Program} {w : World} : ∀ {n : Nat} {s s' : SharedT} {t : Thread},iRun (stepT (denote tb) p w) n s t = some s' → importEnds tb p w n s.abs t = some s'.abs
  | 0,_,_,_,h => by cases h
  | n + 1,s,s',t,h => by
    have h : (match t.atExitBegin with | some [] => some s | some _ => none | none => match stepT (denote tb) p w s t with | some (s',t') => iRun (stepT (denote tb) p w) n s' t' | none => none) = some s' := h;unfold importEnds;cases e : t.atExitBegin with
    | some q =>
      rw [e] at h;cases q with
      | nil => cases h; rfl
      | cons => cases h
    | none =>
      rw [e] at h;cases hs : stepT (denote tb) p w s t with
      | none => rw [hs] at h; cases h
      | some r => obtain ⟨s₂,t₂⟩ := r; rw [hs] at h; dsimp only; rw [stepT_spec hs]; exact iRun_spec h
theorem tRun_spec {tb : String → Option Builtin} {p : Program} {w : World} {n₀ : Nat} {ann : Option Value} : ∀ {n : Nat} {s s' : SharedT} {t : Thread},tRun (stepOk n₀ ann) (stepT (denote tb) p w) n s t = some s' → topRun tb p w n₀ ann n s.abs t = some s'.abs
  | 0,_,_,_,h => by cases h
  | n + 1,s,s',t,h => by
    have h : (match through t with | true => some s | false => match stepOk n₀ ann t with | false => none | true => match stepT (denote tb) p w s t with | some (s',t') => tRun (stepOk n₀ ann) (stepT (denote tb) p w) n s' t' | none => none) = some s' := h;unfold topRun;cases he : through t with
    | true => rw [he] at h; cases h; rfl
    | false =>
      rw [he] at h;cases hk : stepOk n₀ ann t with
      | false => rw [hk] at h; cases h
      | true =>
        rw [hk] at h;cases hs : stepT (denote tb) p w s t with
        | none => rw [hs] at h; cases h
        | some r => obtain ⟨s₂,t₂⟩ := r; rw [hs] at h; rw [stepT_spec hs]; exact tRun_spec h
noncomputable def btOf : Nat → List Obj → BT → Option BT
  | _,[],t => some t
  | i,o :: l,t => match ((t.ins i o).get i).isSome with
    | true => btOf (i + 1) l (t.ins i o)
    | false => none
theorem btOf_spec {life : Life} : ∀ {l : List Obj} {i : Nat} {t t' : BT},btOf i l t = some t' → absHeap t' (i + l.length) life = ⟨(absHeap t i life).objs ++ l.toArray,life⟩
  | [],i,t,t',h => by
    cases h;show absHeap t i life = _;rw [Array.append_empty]; rfl
  | o :: l,i,t,t',h => by
    have h : (match ((t.ins i o).get i).isSome with | true => btOf (i + 1) l (t.ins i o) | false => none) = some t' := h;cases e : ((t.ins i o).get i).isSome with
    | false => rw [e] at h; cases h
    | true =>
      rw [e] at h;have := btOf_spec (life := life) h;rw [absHeap_ins e] at this;rw [List.length_cons,show i + (l.length + 1) = i + 1 + l.length by exact q467,this];refine congrArg (Heap.mk · life) ?_;show ((absHeap t i life).objs.push o) ++ l.toArray = _;apply Array.toList_inj.mp
      simp
noncomputable def toT (s : Shared) : Option SharedT := (btOf 0 s.heap.objs.toList .nil).map fun t => ⟨t,s.heap.objs.size,s.heap.life,s.gens,s.drawn,s.toks,s.os⟩
theorem toT_abs {s : Shared} {s' : SharedT} (h : toT s = some s') : s'.abs = s := by
  apply gG;intro nG
  obtain ⟨t,ht,rfl⟩ := Option.map_eq_some_iff.mp h;have := btOf_spec (life := s.heap.life) ht;rw [Nat.zero_add] at this;obtain ⟨⟨⟨l⟩,life⟩,g,d,k,os⟩ := s;apply nG;clear nG;show Shared.mk (absHeap t l.length life) g d k os = _;refine congrArg (Shared.mk · g d k os) (this.trans (congrArg (Heap.mk · life) ?_));show (absHeap .nil 0 life).objs ++ l.toArray = _;apply Array.toList_inj.mp;simp [absHeap,BT.list]
noncomputable def endsT (st : Program → SharedT → Thread → Option (SharedT × Thread)) (ok : Nat → Option Value → Thread → Bool) (mods : List Str) (p : Program) (N : Nat) : Option SharedT :=
  (toT (start (opening p)).1).bind fun s => (iRun (st (opening p)) N s (start (opening p)).2).bind fun s => (fenceModules? p s.abs).bind fun s₀ => match s₀.heap.isNs mainGlobals && s₀.gens.size == 0 with
  | true => (toT s₀).bind fun s => (tRun (ok s₀.heap.objs.size (s₀.heap.nsMap mainGlobals "__annotations__")) (st p) N s (topStub p)).bind fun s₁ => match staticsOk mods s₀.heap s₁.abs.heap && namesBound p s₁.abs.heap && gensDone s₁.abs && laidKept s₀.heap s₁.abs.heap with
      | true => some s₁
      | false => none
  | false => none
theorem endsT_spec {p : Program} {w : World} {N : Nat} {s : SharedT} (h : endsT (fun p => stepT (denote treeTable) p w) stepOk (importedModules p.main.body) p N = some s) : openEnds treeTable p w N = some s.abs := by
  unfold endsT at h;apply gG;intro nG
  obtain ⟨a,ha,h⟩ := Option.bind_eq_some_iff.mp h;obtain ⟨b,hb,h⟩ := Option.bind_eq_some_iff.mp h;obtain ⟨c,hc,h⟩ := Option.bind_eq_some_iff.mp h;apply nG;clear nG;unfold openEnds fencedOpening;rw [← toT_abs ha,iRun_spec hb];show (Option.bind (fenceModules? p b.abs) _) = _;rw [hc];show topFrom treeTable p w N c = _;unfold topFrom;cases e : c.heap.isNs mainGlobals && c.gens.size == 0 with
  | false => rw [e] at h; cases h
  | true =>
    rw [e] at h;apply gG;intro nG
    obtain ⟨d,hd,h⟩ := Option.bind_eq_some_iff.mp h;obtain ⟨f,hf,h⟩ := Option.bind_eq_some_iff.mp h;apply nG;clear nG;have hr := tRun_spec hf;rw [toT_abs hd] at hr;dsimp only;rw [hr];show (match staticsOk (importedModules p.main.body) c.heap f.abs.heap && namesBound p f.abs.heap && gensDone f.abs && laidKept c.heap f.abs.heap with | true => some f.abs | false => none) = _;cases k : staticsOk (importedModules p.main.body) c.heap f.abs.heap && namesBound p f.abs.heap && gensDone f.abs && laidKept c.heap f.abs.heap with
    | false => rw [k] at h; cases h
    | true => rw [k] at h; cases h; rfl
noncomputable abbrev ends (w : World) : Option SharedT := endsT (fun p => PySem.W.Fast.tw10156331382660048174 (PySem.W.Fast.tw11892475500146522536 PySem.W.Fast.tw14364793385576792824) p w) PySem.W.Fast.tw6613529449190102663 (importedModules pw.main.body) pw 7000
noncomputable abbrev qv : Program := view pw [55]
noncomputable abbrev lo : List Str := pw.boundNames.filter fun n => !(n == Str.ofString "law")
end
section
open PySem PySem.W PySem.Calls PyProof.Rows
set_option backward.match.sparseCases false
noncomputable def stAt (i : Nat) : List Stmt := pw.main.body.drop i
noncomputable def mAt (i j : Nat) : List Stmt := match stAt i with
  | .ClassDef _ _ _ body _ _ _ _ _ _ _ :: _ => body.drop j
  | _ => []
noncomputable def fP : List Stmt → Arguments
  | .FunctionDef _ args _ _ _ _ _ _ _ _ :: _ => args
  | _ => default
noncomputable def fB : List Stmt → List Stmt
  | .FunctionDef _ _ body _ _ _ _ _ _ _ :: _ => body
  | _ => []
noncomputable def fS : List Stmt → Scope
  | .FunctionDef _ _ _ _ _ _ sc _ _ _ :: _ => sc
  | _ => default
noncomputable def dFn : Data → Option FuncData
  | .func fd => some fd
  | _ => none
theorem dFn_of {d : Data} {fd : FuncData} (h : dFn d = some fd) : d = .func fd := by cases d <;> first | exact nso h | exact congrArg Data.func (Option.some.inj h)
noncomputable def bSt : FuncBody → Option (List Stmt)
  | .stmts b => some b
  | _ => none
theorem bSt_of {d : FuncBody} {b : List Stmt} (h : bSt d = some b) : d = .stmts b := by cases d <;> first | exact nso h | exact congrArg FuncBody.stmts (Option.some.inj h)
noncomputable def fnGet (K : Frag) (f : Addr) : Option (Arguments × List Stmt × Scope × Value) := (K.lookup f).bind fun o => (dFn o.data).bind fun fd => (bSt fd.body).bind fun b =>
  cond (fd.closure.isEmpty && fd.globals == mainGlobals && fd.builtins == builtinsNs && codeIn K fd.code fd.qualname) (some (fd.params,b,fd.scope,fd.defaults)) none
theorem fd_eq {n q : Str} {p : Arguments} {bd : FuncBody} {s : Scope} {g : Addr} {c : List (Str × Addr)} {d kd dc pm cd ct : Value} {an : Option Addr} {bi : Addr} {b : List Stmt} (h1 : c = []) (h2 : g = mainGlobals) (h3 : bi = builtinsNs) (h4 : bd = .stmts b) :
    FuncData.mk n q p bd s g c d kd dc pm an cd ct bi = fnOf n q p b s d kd dc pm an cd ct := by subst h1 h2 h3 h4; rfl
set_option tactic.hygienic true in
theorem fnGet_of {K : Frag} {f : Addr} {pa : Arguments} {b : List Stmt} {sc : Scope} {dV : Value} (h : fnGet K f = some (pa,b,sc,dV)) :
    ∃ oc od osl name qual kV doc pm an cdv ct,K.lookup f = some ⟨oc,od,.func (fnOf name qual pa b sc dV kV doc pm an cdv ct),osl⟩ ∧ codeIn K cdv qual = true := by
  apply gG;intro nG
  obtain ⟨o,ho,h⟩ := Option.bind_eq_some_iff.mp h;obtain ⟨fd,hd,h⟩ := Option.bind_eq_some_iff.mp h;obtain ⟨b',hb,h⟩ := Option.bind_eq_some_iff.mp h;apply nG;clear nG;cases hc : (fd.closure.isEmpty && fd.globals == mainGlobals && fd.builtins == builtinsNs && codeIn K fd.code fd.qualname) with
  | false => rw [hc] at h; exact nso h
  | true =>
    rw [hc] at h;apply gG;intro nG
    obtain ⟨hc,h4⟩ := Bool.and_eq_true_iff.mp hc;obtain ⟨hc,h3⟩ := Bool.and_eq_true_iff.mp hc;obtain ⟨h1,h2⟩ := Bool.and_eq_true_iff.mp hc;apply nG;clear nG;cases h;exact ⟨o.cls,o.dict,o.slots,fd.name,fd.qualname,fd.kwdefaults,fd.doc,fd.pyModule,fd.annotations,fd.code,fd.closureTuple,ho.trans (congrArg (fun d => some (Obj.mk o.cls o.dict d o.slots)) ((dFn_of hd).trans (congrArg Data.func (fd_eq (List.isEmpty_iff.mp h1) (beq_iff_eq.mp h2) (beq_iff_eq.mp h3) (bSt_of hb))))),h4⟩
noncomputable def rdAll (f : Value → Option V) : List Value → Option (List V)
  | [] => some []
  | x :: r => (f x).bind fun v => (rdAll f r).map fun l => v :: l
noncomputable def rdO (f : Value → Option V) (o : Obj) : Option V := match o.data with
  | .seq vs _ => (rdAll f vs.toList).bind fun l => if o.cls == .type "tuple" then some (.tup l) else if o.cls == .type "list" then some (.lst l) else none
  | _ => none
noncomputable def rdS (K : Frag) (f : Value → Option V) : Value → Option V
  | .none => some .none
  | .bool b => some (.bool b)
  | .int i _ => some (.int i)
  | .str s _ => some (.str s)
  | .ref a => (K.lookup a).bind (rdO f)
  | _ => none
noncomputable def rdV (K : Frag) : Nat → Value → Option V
  | 0 => fun u_ => none
  | n + 1 => rdS K (rdV K n)
theorem rdAll_is {h : Heap} {F : Addr → Prop} {f : Value → Option V} (hf : ∀ x v,f x = some v → Is h F v x) : ∀ (xs : List Value) {l : List V},rdAll f xs = some l → IsL h F l xs
  | [],l,e => by cases e; exact .nil
  | x :: r,l,e => by
    apply gG;intro nG
    obtain ⟨v,e1,e⟩ := Option.bind_eq_some_iff.mp e;obtain ⟨l',e2,rfl⟩ := Option.map_eq_some_iff.mp e;apply nG;clear nG;exact .cons (hf x v e1) (rdAll_is hf r e2)
theorem rdO_is {h : Heap} {F : Addr → Prop} {f : Value → Option V} (hf : ∀ x v,f x = some v → Is h F v x) {a : Addr} {o : Obj} (hF : F a) (ho : h.get? a = some o) {v : V} (e : rdO f o = some v) : Is h F v (.ref a) := by
  apply gG;intro nG
  obtain ⟨c,dx,dt,sl⟩ := o;apply nG;clear nG;cases dt with
  | seq vs n =>
    apply gG;intro nG
    obtain ⟨l,e1,e⟩ := Option.bind_eq_some_iff.mp e;apply nG;clear nG;have hl := rdAll_is hf _ e1;cases h1 : c == .type "tuple" with
    | true => rw [if_pos h1] at e; cases e; exact .tup hF ho (beq_iff_eq.mp h1) rfl hl
    | false =>
      rw [if_neg (fun h => by rw [h1] at h; cases h)] at e;cases h2 : c == .type "list" with
      | true => rw [if_pos h2] at e; cases e; exact .lst hF ho (beq_iff_eq.mp h2) rfl hl
      | false => rw [if_neg (fun h => by rw [h2] at h; cases h)] at e; cases e
  | _ => cases e
theorem rdV_is {K : Frag} {h : Heap} {F : Addr → Prop} (X : K.In h) (hF : ∀ a o,K.lookup a = some o → F a) (n : Nat) : ∀ {x : Value} {v : V},rdV K n x = some v → Is h F v x := by
  induction n with
  | zero => intro x v e; cases e
  | succ n ih =>
    intro x v e;cases x with
    | none => cases e; exact .none
    | bool => cases e; exact .bool
    | int => cases e; exact .int
    | str => cases e; exact .str
    | ref a => (apply gG;intro nG;obtain ⟨o,ho,e⟩ := Option.bind_eq_some_iff.mp e <;> refine nG ?_ <;> clear nG); exact rdO_is (fun u_ u_ => ih) (hF _ _ ho) (X _ _ ho) e
    | _ => cases e
noncomputable def wBind : PySem.Builtin.ObjectAttr.Found → Option (Value × Value)
  | .bind g a => some (g,a)
  | _ => none
theorem wBind_of {x : PySem.Builtin.ObjectAttr.Found} {g a : Value} (h : wBind x = some (g,a)) : x = .bind g a := by cases x <;> first | exact nso h | (cases h; rfl)
noncomputable def boundAt (K : Frag) (C : Addr) (name : Str) (f : Addr) : Bool := (findObj K C (some emptyDict) name).bind wBind == some (.builtin "function.__get__",.ref f) && fnIn K f
set_option tactic.hygienic true in
theorem boundAt_of {K : Frag} {C : Addr} {name : Str} {f : Addr} (h : boundAt K C name f = true) : findObj K C (some emptyDict) name = some (.bind (.builtin "function.__get__") (.ref f)) ∧ fnIn K f = true := by
  apply gG;intro nG
  obtain ⟨h2,h3⟩ := Bool.and_eq_true_iff.mp h;obtain ⟨x,e,hx⟩ := Option.bind_eq_some_iff.mp (beq_iff_eq.mp h2);apply nG;clear nG;exact ⟨by rw [e,wBind_of hx],h3⟩
noncomputable def GT0 : List (Str × Value) := [("Struct",.type "_struct.Struct"),("unpack",.builtin "_struct.unpack"),("_wall",.ref 49),("boolean",.ref 50),("uint8",.ref 51),("uint16",.ref 52),("uint32",.ref 53),("int32",.ref 54),("uoffset",.ref 53),("soffset",.ref 54),("BoolFlags",.ref 64),("Uint8Flags",.ref 78),("Uint16Flags",.ref 92),("Uint32Flags",.ref 106),("Int32Flags",.ref 120)]
noncomputable def GT1 : List (Str × Value) := [("SOffsetTFlags",.ref 134),("UOffsetTFlags",.ref 146),("VOffsetTFlags",.ref 158),("enforce_number",.ref 167),("FILE_IDENTIFIER_LENGTH",.int 4 576),("Get",.ref 174),("Get_encode",.ref 174),("Write",.ref 181),("GetSizePrefix",.ref 188),("GetBufferIdentifier",.ref 196),("BufferHasIdentifier",.ref 204),("RemoveSizePrefix",.ref 211),("string_types",.ref 212),("binary_types",.ref 213),("OffsetArithmeticError",.ref 223)]
noncomputable def GT2 : List (Str × Value) := [("IsNotNestedError",.ref 236),("IsNestedError",.ref 249),("BuilderSizeError",.ref 262),("BuilderNotFinishedError",.ref 275),("EndVectorLengthMismatched",.ref 288),("VtableMetadataFields",.int 2 749),("Builder",.ref 693),("Table",.ref 788),("_law_signs",.ref 801),("_law_take",.ref 808),("_law_text",.ref 815),("_law_question",.ref 822),("_law_answer",.ref 827),("_law_whole",.ref 834),("_law_octets",.ref 841)]
noncomputable def GT3 : List (Str × Value) := [("_law_asked",.ref 848),("_law_told",.ref 855),("_law_served",.ref 860),("_law_pieces",.ref 867),("len",.builtin "len"),("min",.builtin "min"),("bytearray",.type "bytearray"),("bytes",.type "bytes"),("isinstance",.builtin "isinstance"),("tuple",.type "tuple"),("range",.type "range"),("reversed",.type "reversed"),("sorted",.builtin "sorted")]
noncomputable def GT : List (Str × Value) := GT0 ++ GT1 ++ GT2 ++ GT3
noncomputable def fb0 (K : Frag) : List Bool := [classOk K 693,slotAt K 693 "Bytes" 694 0,slotAt K 693 "current_vtable" 695 1,slotAt K 693 "finished" 696 2,slotAt K 693 "forceDefaults" 697 3,slotAt K 693 "head" 698 4,slotAt K 693 "minalign" 699 5,slotAt K 693 "nested" 700 6,slotAt K 693 "objectEnd" 701 7,slotAt K 693 "sharedStrings" 702 8,slotAt K 693 "vectorNumElems" 703 9,slotAt K 693 "vtables" 704 10]
noncomputable def fb1 (K : Frag) : List Bool := [methAt K 693 "__init__" 307,methAt K 693 "Clear" 314,methAt K 693 "Output" 321,methAt K 693 "StartObject" 328,methAt K 693 "WriteVtable" 335,methAt K 693 "EndObject" 342,methAt K 693 "GrowByteBuffer" 349,methAt K 693 "Head" 356,methAt K 693 "Offset" 363,methAt K 693 "Pad" 370,methAt K 693 "Prep" 377,methAt K 693 "PrependSOffsetTRelative" 384]
noncomputable def fb2 (K : Frag) : List Bool := [methAt K 693 "PrependUOffsetTRelative" 391,methAt K 693 "StartVector" 398,methAt K 693 "EndVector" 406,methAt K 693 "CreateString" 420,methAt K 693 "CreateByteVector" 427,methAt K 693 "assertNested" 434,methAt K 693 "assertNotNested" 441,methAt K 693 "Slot" 455,methAt K 693 "_Builder__Finish" 463,methAt K 693 "FinishSizePrefixed" 479,methAt K 693 "Prepend" 486,methAt K 693 "PrependSlot" 493]
noncomputable def fb3 (K : Frag) : List Bool := [methAt K 693 "PrependBoolSlot" 500,methAt K 693 "PrependUint8Slot" 514,methAt K 693 "PrependInt32Slot" 556,methAt K 693 "PrependUOffsetTRelativeSlot" 570,methAt K 693 "PrependInt32" 640,methAt K 693 "PrependVOffsetT" 661,methAt K 693 "Place" 668,methAt K 693 "PlaceSOffsetT" 682,methAt K 693 "PlaceUOffsetT" 689,classOk K 788,slotAt K 788 "Bytes" 789 0,slotAt K 788 "Pos" 790 1]
noncomputable def fb4 (K : Frag) : List Bool := [methAt K 788 "__init__" 721,methAt K 788 "Offset" 728,methAt K 788 "String" 742,methAt K 788 "VectorLen" 749,methAt K 788 "Vector" 756,methAt K 788 "Get" 770,methAt K 788 "GetSlot" 777,metaOk K 64,clsAttr K 64 "bytewidth" (.int 1 363),clsAttr K 64 "min_val" (.bool false),clsAttr K 64 "max_val" (.bool true),clsTyp K 64 "py_type" "bool"]
noncomputable def fb5 (K : Frag) : List Bool := [clsAttr K 64 "packer_type" (.ref 50),metaOk K 78,clsAttr K 78 "bytewidth" (.int 1 391),clsAttr K 78 "min_val" (.int 0 393),clsAttr K 78 "max_val" (.int 255 399),clsTyp K 78 "py_type" "int",clsAttr K 78 "packer_type" (.ref 51),metaOk K 120,clsAttr K 120 "bytewidth" (.int 4 493),clsAttr K 120 "min_val" (.int (-2147483648) 498),clsAttr K 120 "max_val" (.int 2147483647 504),clsTyp K 120 "py_type" "int"]
noncomputable def fb6 (K : Frag) : List Bool := [clsAttr K 120 "packer_type" (.ref 54),metaOk K 134,clsAttr K 134 "bytewidth" (.int 4 493),clsAttr K 134 "min_val" (.int (-2147483648) 498),clsAttr K 134 "max_val" (.int 2147483647 504),clsTyp K 134 "py_type" "int",clsAttr K 134 "packer_type" (.ref 54),metaOk K 146,clsAttr K 146 "bytewidth" (.int 4 459),clsAttr K 146 "min_val" (.int 0 461),clsAttr K 146 "max_val" (.int 4294967295 467),clsTyp K 146 "py_type" "int"]
noncomputable def fb7 (K : Frag) : List Bool := [clsAttr K 146 "packer_type" (.ref 53),metaOk K 158,clsAttr K 158 "bytewidth" (.int 2 425),clsAttr K 158 "min_val" (.int 0 427),clsAttr K 158 "max_val" (.int 65535 433),clsTyp K 158 "py_type" "int",clsAttr K 158 "packer_type" (.ref 52),metaOk K 106,clsAttr K 106 "bytewidth" (.int 4 459),clsAttr K 106 "min_val" (.int 0 461),clsAttr K 106 "max_val" (.int 4294967295 467),clsTyp K 106 "py_type" "int"]
noncomputable def fb8 (K : Frag) : List Bool := [clsAttr K 106 "packer_type" (.ref 53),metaOk K 693,clsAttr K 693 "MAX_BUFFER_SIZE" (.int 2147483648 778),boundAt K 693 "PrependSlot" 493,keepIn K (.ref 167),keepIn K (.ref 174),keepIn K (.ref 181),keepIn K (.ref 188),keepIn K (.ref 196),keepIn K (.ref 204),keepIn K (.ref 211),keepIn K (.ref 693)]
noncomputable def fb9 (K : Frag) : List Bool := [keepIn K (.ref 788),keepIn K (.ref 808),keepIn K (.ref 815),keepIn K (.ref 822),keepIn K (.ref 827),keepIn K (.ref 834),keepIn K (.ref 841),keepIn K (.ref 848),keepIn K (.ref 855),keepIn K (.ref 860),keepIn K (.ref 867),structAt K 50 .q]
noncomputable def fb10 (K : Frag) : List Bool := [structAt K 51 .B,structAt K 52 .H,structAt K 53 .I,structAt K 54 .i,tupleAt K 212 [.type "str"],tupleAt K 213 [.type "bytes",.type "bytearray"],tupleAt K 197 [.bool false],tupleAt K 189 [.bool false],tupleAt K 399 [.none],tupleAt K 456 [.none],tupleAt K 472 [.none],nsIn K mainGlobals "law" == some (some (.ref 872))]
noncomputable def fb11 (K : Frag) : List Bool := [makesIn K 693,makesIn K 788,tupleAt K 300 [.int 1024 780]]
noncomputable def factsB (K : Frag) : Bool := [(fb0 K).all id,(fb1 K).all id,(fb2 K).all id,(fb3 K).all id,(fb4 K).all id,(fb5 K).all id,(fb6 K).all id,(fb7 K).all id,(fb8 K).all id,(fb9 K).all id,(fb10 K).all id,(fb11 K).all id,GT.all (globOk K)].all id
noncomputable def fns0 : List (Addr × List Stmt × Value) := [(167,stAt 19,.none),(174,stAt 22,.none),(181,stAt 24,.none),(188,stAt 26,.none),(196,stAt 27,.ref 189),(204,stAt 28,.ref 197),(211,stAt 29,.none),(307,mAt 40 3,.ref 300),(314,mAt 40 4,.none),(321,mAt 40 5,.none),(328,mAt 40 6,.none),(335,mAt 40 7,.none),(342,mAt 40 8,.none),(349,mAt 40 9,.none),(356,mAt 40 10,.none)]
noncomputable def fns1 : List (Addr × List Stmt × Value) := [(363,mAt 40 11,.none),(370,mAt 40 12,.none),(377,mAt 40 13,.none),(384,mAt 40 14,.none),(391,mAt 40 15,.none),(398,mAt 40 16,.none),(406,mAt 40 17,.ref 399),(420,mAt 40 19,.none),(427,mAt 40 20,.none),(434,mAt 40 21,.none),(441,mAt 40 22,.none),(455,mAt 40 24,.none),(463,mAt 40 25,.ref 456),(471,mAt 40 26,.ref 464),(479,mAt 40 27,.ref 472)]
noncomputable def fns2 : List (Addr × List Stmt × Value) := [(486,mAt 40 28,.none),(493,mAt 40 29,.none),(500,mAt 40 30,.none),(514,mAt 40 32,.none),(556,mAt 40 38,.none),(570,mAt 40 40,.none),(640,mAt 40 50,.none),(661,mAt 40 53,.none),(668,mAt 40 54,.none),(682,mAt 40 56,.none),(689,mAt 40 57,.none),(721,mAt 42 1,.none),(728,mAt 42 2,.none),(742,mAt 42 4,.none),(749,mAt 42 5,.none)]
noncomputable def fns3 : List (Addr × List Stmt × Value) := [(756,mAt 42 6,.none),(770,mAt 42 8,.none),(777,mAt 42 9,.none),(808,stAt 45,.none),(815,stAt 46,.none),(822,stAt 47,.none),(827,stAt 48,.none),(834,stAt 49,.none),(841,stAt 50,.none),(848,stAt 51,.none),(855,stAt 52,.none),(860,stAt 53,.none),(867,stAt 54,.none),(872,stAt 55,.none)]
noncomputable def fns : List (Addr × List Stmt × Value) := fns0 ++ fns1 ++ fns2 ++ fns3
noncomputable def fnTab (K : Frag) : List (Option (Arguments × List Stmt × Scope × Value)) := fns.map fun x => fnGet K x.1
noncomputable def fnGood : List (Option (Arguments × List Stmt × Scope × Value)) := fns.map fun x => some (fP x.2.1,fB x.2.1,fS x.2.1,x.2.2)
noncomputable def signs : V := .lst [.tup [.str "a",.lst [.int 97]],.tup [.str "b",.lst [.int 98]],.tup [.str (Str.mk #[233]),.lst [.int 195,.int 169]],.tup [.str (Str.mk #[128512]),.lst [.int 240,.int 159,.int 152,.int 128]]]
structure Kn (K : Frag) : Prop where
  b : factsB K = true
  f : fnTab K = fnGood
  s : rdV K 20 (.ref 801) = some signs
noncomputable def adr : List Addr := [2,3,50,51,52,53,54,63,64,77,78,91,92,105,106,119,120,133,134,145,146,157,158,166,167,173,174,180,181,187,188,189,195,196,197,203,204,210,211,212,213,300,306,307,313,314,320,321,327,328,334,335,341,342,348,349,355,356,362,363,369,370,376,377,383,384,390,391,397,398,399,405,406,419,420,426,427,433,434,440,441,454,455,456,462,463,470,471,472,478,479,485,486,492,493,499,500,513,514,555,556,569,570,639,640,660,661,667,668,681,682,688,689,692,693,694,695,696,697,698,699,700,701,702,703,704,720,721,727,728,741,742,748,749,755,756,769,770,776,777,787,788,789,790,793,794,795,796,797,798,799,800,801,807,808,814,815,821,822,826,827,833,834,840,841,847,848,854,855,859,860,866,867,871,872]
noncomputable def fragOf (h : Heap) : Frag := adr.filterMap fun a => (h.get? a).map fun o => (a,o)
theorem lookup_fm {h : Heap} {a : Addr} {o : Obj} : ∀ {as : List Addr},((as.filterMap fun a => (h.get? a).map fun o => (a,o)) : Frag).lookup a = some o → h.get? a = some o
  | [],e => by cases e
  | b :: as,e => by
    rw [List.filterMap_cons] at e;cases q : h.get? b with
    | none => rw [q] at e; exact lookup_fm e
    | some o' =>
      rw [q] at e;change List.lookup a ((b,o') :: _) = _ at e;rw [List.lookup_cons] at e;cases hb : a == b with
      | true => rw [hb] at e; rw [beq_iff_eq.mp hb,q]; exact e
      | false => rw [hb] at e; exact lookup_fm e
theorem fragOf_in (h : Heap) : (fragOf h).In h := fun a o e => lookup_fm e
noncomputable def obs (s : Shared) : Bool × List (Option (Arguments × List Stmt × Scope × Value)) × Option V := let K := fragOf s.heap; (factsB K,fnTab K,rdV K 20 (.ref 801))
noncomputable def getT (s : SharedT) (a : Addr) : Option Obj := match Nat.blt a s.n with
  | false => none
  | true => match s.tree.get a with
    | some o => alive o
    | none => (absHeap s.tree s.n s.life).get? a
theorem getT_eq (s : SharedT) (a : Addr) : getT s a = s.abs.heap.get? a := by
  show _ = (absHeap s.tree s.n s.life).get? a;unfold getT
  by_cases h : a < s.n
  · have e : Nat.blt a s.n = true := by rw [Nat.blt_eq]; exact h
    rw [e];dsimp only;cases g : s.tree.get a with
    | none => rfl
    | some o => exact (abs_get h g).symm
  · have e : Nat.blt a s.n = false := by
      cases q : Nat.blt a s.n with
      | false => rfl
      | true => exact absurd (by rwa [Nat.blt_eq] at q) h
    rw [e,abs_get_none h]
noncomputable def fragT (s : SharedT) : Frag := adr.filterMap fun a => (getT s a).map fun o => (a,o)
noncomputable def obsT (s : SharedT) : Bool × List (Option (Arguments × List Stmt × Scope × Value)) × Option V := let K := fragT s; (factsB K,fnTab K,rdV K 20 (.ref 801))
theorem obsT_eq (s : SharedT) : obsT s = obs s.abs := by
  have e : fragT s = fragOf s.abs.heap := by
    unfold fragT fragOf
    congr 1
    funext a
    rw [getT_eq]
  unfold obsT obs;rw [e]
end
section
open PySem PySem.W PySem.Calls PyProof.Rows
theorem i1a : ∀ w : World,(ends w).map (fun s => PySem.W.Fast.tw4187177175401517315 qv lo (PySem.W.Fast.tw5923862056798008813 pw.main.body) (fun u_ => true) true s.abs) = some (openGood qv lo) := fun w => by kernel_rfl
theorem i1b : ∀ w : World,(ends w).map (fun s => factsB (fragT s)) = some true := fun w => by kernel_rfl
theorem i1c : ∀ w : World,(ends w).map (fun s => (fnTab (fragT s),rdV (fragT s) 20 (.ref 801))) = some (fnGood,some signs) := fun w => by kernel_rfl
theorem i1 : ∀ w : World,(ends w).map (fun s => (PySem.W.Fast.tw4187177175401517315 qv lo (PySem.W.Fast.tw5923862056798008813 pw.main.body) (fun u_ => true) true s.abs,obsT s)) = some (openGood qv lo,(true,fnGood,some signs)) := fun w => by
  have a := i1a w;have b := i1b w;have c := i1c w;generalize ends w = o at a b c ⊢;cases o with
  | none => cases a
  | some s =>
    have a := Option.some.inj a;have b := Option.some.inj b;have c := Option.some.inj c;exact congrArg some (Prod.ext a (Prod.ext b c))
end
section
open PySem PySem.W PySem.Calls PyProof.Rows
noncomputable abbrev rw1 : OpenLaw := PySem.Challenge.rw_ar0015_01
theorem left : LeftO pw qv lo (fun u_ => true) (fun s => obs s) (fun u_ => (true,fnGood,some signs)) 7000 := fun w => by
  apply gG;intro nG
  obtain ⟨s,hs,e⟩ := Option.map_eq_some_iff.mp (i1 w);apply nG;clear nG;unfold ends at hs;rw [← PySem.W.Fast.te10156331382660048174,← PySem.W.Fast.te11892475500146522536,← PySem.W.Fast.te14364793385576792824,← PySem.W.Fast.te6613529449190102663] at hs;rw [← PySem.W.Fast.te4187177175401517315,← PySem.W.Fast.te5923862056798008813] at e;rw [obsT_eq] at e;rw [endsT_spec hs];exact congrArg some e
theorem ends_of {prog : Program} {w : World} {t : Sem Fin} {s : Shared} {R : Result → Shared → Prop} (hreg : s.asleep)
    (h : wN (model prog w) callerA t (fun fin s' => ∃ f,fin = .done f ∧ (R (.ok f) s' ∧ leftWithCleanup s'.gens = false)) (fun u_ u_ => False) s) :
    ∃ n r s' s'',runN (denote table) prog w n s ⟨t,.builtin "claim.caller" {},default,[]⟩ = .halted (outcomeOf r) s' ∧
      schedN (denote table) prog w n (.single s ⟨t,.builtin "claim.caller" {},default,[]⟩) = .halted (outcomeOf r) s' ∧ s'.forget = s''.forget ∧ R r s'' := by
  have hw : Sem.wp (model prog w) ⟨.builtin "claim.caller" {},none,none,[],none⟩ t (Sem.finPost (model prog w) ⟨.builtin "claim.caller" {},none,none,[],none⟩ (fun r s' => R r s' ∧ leftWithCleanup s'.gens = false)) (fun e u_ s' => R (.error e) s' ∧ leftWithCleanup s'.gens = false) default s := by
    refine Sem.wp_mono _ _ t (fun fin p' s' h' => ?_) (fun u_ u_ u_ h' => h'.elim) default s (h _ default caller_in ⟨by decide +kernel,fun x hx => (nomatch hx)⟩);apply gG;intro nG
    obtain ⟨f,rfl,hf⟩ := h';apply nG;clear nG;exact hf
  apply gG;intro nG
  obtain ⟨n,r,s₁,s₂,hs,hn,hfo,hR⟩ := wp_halts_full (M := model prog w) (R := R) hreg hw;apply nG;clear nG;exact ⟨n,r,s₂,s₁,hn,hs,hfo,hR⟩
noncomputable def Walk : Prop := ∀ (W : Wd),W.prog = pw → Gd W → Kn W.K → ∀ (s : Shared) (a : Addr) (xs : List Int) (vs : List Value) (n : Nat) (o : Obj),s.gens = #[] → s.heap = W.H₀ → s.os = W.os₀ →
    W.H₀.get? a = some o → o.cls = .type "list" → o.data = .seq vs.toArray n → IntsAre vs xs → xs.length ≤ 63 →
    wN W.M callerA (call (.ref 872) [.ref a]) (fun v s' => v = .bool true ∧ (∀ b o,W.H₀.get? b = some o → s'.heap.get? b = some o) ∧ s'.os = W.os₀ ∧ s'.gens = #[]) (fun u_ u_ => False) s
set_option tactic.hygienic true in
theorem args_of {R : WRecords} {cl : Str → Option Addr} {P : Params} {s₁ : Shared} {args : List WData} {vals : List Value} {as : List Addr} (hpre : rw1.row.toRowW.claim.pre args = true) (hlay : WData.layableAll args = true) (hrd : ReadsAllW rw1.row.toRowW.records cl s₁.heap vals args as)
    (hwl : WellAll P s₁.heap vals args) (hlo : ∀ a ∈ as,(a == sysModules) = false) :
    ∃ a xs vs n o,vals = [.ref a] ∧ s₁.heap.get? a = some o ∧ o.cls = .type "list" ∧ o.data = .seq (List.toArray vs) n ∧ IntsAre vs xs ∧ xs.length ≤ 63 := by
  wrow_args hpre hlay hrd hwl hlo
  rename_i w5 _ _ _ _ _ _ _ a vs _ hL _ _ _ hI _ hc _
  apply gG;intro nG
  obtain ⟨o,h1,h2,n,h3⟩ := hL;apply nG;clear nG;exact ⟨a,w5,vs,n,o,rfl,h1,h2,h3,hI,by omega⟩
end
section
open PySem PySem.W PySem.Calls PyProof.Rows
theorem law_gg {K : Frag} (h : Kn K) : nsIn K mainGlobals "law" = some (some (.ref 872)) := by
  have h1 : (fb10 K).all id = true := by
    have := h.b;unfold factsB at this;rw [List.all_eq_true] at this;exact this ((fb10 K).all id) (by simp)
  rw [List.all_eq_true] at h1;exact beq_iff_eq.mp (h1 (nsIn K mainGlobals "law" == some (some (.ref 872))) (by unfold fb10; simp))
theorem said : rw1.wellSaid = true := by
  rw [PySem.W.Fast.te9446332074065402090]
  kernel_rfl
theorem opw : opensWell pw = true := by kernel_rfl
theorem chn : chainsOk qv = true := by kernel_rfl
theorem pre0 : rw1.row.toRowW.claim.pre [.list []] = true := by decide +kernel
theorem post1 (args : List WData) : rw1.row.toRowW.claim.post args (.bool true) args = true := by with_unfolding_all rfl
theorem close (hw : Walk) : rw1.Holds := by
  refine ⟨said,row_said said,⟨[.list []],pre0,by decide +kernel⟩,⟨⟨rfl,rfl,rfl,rfl,rfl,by decide +kernel⟩,opw,rfl⟩,⟨[.list []],pre0,by decide +kernel⟩,fun w => ⟨(left.behind (XP := fun u_ u_ => True) (fun u_ u_ => trivial) chn w).1,fun s' hs' => ?_⟩⟩;obtain ⟨s₀,hf,hg0,s,hT,hz,hgens,hg,G,y⟩ := (left.behind (XP := fun u_ u_ => True) (fun u_ u_ => trivial) chn w).2 s' hs';refine ⟨s₀,hf,hg0,s,hT,fun n hn => ?_,fun x hx => (nomatch hx),fun x hx => (nomatch hx),?_⟩
  · have e : n = Str.ofString "law" := by
      change n ∈ [Str.ofString "law"] at hn;exact List.mem_singleton.mp hn
    subst e;exact pinned_of_view (q := qv) hg G (by rfl) (by rfl) (by rfl)
  · have hgs : s.gens = #[] := Array.eq_empty_of_size_eq_zero (beq_iff_eq.mp hgens);intro args hpre hlay ord hord;refine Classical.byContradiction fun nC => ?_
    obtain ⟨⟨vs,s₁⟩,hlaid⟩ := Option.isSome_iff_exists.mp (layAllW_isSome (P := w.params) (ord := ord) (R := []) (cl := classAt s.heap) G.has args rw1.row.toRowW.args s (pre_splitW hpre).1);have keeps := layAllW_keeps _ _ _ hlaid;have hal := layAllW_rest _ _ _ hlaid;obtain ⟨as,hrd,hin,hold⟩ := reads_layAllW hord _ _ _ hlaid hlay s₁.heap (fun u_ u_ e => e);have low : ∀ a ∈ as,(a == sysModules) = false := fun a ha => beq_eq_false_iff_ne.mpr fun e => by have := (hin.2.2 a ha).1; subst e; exact absurd G.low (Nat.not_lt.mpr this)
    obtain ⟨a,xs,vs',n,o,hvs,ho,hc,hd,hI,hl⟩ := args_of (R := []) hpre hlay hrd (well_layAllW hord args s _ hlaid _ fun u_ u_ e => e) low;have hvs : vs = [.ref a] := hvs;subst hvs;have G₁ := G.keeps (fun u_ u_ u_ u_ u_ => trivial) keeps
    let W : Wd := ⟨pw,w,fragOf s.heap,s₁.heap,s₁.os⟩
    have K0 : Kn W.K := ⟨congrArg (·.1) y,congrArg (·.2.1) y,congrArg (·.2.2) y⟩
    have X0 : W.K.In s₁.heap := (fragOf_in s.heap).keeps keeps;have h := hw W rfl ⟨X0,G₁.T.nolimit,⟨_,G₁.T.g⟩,_,G₁.T.b,G₁.T.builtins⟩ K0 s₁ a xs vs' n o (hal.1.trans hgs) rfl rfl ho hc hd hI hl;have L : Laid [] w s s₁ args [.ref a] as := ⟨⟨ord,hord,hlaid⟩,hrd,hin,hold,keeps,hal.1.trans hgs,hal.2.2.1⟩
    have ht : wN (model pw w) callerA (callStub rw1.row.name [.ref a]).cur (fun fin s' => ∃ f,fin = .done f ∧ ((f = .ret (.bool true) ∧ ((∀ b o,s₁.heap.get? b = some o → s'.heap.get? b = some o) ∧ s'.os = s₁.os ∧ s'.gens = #[])) ∧ leftWithCleanup s'.gens = false)) (fun u_ u_ => False) s₁ := by
      have hm : (s.heap.nsMap mainGlobals) "law" = some (.ref 872) := mg_of X0 G₁.T.g (law_gg K0);refine .bind (.of (wpAny_nsGet G₁.T.g ?_));rw [show rw1.row.name = ("law" : Str) from rfl,hm];refine .bind (wN.mono h (fun v s' z => .pure ⟨_,rfl,⟨by rw [z.1],z.2⟩,?_⟩) fun u_ u_ z => z);rw [z.2.2.2]; exact leftWithCleanup_false_of_bare fun x hx => (by simp at hx)
    obtain ⟨k,r,s',s'',hrun,hsched,hfo,hr,hkp,hos,hge⟩ := ends_of (R := fun r s' => r = .ok (.ret (.bool true)) ∧ (∀ b o,s₁.heap.get? b = some o → s'.heap.get? b = some o) ∧ s'.os = s₁.os ∧ s'.gens = #[]) (Shared.asleep_of_life hal.2.2.2 hz)
      (wN.mono ht (fun fin s' ⟨f,e,⟨e1,z⟩,l⟩ => ⟨f,e,⟨by rw [e1],z⟩,l⟩) fun u_ u_ z => z)
    subst hr;have g : GoodW rw1.row.toRowW.claim (classAt s.heap) (ExcName.means s.heap) args s₁ (.ok (.ret (.bool true))) s'' := ⟨.inl ⟨_,.bool true,[],rfl,fun u_ => rfl,.bool true,post1 _,fun u_ => ⟨.nil,fun u_ hx => (nomatch hx)⟩⟩,hkp,hos,hge⟩
    have z := (GoodW.laid (c := rw1.row.toRowW.claim) (w := w) rfl (ident_freeW (r := rw1.row.toRowW) rfl rfl rfl) L hlay g).1;obtain ⟨eh,_,_,eo,_⟩ := Shared.forget_eq hfo;have z := z.congr eh;rw [← eo] at hos;have hlife : s'.heap.life = s.heap.life := (runN_life _ _ _ hrun).trans hal.2.2.2;refine nC ?_;clear nC;refine ⟨[.ref a],s₁,hlaid,k,_,s',hsched,?_,(fun u_ i x hx => by rw [hgs] at hx; simp at hx),(fun q => by cases q),by rw [hlife],Shared.rest_eq (hos.trans hal.2.2.1)⟩;rcases z with ⟨v,e,d1,d2,d3,d4,d5⟩ | ⟨e,ob,cls,e',d1,d2,d3,d4,d5⟩
    · injection e with e; injection e with e; subst e
      exact .inl ⟨_,rfl,d1,d2,d3,fun b o y u_ => d4 b o y,d5⟩
    · cases e'
end
section
open PySem PySem.W PyProof.Rows PySem.Calls
set_option backward.match.sparseCases false
noncomputable abbrev KQ (α : Type) := α → Mu → Loc → Prop
inductive Job where
  | e (x : Expr) (Q : KQ V)
  | t (x : Expr) (Q : KQ Bool)
  | a (p : Pos) (l : List Expr) (Q : KQ (List V))
  | s (l : List Stmt) (Q : KQ Fl)
noncomputable def sole {α : Type} : List α → Option α
  | [] => none
  | a :: r => match r with
    | [] => some a
    | _ => none
theorem sole_eq {α : Type} {l : List α} {a : α} (h : sole l = some a) : l = [a] := by
  (apply gG;intro nG; rcases l with _ | ⟨b,_ | ⟨c,r⟩⟩ <;> refine nG ?_ <;> clear nG)
  · cases h
  · cases h; rfl
  · cases h
noncomputable def two {α : Type} : List α → Option (α × α)
  | [] => none
  | a :: r => (sole r).map fun b => (a,b)
theorem two_eq {α : Type} {l : List α} {a b : α} (h : two l = some (a,b)) : l = [a,b] := by
  cases l with
  | nil => cases h
  | cons c r =>
    apply gG;intro nG
    obtain ⟨d,e,q⟩ := Option.map_eq_some_iff.mp h;apply nG;clear nG;cases q; rw [sole_eq e]
noncomputable def isName : Expr → Bool
  | .Name .. => true
  | _ => false
theorem isName_eq {o : Expr} (h : isName o = true) : ∃ x p,o = .Name x p := by
  cases o <;> first | exact nof h | exact ⟨_,_,rfl⟩
noncomputable def noStar : List Expr → Bool
  | [] => true
  | .Starred _ _ :: _ => false
  | _ :: r => noStar r
noncomputable def isTup : Expr → Bool
  | .Tuple .. => true
  | _ => false
noncomputable def isComp : Expr → Bool
  | .ListComp .. | .SetComp .. | .DictComp .. => true
  | _ => false
theorem noStar_any {p : Pos} {env : Env} : ∀ {l : List Expr},noStar l = true → (backTo p (starEach l env)).any (·.1) = false
  | [],_ => rfl
  | e :: r,h => by
    cases e <;> first | exact nof h | exact noStar_any (l := r) h
theorem noStar_each {env : Env} {e : Expr} {r : List Expr} (h : noStar (e :: r) = true) : starEach (e :: r) env = (false,eval e env) :: starEach r env ∧ noStar r = true := by
  cases e <;> first | exact nof h | exact ⟨rfl,h⟩
theorem swaps_no {value : Expr} {tg : Option Expr} {n : Nat} {env : Env} (h : isComp value = false) : swapsWith value tg n env = pure false := by
  cases value <;> first | (cases h; done) | rfl
theorem tup_no {v : Expr} {l : List Expr} {k : Nat} {p : Pos} {env : Env} (h : isTup v = false) : swappedStores [.Tuple l k p] v env = pure none := by
  cases v <;> first | (cases h; done) | rfl
theorem asg_eq {t value : Expr} {pos : Pos} {env : Env} (h1 : isComp value = false) (h2 : swappedStores [t] value env = pure none) (h3 : (List.map (fun x : Bool × (Value → Sem Unit) => x.2) (assignEach [t] env)) = [assign t env]) :
    exec (.Assign [t] value pos) env = (do standAt pos; let v ← eval value env; assign t env v; pure .next) := by
  show (do standAt pos; if ← swapsWithSole [t] value pos.line env then (do evalThenUse value env fun v => assignAll v (List.map (fun x : Bool × (Value → Sem Unit) => x.2) (assignEach [t] env)); pure Flow.next) else (do let v ← eval value env; assignStores env v (← swappedStores [t] value env) (List.map (fun x : Bool × (Value → Sem Unit) => x.2) (assignEach [t] env)))) = _;rw [show swapsWithSole [t] value pos.line env = swapsWith value (some t) pos.line env from rfl,swaps_no h1,h2,h3]
  rfl
section
variable (W : Wd) (Φ : Fx) (ns : List Str) (gs : List (Str × Value))
noncomputable def Job.sem : Job → Mu → Loc → Prop
  | .e x Q,μ,ℓ => X W RV Φ ns gs μ ℓ (eval x Φ.env) Q
  | .t x Q,μ,ℓ => X W RB Φ ns gs μ ℓ (isTrue x Φ.env (eval x Φ.env)) Q
  | .a p l Q,μ,ℓ => X W RL Φ ns gs μ ℓ (spliced (backTo p (starEach l Φ.env))) Q
  | .s l Q,μ,ℓ => X W RF Φ ns gs μ ℓ (execs l Φ.env) Q
noncomputable def iOp (op : Operator) (i j : Int) (Q : KQ V) (μ : Mu) (ℓ : Loc) (L : Prop) : Prop := match op with
  | .Add => Q (.int (i + j)) μ ℓ
  | .Sub => Q (.int (i - j)) μ ℓ
  | .BitAnd => Q (.int (Builtin.bitAnd i j)) μ ℓ
  | _ => L
noncomputable def asInt : V → Option Int
  | .int i => some i
  | _ => none
noncomputable def wBin (op : Operator) (a b : V) (Q : KQ V) (μ : Mu) (ℓ : Loc) : Prop := match asInt a,asInt b with
  | some i,some j => iOp op i j Q μ ℓ (X2 W RV Φ ns gs μ ℓ a b (binaryOp op) Q)
  | _,_ => X2 W RV Φ ns gs μ ℓ a b (binaryOp op) Q
noncomputable def wInp (op : Operator) (a b : V) (Q : KQ V) (μ : Mu) (ℓ : Loc) : Prop := match asInt a,asInt b with
  | some i,some j => iOp op i j Q μ ℓ (X2 W RV Φ ns gs μ ℓ a b (inplaceOp op) Q)
  | _,_ => X2 W RV Φ ns gs μ ℓ a b (inplaceOp op) Q
noncomputable def iUn (op : UnaryOp) (i : Int) (Q : KQ V) (μ : Mu) (ℓ : Loc) (L : Prop) : Prop := match op with
  | .Invert => Q (.int (Builtin.bitNot i)) μ ℓ
  | .USub => Q (.int (-i)) μ ℓ
  | _ => L
noncomputable def wUn (op : UnaryOp) (a : V) (Q : KQ V) (μ : Mu) (ℓ : Loc) : Prop := match asInt a with
  | some i => iUn op i Q μ ℓ (X1 W RV Φ ns gs μ ℓ a (unaryOp op) Q)
  | none => X1 W RV Φ ns gs μ ℓ a (unaryOp op) Q
noncomputable def isNone : V → Bool
  | .none => true
  | _ => false
noncomputable def iCmp (op : CmpOp) (i j : Int) (Q : KQ V) (μ : Mu) (ℓ : Loc) (L : Prop) : Prop := match op with
  | .Lt => Q (.bool (decide (i < j))) μ ℓ
  | .LtE => Q (.bool (decide (i ≤ j))) μ ℓ
  | .Gt => Q (.bool (decide (i > j))) μ ℓ
  | .GtE => Q (.bool (decide (i ≥ j))) μ ℓ
  | .Eq => Q (.bool (i == j)) μ ℓ
  | .NotEq => Q (.bool (i != j)) μ ℓ
  | _ => L
noncomputable def nCmp (op : CmpOp) (c : Bool) (Q : KQ V) (μ : Mu) (ℓ : Loc) (L : Prop) : Prop := match op with
  | .Is => Q (.bool c) μ ℓ
  | .IsNot => Q (.bool (!c)) μ ℓ
  | _ => L
noncomputable def wCmp (op : CmpOp) (a b : V) (Q : KQ V) (μ : Mu) (ℓ : Loc) : Prop := match isNone b,isN a,asInt a,asInt b with
  | true,some c,_,_ => nCmp op c Q μ ℓ (X2 W RV Φ ns gs μ ℓ a b (compareOp op) Q)
  | false,_,some i,some j => iCmp op i j Q μ ℓ (X2 W RV Φ ns gs μ ℓ a b (compareOp op) Q)
  | _,_,_,_ => X2 W RV Φ ns gs μ ℓ a b (compareOp op) Q
noncomputable def wTr (a : V) (Q : KQ Bool) (μ : Mu) (ℓ : Loc) : Prop := match a with
  | .bool b => Q b μ ℓ
  | .int i => Q (i != 0) μ ℓ
  | .none => Q false μ ℓ
  | _ => X1 W RB Φ ns gs μ ℓ a truthy Q
noncomputable def wSet (x : Str) (v : V) (K : Mu → Loc → Prop) (μ : Mu) (ℓ : Loc) : Prop := (∃ ℓ',LocSet ns ℓ x v ℓ' ∧ K μ ℓ') ∨
  (∃ c o μ',Φ.env.kindOf x = some .cell ∧ Φ.env.cells.lookup x = some c ∧ UpdM μ c (.cell o) (.cell (some v)) μ' ∧ K μ' ℓ)
noncomputable def wGet (x : Str) (K : V → Mu → Loc → Prop) (μ : Mu) (ℓ : Loc) : Prop := ∃ a,LocGet ns ℓ x a ∧ K a μ ℓ
noncomputable def wKeep (f : V) (K : Value → Mu → Loc → Prop) (μ : Mu) (ℓ : Loc) : Prop := ∃ v,f = .val v ∧ Keeps W v ∧ K v μ ℓ
@[irreducible] def wIf (b : Bool) (A B : Prop) : Prop := if b = true then A else B
theorem wIf_t {A B : Prop} (h : wIf true A B) : A := by unfold wIf at h; rwa [if_pos rfl] at h
theorem wIf_f {A B : Prop} (h : wIf false A B) : B := by unfold wIf at h; rwa [if_neg (by decide)] at h
noncomputable abbrev kBin2 (op : Operator) (a : V) (Q : KQ V) (b : V) : Mu → Loc → Prop := wBin W Φ ns gs op a b Q
noncomputable abbrev kUn (op : UnaryOp) (Q : KQ V) (a : V) : Mu → Loc → Prop := wUn W Φ ns gs op a Q
noncomputable abbrev kTr (Q : KQ Bool) (v : V) : Mu → Loc → Prop := wTr W Φ ns gs v Q
noncomputable abbrev kCmE (Q : KQ V) (op : CmpOp) (a b : V) : Mu → Loc → Prop := wCmp W Φ ns gs op a b Q
noncomputable abbrev kCmT (Q : KQ Bool) (op : CmpOp) (a b : V) : Mu → Loc → Prop := wCmp W Φ ns gs op a b (kTr W Φ ns gs Q)
noncomputable abbrev kCa3 (f : Value) (Q : KQ V) (vs : List V) (μ : Mu) (ℓ : Loc) : Prop := XL W RV Φ ns gs μ ℓ vs (fun xs => call f xs) Q
noncomputable abbrev kMa3 (fl : Value × List V) (Q : KQ V) (vs : List V) (μ : Mu) (ℓ : Loc) : Prop := XL W RV Φ ns gs μ ℓ (fl.2 ++ vs) (fun xs => call fl.1 xs) Q
noncomputable abbrev kSu2 (o : V) (Q : KQ V) (i : V) (μ : Mu) (ℓ : Loc) : Prop := SubOk μ o ∧ X2 W RV Φ ns gs μ ℓ o i getItem Q
noncomputable abbrev kGa (attr : Str) (Q : KQ V) (o : V) (μ : Mu) (ℓ : Loc) : Prop := X1 W RV Φ ns gs μ ℓ o (fun v => getAttr v attr true) Q
noncomputable abbrev kSt (x : Str) (Q : KQ Fl) (v : V) : Mu → Loc → Prop := wSet Φ ns x v (Q .next)
noncomputable abbrev kNx (Q : KQ Fl) (_ : Unit) : Mu → Loc → Prop := Q .next
noncomputable abbrev kPu2 (attr : Str) (v : V) (Q : KQ Fl) (ov : V) (μ : Mu) (ℓ : Loc) : Prop := X2 W RU Φ ns gs μ ℓ ov v (fun x y => setAttr x attr y) (kNx Q)
noncomputable abbrev kSs3 (ov v : V) (Q : KQ Fl) (iv : V) (μ : Mu) (ℓ : Loc) : Prop := X3 W RU Φ ns gs μ ℓ ov iv v setItem (kNx Q)
noncomputable abbrev kUt (l : List Expr) (k : Nat) (p : Pos) (Q : KQ Fl) (v : V) (μ : Mu) (ℓ : Loc) : Prop := X1 W RU Φ ns gs μ ℓ v (assign (.Tuple l k p) Φ.env) (kNx Q)
noncomputable abbrev kAu2 (op : Operator) (x : Str) (a : V) (Q : KQ Fl) (v : V) : Mu → Loc → Prop := wInp W Φ ns gs op a v (kSt Φ ns x Q)
noncomputable abbrev kTu (Q : KQ V) (l : List V) (μ : Mu) (ℓ : Loc) : Prop := l.length ≤ 1000000 ∧ Q (.tup l) μ ℓ
noncomputable abbrev kAr2 (v : V) (Q : KQ (List V)) (vs : List V) : Mu → Loc → Prop := Q (v :: vs)
noncomputable abbrev kNot (Q : KQ Bool) (b : Bool) : Mu → Loc → Prop := Q (!b)
noncomputable abbrev kSl2 (a : V) (Q : KQ V) (b : V) : Mu → Loc → Prop := Q (.slc a b)
noncomputable abbrev kEx (Q : KQ Fl) (_ : V) : Mu → Loc → Prop := Q .next
noncomputable abbrev kRe (Q : KQ Fl) (v : V) : Mu → Loc → Prop := Q (.ret v)
noncomputable abbrev kAllB (op : BoolOp) (R : Mu → Loc → Prop) (Q : KQ Bool) (b : Bool) (μ : Mu) (ℓ : Loc) : Prop := wIf b (match op with | .And => R μ ℓ | .Or => Q true μ ℓ) (match op with | .And => Q false μ ℓ | .Or => R μ ℓ)
variable (g : Job → Mu → Loc → Prop)
noncomputable abbrev kBin1 (op : Operator) (r : Expr) (Q : KQ V) (a : V) : Mu → Loc → Prop := g (.e r (kBin2 W Φ ns gs op a Q))
noncomputable abbrev kCm1 (r : Expr) (K : V → V → Mu → Loc → Prop) (a : V) : Mu → Loc → Prop := g (.e r (K a))
noncomputable abbrev kCa2 (args : List Expr) (pos : Pos) (Q : KQ V) (f : Value) : Mu → Loc → Prop := g (.a pos args (kCa3 W Φ ns gs f Q))
noncomputable abbrev kCa1 (args : List Expr) (pos : Pos) (Q : KQ V) (f : V) : Mu → Loc → Prop := wKeep W f (kCa2 W Φ ns gs g args pos Q)
noncomputable abbrev kMa2 (args : List Expr) (pos : Pos) (Q : KQ V) (fl : Value × List V) (μ : Mu) (ℓ : Loc) : Prop := Keeps W fl.1 ∧ g (.a pos args (kMa3 W Φ ns gs fl Q)) μ ℓ
noncomputable abbrev kMa1 (o : Expr) (name : Str) (args : List Expr) (pos : Pos) (Q : KQ V) (ov : V) (μ : Mu) (ℓ : Loc) : Prop := X1 W RM Φ ns gs μ ℓ ov (fun v => getMethod v name (do return (← importBound o Φ.env).getD true)) (kMa2 W Φ ns gs g args pos Q)
noncomputable abbrev kAnd2 (y : Expr) (a : V) (Q : KQ V) (b : Bool) (μ : Mu) (ℓ : Loc) : Prop := wIf b (g (.e y Q) μ ℓ) (Q a μ ℓ)
noncomputable abbrev kOr2 (y : Expr) (a : V) (Q : KQ V) (b : Bool) (μ : Mu) (ℓ : Loc) : Prop := wIf b (Q a μ ℓ) (g (.e y Q) μ ℓ)
noncomputable abbrev kAnd1 (y : Expr) (Q : KQ V) (a : V) : Mu → Loc → Prop := wTr W Φ ns gs a (kAnd2 g y a Q)
noncomputable abbrev kOr1 (y : Expr) (Q : KQ V) (a : V) : Mu → Loc → Prop := wTr W Φ ns gs a (kOr2 g y a Q)
noncomputable abbrev kIf (b o : Expr) (Q : KQ V) (c : Bool) (μ : Mu) (ℓ : Loc) : Prop := wIf c (g (.e b Q) μ ℓ) (g (.e o Q) μ ℓ)
noncomputable abbrev kIs (b o : List Stmt) (Q : KQ Fl) (c : Bool) (μ : Mu) (ℓ : Loc) : Prop := wIf c (g (.s b Q) μ ℓ) (g (.s o Q) μ ℓ)
noncomputable abbrev kAr1 (p : Pos) (r : List Expr) (Q : KQ (List V)) (v : V) : Mu → Loc → Prop := g (.a p r (kAr2 v Q))
noncomputable abbrev kPu1 (o : Expr) (attr : Str) (Q : KQ Fl) (v : V) : Mu → Loc → Prop := g (.e o (kPu2 W Φ ns gs attr v Q))
noncomputable abbrev kAu1 (op : Operator) (x : Str) (value : Expr) (Q : KQ Fl) (a : V) : Mu → Loc → Prop := g (.e value (kAu2 W Φ ns gs op x a Q))
noncomputable def seqV (rest : List Stmt) (Q : KQ Fl) : KQ Fl := fun f μ ℓ => match f with
  | .next => g (.s rest Q) μ ℓ
  | f => Q f μ ℓ
noncomputable def part (o : Option Expr) (Q : KQ V) (μ : Mu) (ℓ : Loc) : Prop := match o with
  | none => Q .none μ ℓ
  | some e => g (.e e Q) μ ℓ
noncomputable abbrev kSl1 (u : Option Expr) (Q : KQ V) (a : V) : Mu → Loc → Prop := part g u (kSl2 a Q)
noncomputable def wIx (i : Expr) (Q : KQ V) (μ : Mu) (ℓ : Loc) : Prop := match i with
  | .Slice l u s p => (match s with
    | none => part g l (kSl1 g u Q) μ ℓ
    | some s => X W RV Φ ns gs μ ℓ (eval (.Slice l u (some s) p) Φ.env) Q)
  | i => g (.e i Q) μ ℓ
noncomputable abbrev kSu1 (i : Expr) (Q : KQ V) (o : V) : Mu → Loc → Prop := wIx W Φ ns gs g i (kSu2 W Φ ns gs o Q)
noncomputable abbrev kSs2 (i : Expr) (v : V) (Q : KQ Fl) (ov : V) : Mu → Loc → Prop := wIx W Φ ns gs g i (kSs3 W Φ ns gs ov v Q)
noncomputable abbrev kSs1 (o i : Expr) (Q : KQ Fl) (v : V) : Mu → Loc → Prop := g (.e o (kSs2 W Φ ns gs g i v Q))
noncomputable def cE (c : Const) (L : Prop) (Q : KQ V) (μ : Mu) (ℓ : Loc) : Prop := match c with
  | .int i => Q (.int i) μ ℓ
  | .none => Q .none μ ℓ
  | .bool b => Q (.bool b) μ ℓ
  | .str s => Q (.str s) μ ℓ
  | .bytes b => Q (.bytes b) μ ℓ
  | _ => L
noncomputable def cmpE (l : Expr) (ops : List CmpOp) (rs : List Expr) (L : Prop) (K : CmpOp → V → V → Mu → Loc → Prop) (μ : Mu) (ℓ : Loc) : Prop := match sole ops,sole rs with
  | some op,some r => (match behindInMarks op r with
    | false => g (.e l (kCm1 g r (K op))) μ ℓ
    | true => L)
  | _,_ => L
noncomputable def callE (f : Expr) (args : List Expr) (pos : Pos) (L : Prop) (Q : KQ V) (μ : Mu) (ℓ : Loc) : Prop := match f with
  | .Name x p => (match noStar args with
    | true => g (.e (.Name x p) (kCa1 W Φ ns gs g args pos Q)) μ ℓ
    | false => L)
  | .Attribute o name apos => (match isName o && (noStar args && (decide (args.length < 30) && apos.endLine == pos.line)) with
    | true => g (.e o (kMa1 W Φ ns gs g o name args pos Q)) μ ℓ
    | false => L)
  | _ => L
noncomputable def boolE (op : BoolOp) (l : List Expr) (L : Prop) (Q : KQ V) (μ : Mu) (ℓ : Loc) : Prop := match two l with
  | some q => (match op with
    | .And => g (.e q.1 (kAnd1 W Φ ns gs g q.2 Q)) μ ℓ
    | .Or => g (.e q.1 (kOr1 W Φ ns gs g q.2 Q)) μ ℓ)
  | none => L
noncomputable def stepE (x : Expr) (Q : KQ V) (μ : Mu) (ℓ : Loc) : Prop := match x with
  | .Constant c k p => cE c (X W RV Φ ns gs μ ℓ (eval (.Constant c k p) Φ.env) Q) Q μ ℓ
  | .BinOp l op r _ => g (.e l (kBin1 W Φ ns gs g op r Q)) μ ℓ
  | .UnaryOp op x p => (match op with
    | .Not => X W RV Φ ns gs μ ℓ (eval (.UnaryOp .Not x p) Φ.env) Q
    | op => g (.e x (kUn W Φ ns gs op Q)) μ ℓ)
  | .Compare l ops rs p => cmpE g l ops rs (X W RV Φ ns gs μ ℓ (eval (.Compare l ops rs p) Φ.env) Q) (kCmE W Φ ns gs Q) μ ℓ
  | .Attribute o attr p => (match isName o with
    | true => g (.e o (kGa W Φ ns gs attr Q)) μ ℓ
    | false => X W RV Φ ns gs μ ℓ (eval (.Attribute o attr p) Φ.env) Q)
  | .Call f args kw pos => (match kw with
    | [] => callE W Φ ns gs g f args pos (X W RV Φ ns gs μ ℓ (eval (.Call f args [] pos) Φ.env) Q) Q μ ℓ
    | k :: kw => X W RV Φ ns gs μ ℓ (eval (.Call f args (k :: kw) pos) Φ.env) Q)
  | .Subscript value i _ => g (.e value (kSu1 W Φ ns gs g i Q)) μ ℓ
  | .Tuple elts k pos => (match noStar elts with
    | true => g (.a pos elts (kTu Q)) μ ℓ
    | false => X W RV Φ ns gs μ ℓ (eval (.Tuple elts k pos) Φ.env) Q)
  | .IfExp t b o _ => g (.t t (kIf g b o Q)) μ ℓ
  | .BoolOp op l p => boolE W Φ ns gs g op l (X W RV Φ ns gs μ ℓ (eval (.BoolOp op l p) Φ.env) Q) Q μ ℓ
  | x => X W RV Φ ns gs μ ℓ (eval x Φ.env) Q
noncomputable def wAll (op : BoolOp) (l : List Expr) (Q : KQ Bool) (μ : Mu) (ℓ : Loc) : Prop := match l with
  | [] => Q (op == .And) μ ℓ
  | x :: r => g (.t x (kAllB op (wAll op r Q) Q)) μ ℓ
noncomputable def cmp2T (l : Expr) (ops : List CmpOp) (rs : List Expr) (L : Prop) (Q : KQ Bool) (μ : Mu) (ℓ : Loc) : Prop := match two ops,two rs with
  | some (op,op'),some (m,r) => (match behindInMarks op' r with
    | false => g (.e l fun a => g (.e m fun b => wCmp W Φ ns gs op a b fun c => wTr W Φ ns gs c fun t μ ℓ => wIf t (g (.e r fun d => wCmp W Φ ns gs op' b d fun c => wTr W Φ ns gs c Q) μ ℓ) (Q false μ ℓ))) μ ℓ
    | true => L)
  | _,_ => L
noncomputable def stepT (x : Expr) (Q : KQ Bool) (μ : Mu) (ℓ : Loc) : Prop := match x with
  | .UnaryOp op x p => (match op with
    | .Not => g (.t x (kNot Q)) μ ℓ
    | op => X W RB Φ ns gs μ ℓ (isTrue (.UnaryOp op x p) Φ.env (eval (.UnaryOp op x p) Φ.env)) Q)
  | .BoolOp op l _ => wAll g op l Q μ ℓ
  | .Compare l ops rs p => cmpE g l ops rs (cmp2T W Φ ns gs g l ops rs (X W RB Φ ns gs μ ℓ (isTrue (.Compare l ops rs p) Φ.env (eval (.Compare l ops rs p) Φ.env)) Q) Q μ ℓ) (kCmT W Φ ns gs Q) μ ℓ
  | .Name x p => g (.e (.Name x p) (kTr W Φ ns gs Q)) μ ℓ
  | .Attribute o a p => g (.e (.Attribute o a p) (kTr W Φ ns gs Q)) μ ℓ
  | .Subscript o i p => g (.e (.Subscript o i p) (kTr W Φ ns gs Q)) μ ℓ
  | .Call f l k p => g (.e (.Call f l k p) (kTr W Φ ns gs Q)) μ ℓ
  | x => X W RB Φ ns gs μ ℓ (isTrue x Φ.env (eval x Φ.env)) Q
noncomputable def stepA (p : Pos) (l : List Expr) (Q : KQ (List V)) (μ : Mu) (ℓ : Loc) : Prop := match noStar l with
  | true => (match l with
    | [] => Q [] μ ℓ
    | e :: r => g (.e e (kAr1 g p r Q)) μ ℓ)
  | false => X W RL Φ ns gs μ ℓ (spliced (backTo p (starEach l Φ.env))) Q
noncomputable def asgT (t : Expr) (L : Prop) (value : Expr) (Q : KQ Fl) (μ : Mu) (ℓ : Loc) : Prop := match t with
  | .Name x _ => g (.e value (kSt Φ ns x Q)) μ ℓ
  | .Attribute o attr _ => g (.e value (kPu1 W Φ ns gs g o attr Q)) μ ℓ
  | .Subscript o i _ => g (.e value (kSs1 W Φ ns gs g o i Q)) μ ℓ
  | .Tuple l k p => (match isTup value with
    | false => g (.e value (kUt W Φ ns gs l k p Q)) μ ℓ
    | true => L)
  | _ => L
noncomputable def augT (t : Expr) (op : Operator) (value : Expr) (L : Prop) (Q : KQ Fl) (μ : Mu) (ℓ : Loc) : Prop := match t with
  | .Name x _ => wGet ns x (kAu1 W Φ ns gs g op x value Q) μ ℓ
  | _ => L
noncomputable def stepX (st : Stmt) (Q : KQ Fl) (μ : Mu) (ℓ : Loc) : Prop := match st with
  | .Expr e p => (match isComp e with
    | false => g (.e e (kEx Q)) μ ℓ
    | true => X W RF Φ ns gs μ ℓ (exec (.Expr e p) Φ.env) Q)
  | .Assign ts value p => (match sole ts,isComp value with
    | some t,false => asgT W Φ ns gs g t (X W RF Φ ns gs μ ℓ (exec (.Assign ts value p) Φ.env) Q) value Q μ ℓ
    | _,_ => X W RF Φ ns gs μ ℓ (exec (.Assign ts value p) Φ.env) Q)
  | .AugAssign t op value p => augT W Φ ns gs g t op value (X W RF Φ ns gs μ ℓ (exec (.AugAssign t op value p) Φ.env) Q) Q μ ℓ
  | .Return e _ => (match e with
    | some e => g (.e e (kRe Q)) μ ℓ
    | none => Q (.ret .none) μ ℓ)
  | .Continue _ => Q .cont μ ℓ
  | .If t b o _ => g (.t t (kIs g b o Q)) μ ℓ
  | st => X W RF Φ ns gs μ ℓ (exec st Φ.env) Q
noncomputable def stepJ : Job → Mu → Loc → Prop
  | .e x Q => stepE W Φ ns gs g x Q
  | .t x Q => stepT W Φ ns gs g x Q
  | .a p l Q => stepA W Φ ns gs g p l Q
  | .s l Q => match l with
    | [] => Q .next
    | st :: r => stepX W Φ ns gs g st (seqV g r Q)
noncomputable def vg : Nat → Job → Mu → Loc → Prop
  | 0 => Job.sem W Φ ns gs
  | n + 1 => stepJ W Φ ns gs (vg n)
end
section
variable {W : Wd} {Φ : Fx} {ns : List Str} {gs : List (Str × Value)} {μ : Mu} {ℓ : Loc}
theorem wBin_ok {op : Operator} {a b : V} {Q : KQ V} (h : wBin W Φ ns gs op a b Q μ ℓ) : X2 W RV Φ ns gs μ ℓ a b (binaryOp op) Q := by
  cases a <;> try exact h
  cases b <;> try exact h
  cases op <;> first | exact o_add h | exact o_sub h | exact o_and h | exact h
theorem wInp_ok {op : Operator} {a b : V} {Q : KQ V} (h : wInp W Φ ns gs op a b Q μ ℓ) : X2 W RV Φ ns gs μ ℓ a b (inplaceOp op) Q := by
  cases a <;> try exact h
  cases b <;> try exact h
  cases op <;> first | exact i_add h | exact i_sub h | exact i_and h | exact h
theorem wUn_ok {op : UnaryOp} {a : V} {Q : KQ V} (h : wUn W Φ ns gs op a Q μ ℓ) : X1 W RV Φ ns gs μ ℓ a (unaryOp op) Q := by
  cases a <;> try exact h
  cases op <;> first | exact u_inv h | exact u_neg h | exact h
theorem wCmp_ok {op : CmpOp} {a b : V} {Q : KQ V} (h : wCmp W Φ ns gs op a b Q μ ℓ) : X2 W RV Φ ns gs μ ℓ a b (compareOp op) Q := by
  unfold wCmp at h;cases e : isNone b with
  | true =>
    rw [e] at h;have eb : b = .none := by cases b <;> first | rfl | cases e
    subst eb;cases e2 : isN a with
    | none => rw [e2] at h; exact h
    | some c => rw [e2] at h; cases op <;> first | exact c_is e2 h | exact c_isnot e2 h | exact h
  | false =>
    rw [e] at h;cases a <;> try exact h
    cases b <;> try exact h
    cases op <;> first | exact c_lt h | exact c_le h | exact c_gt h | exact c_ge h | exact c_eq h | exact c_ne h | exact h
theorem wTr_ok {a : V} {Q : KQ Bool} (h : wTr W Φ ns gs a Q μ ℓ) : X1 W RB Φ ns gs μ ℓ a truthy Q := by
  cases a <;> first | exact t_bool h | exact t_int h | exact t_none h | exact h
theorem cell_set {env : Env} {name : Str} {c : Addr} {v₀ : Option Value} {o : Obj} {v : Value} {M : Model} {A : Around} {E : Value → Shared → Prop} {s : Shared} {Q : Unit → Shared → Prop} (hk : env.scope.kind = .function) (hl : env.kindOf name = some .cell)
    (hc : env.cells.lookup name = some c) (ho : s.heap.get? c = some o) (hd : o.data = .cell v₀) (h : Q () { s with heap := s.heap.update c fun o => { o with data := .cell (some v) } }) : wpAny M A (storeName env name v) Q E s := by
  unfold storeName;rw [hl,hk];refine wpAny_bind (wpAny_cellOf hc ?_);unfold cellSet;refine wpAny_bind (wpAny_load ho ?_);rw [hd];exact wpAny_update ho h
theorem xs_assignC {x : Str} {pos' pos : Pos} {value : Expr} {Q : Fl → Mu → Loc → Prop} (h : X W RV Φ ns gs μ ℓ (eval value Φ.env) fun v => wSet Φ ns x v (Q .next))
    (hs : swapsWith value (some (.Name x pos')) pos.line Φ.env = pure false := by rfl) : X W RF Φ ns gs μ ℓ (exec (.Assign [.Name x pos'] value pos) Φ.env) Q := by
  intro s F G O I;rw [exec_Assign_Name Φ.env x pos' value pos hs];refine .stand (.bind (stepQ (h s F G O I) fun s₁ F₁ y μ₁ ℓ₁ v i₁ e₁ hv q₁ => .stand ?_))
  (apply gG;intro nG; rcases q₁ with ⟨ℓ',g,q⟩ | ⟨c,o,μ',hk,hc,U,q⟩ <;> refine nG ?_ <;> clear nG)
  · exact wN.mono (store_name O i₁ hv g q) (fun u_ u_ z => z.ext e₁) (fun u_ u_ z => z)
  · apply gG;intro nG
    obtain ⟨ob,ho,w,hd,_⟩ := i₁.cell U.mem;apply nG;clear nG;refine .bind (.of fun Γ p hΓ => ?_);rw [Sem.wp_bindName];refine cell_set (Q := fun u_ s' => wN W.M Φ.A (pure Flow.next) (Res W RF Φ ns F s.heap Q) (fun u_ u_ => False) s') O.kind hk hc ho hd ?_ Γ p hΓ;refine .pure ?_;obtain ⟨i,e⟩ := i₁.upd (f := fun o => { o with data := .cell (some y) }) (k := s₁.toks) U ho ⟨_,rfl,_,rfl,hv⟩ rfl;exact ⟨F₁,.next,μ',_,i,e₁.trans e,.next,q⟩
theorem x_cell {x : Str} {pos : Pos} {c : Addr} {v : V} {Q : V → Mu → Loc → Prop} (hk : Φ.env.kindOf x = some .cell) (hc : Φ.env.cells.lookup x = some c) (hm : (c,Ce.cell (some v)) ∈ μ) (q : Q v μ ℓ) (hd : (x == ("__debug__" : Str)) = false := by rfl) : X W RV Φ ns gs μ ℓ (eval (.Name x pos) Φ.env) Q := by
  intro s F G O I;apply gG;intro nG
  obtain ⟨o,ho,y,hy,z,rfl,hz⟩ := I.cell hm;apply nG;clear nG;exact .of <| wpAny_Name (wpAny_loadName_cell O.kind hk hc ⟨o,ho,hy⟩ (res_here I hz q)) hd
theorem xs_ok {α β : Type} {R : Heap → (Addr → Prop) → β → α → Prop} {t : Sem α} {Q Q' : β → Mu → Loc → Prop} (h : X W R Φ ns gs μ ℓ t Q) (k : ∀ {b μ ℓ},Q b μ ℓ → Q' b μ ℓ) : X W R Φ ns gs μ ℓ t Q' := x_mono h fun u_ u_ u_ => k
variable {g : Job → Mu → Loc → Prop} (hg : ∀ {j μ ℓ},g j μ ℓ → j.sem W Φ ns gs μ ℓ)
include hg
theorem part_ok {o : Option Expr} {Q : KQ V} (h : part g o Q μ ℓ) : X W RV Φ ns gs μ ℓ (valueOrNone (evalOpt o Φ.env)) Q := by
  cases o
  · exact x_part_none h
  · exact x_part_some (hg h)
set_option tactic.hygienic true in
theorem wIx_ok {i : Expr} {Q : KQ V} (h : wIx W Φ ns gs g i Q μ ℓ) : X W RV Φ ns gs μ ℓ (eval i Φ.env) Q := by
  cases i <;> try exact hg h
  rename_i l u s p
  cases s
  · exact x_Slice (xs_ok (part_ok hg (Q := fun a => part g u fun b => Q (.slc a b)) h) fun h => part_ok hg h)
  · exact h
theorem cmpE_ok {l : Expr} {ops : List CmpOp} {rs : List Expr} {L : Prop} {K : CmpOp → V → V → Mu → Loc → Prop} (h : cmpE g l ops rs L K μ ℓ) :
    L ∨ ∃ op r,ops = [op] ∧ rs = [r] ∧ behindInMarks op r = false ∧ X W RV Φ ns gs μ ℓ (eval l Φ.env) fun a μ ℓ => X W RV Φ ns gs μ ℓ (eval r Φ.env) fun b => K op a b := by
  unfold cmpE at h;cases e1 : sole ops with
  | none => rw [e1] at h; exact .inl h
  | some op =>
    cases e2 : sole rs with
    | none => rw [e1,e2] at h; exact .inl h
    | some r =>
      rw [e1,e2] at h;dsimp only at h;cases e3 : behindInMarks op r with
      | true => rw [e3] at h; exact .inl h
      | false => rw [e3] at h; exact .inr ⟨op,r,sole_eq e1,sole_eq e2,e3,xs_ok (hg h) fun h => hg h⟩
set_option tactic.hygienic true in
theorem callE_ok {f : Expr} {args : List Expr} {pos : Pos} {L : Prop} {Q : KQ V} (h : callE W Φ ns gs g f args pos L Q μ ℓ) : L ∨ X W RV Φ ns gs μ ℓ (eval (.Call f args [] pos) Φ.env) Q := by
  cases f <;> try exact .inl h
  · rename_i o name apos
    change (match isName o && (noStar args && (decide (args.length < 30) && apos.endLine == pos.line)) with | true => _ | false => L) at h;cases e : isName o && (noStar args && (decide (args.length < 30) && apos.endLine == pos.line)) with
    | false => rw [e] at h; exact .inl h
    | true =>
      rw [e] at h;simp only [Bool.and_eq_true,decide_eq_true_eq] at e;apply gG;intro nG
      obtain ⟨e0,e1,e2,e3⟩ := e;obtain ⟨x,p,rfl⟩ := isName_eq e0;apply nG;clear nG;refine .inr (x_mcall (pl := (do return (← importBound (.Name x p) Φ.env).getD true)) (xs_ok (hg h) fun h => fun s F x G O I hx => wN.mono (h s F x G O I hx) (fun u_ u_ r => Res.mono r fun _ _ _ ⟨k,h⟩ => ⟨k,hg h⟩) fun u_ u_ z => z) ?_ (noStar_any e1));have f1 : methodCallForm (args.length + ([] : List Keyword).length) (backTo pos (starEach args Φ.env)) (backToKw pos (keywordEach [] Φ.env)) = true := by
        unfold methodCallForm;have : (backTo pos (starEach args Φ.env)).all (fun x => !x.1) = true := by
          have := noStar_any (p := pos) (env := Φ.env) e1;rw [List.any_eq_false] at this;exact List.all_eq_true.mpr fun x hx => by have := this x hx; simpa using this
        rw [this];simp only [List.length_nil,Nat.add_zero,Bool.true_and,Bool.and_eq_true,decide_eq_true_eq];refine ⟨rfl,?_⟩;show args.length + 0 < 30;exact q532 e2
      show (do let ov ← eval (.Name x p) Φ.env; standAt apos.atName; methodCall (.Name x p) name apos pos Φ.env ov (args.length + ([] : List Keyword).length) (backTo pos (starEach args Φ.env)) (backToKw pos (keywordEach [] Φ.env))) = _;unfold methodCall;rw [f1];have f2 : methodCallPos true (.Name x p) Φ.env apos pos = pure pos := by
        unfold methodCallPos;rw [show (!true || apos.endLine == pos.line) = true from by rw [e3]; rfl]
        rfl
      rw [f2]
      rfl
  · rename_i x p
    change (match noStar args with | true => _ | false => L) at h;cases e : noStar args with
    | false => rw [e] at h; exact .inl h
    | true => rw [e] at h; exact .inr (x_call (xs_ok (hg h) fun ⟨f,e1,k,h⟩ => ⟨f,e1,k,hg h⟩) (by rfl) (noStar_any e))
set_option tactic.hygienic true in
theorem stepE_ok {x : Expr} {Q : KQ V} (h : stepE W Φ ns gs g x Q μ ℓ) : X W RV Φ ns gs μ ℓ (eval x Φ.env) Q := by
  cases x <;> try exact h
  case Constant c k p => cases c <;> first | exact x_int h | exact x_none h | exact x_bool h | exact x_str h | exact x_bytes h | exact h
  case BinOp => exact x_BinOp (xs_ok (hg h) fun h => xs_ok (hg h) fun h => wBin_ok h)
  case UnaryOp op x p => cases op <;> first | exact h | exact x_unary (xs_ok (hg h) fun h => wUn_ok h)
  case Compare l ops rs p =>
    (apply gG;intro nG; rcases cmpE_ok hg h with h | ⟨op,r,rfl,rfl,e,h⟩ <;> refine nG ?_ <;> clear nG)
    · exact h
    · exact x_cmp (xs_ok h fun h => xs_ok h fun h => wCmp_ok h) e
  case Attribute o attr p =>
    change (match isName o with | true => _ | false => _) at h;cases e : isName o with
    | false => rw [e] at h; exact h
    | true =>
      rw [e] at h;apply gG;intro nG
      obtain ⟨x,q,rfl⟩ := isName_eq e;apply nG;clear nG;exact x_attr (hg h)
  case Call f args kw pos =>
    cases kw with
    | nil => exact (callE_ok hg h).elim id id
    | cons => exact h
  case Subscript value i p =>
    refine x_sub (xs_ok (hg h) fun h => wIx_ok hg h) ?_;cases i <;> try exact .inl fun u_ u_ => rfl
    rename_i l u s pp
    cases s
    · exact .inr fun u_ u_ => rfl
    · exact .inl fun u_ u_ => rfl
  case Tuple elts k pos =>
    change (match noStar elts with | true => _ | false => _) at h;cases e : noStar elts with
    | false => rw [e] at h; exact h
    | true => rw [e] at h; exact x_Tuple (hg h)
  case IfExp => exact x_ifexp (xs_ok (hg h) fun {b u_ u_} h => by cases b <;> first | exact hg (wIf_f h) | exact hg (wIf_t h))
  case BoolOp op l p =>
    change boolE W Φ ns gs g op l _ Q μ ℓ at h;unfold boolE at h;cases e : two l with
    | none => rw [e] at h; exact h
    | some q =>
      obtain ⟨x,y⟩ := q;rw [e] at h;rw [two_eq e];cases op
      · refine x_and2 (xs_ok (hg h) fun h => x1_mono (wTr_ok h) fun b u_ u_ h => ?_);cases b
        · exact wIf_f h
        · exact hg (wIf_t h)
      · refine x_or2 (xs_ok (hg h) fun h => x1_mono (wTr_ok h) fun b u_ u_ h => ?_);cases b
        · exact hg (wIf_f h)
        · exact wIf_t h
theorem wAll_ok {op : BoolOp} {Q : KQ Bool} : ∀ {l : List Expr} {μ : Mu} {ℓ : Loc},wAll g op l Q μ ℓ → X W RB Φ ns gs μ ℓ (allTrue op l Φ.env) Q
  | [],_,_,h => by
    cases op
    · exact xa_and_nil h
    · exact xa_or_nil h
  | x :: r,_,_,h => by
    cases op
    · exact xa_and (xs_ok (hg h) fun {b u_ u_} h => by
        cases b
        · exact wIf_f h
        · exact wAll_ok (l := r) (wIf_t h))
    · exact xa_or (xs_ok (hg h) fun {b u_ u_} h => by
        cases b
        · exact wAll_ok (l := r) (wIf_f h)
        · exact wIf_t h)
set_option tactic.hygienic true in
theorem stepT_ok {x : Expr} {Q : KQ Bool} (h : stepT W Φ ns gs g x Q μ ℓ) : X W RB Φ ns gs μ ℓ (isTrue x Φ.env (eval x Φ.env)) Q := by
  cases x <;> try exact h
  case UnaryOp op x p => cases op <;> first | exact h | exact xt_not (hg h)
  case BoolOp => exact xt_bool (wAll_ok hg h)
  case Compare l ops rs p =>
    (apply gG;intro nG; rcases cmpE_ok hg h with h | ⟨op,r,rfl,rfl,e,h⟩ <;> refine nG ?_ <;> clear nG)
    · unfold cmp2T at h;cases e1 : two ops with
      | none => rw [e1] at h; exact h
      | some q =>
        cases e2 : two rs with
        | none => rw [e1,e2] at h; exact h
        | some q' =>
          rw [e1,e2] at h;apply gG;intro nG
          obtain ⟨op,op'⟩ := q;obtain ⟨m,r⟩ := q';apply nG;clear nG;dsimp only at h;cases e3 : behindInMarks op' r with
          | true => rw [e3] at h; exact h
          | false =>
            rw [e3] at h;rw [two_eq e1,two_eq e2];refine xt_cmp2 (xs_ok (hg h) fun h => xs_ok (hg h) fun h => x2_mono (wCmp_ok h) fun u_ u_ u_ h => x1_mono (wTr_ok h) fun b u_ u_ h => ?_) e3;cases b
            · exact wIf_f h
            · exact xs_ok (hg (wIf_t h)) fun h => x2_mono (wCmp_ok h) fun u_ u_ u_ h => wTr_ok h
    · exact xt_cmp (xs_ok h fun h => xs_ok h fun h => x2_mono (wCmp_ok h) fun u_ u_ u_ h => wTr_ok h) e
  all_goals exact xt_value (xs_ok (hg h) fun h => wTr_ok h) fun u_ => rfl
theorem stepA_ok {p : Pos} {l : List Expr} {Q : KQ (List V)} (h : stepA W Φ ns gs g p l Q μ ℓ) : X W RL Φ ns gs μ ℓ (spliced (backTo p (starEach l Φ.env))) Q := by
  unfold stepA at h;cases e : noStar l with
  | false => rw [e] at h; exact h
  | true =>
    rw [e] at h;cases l with
    | nil => exact xargs_nil h
    | cons x r => exact xargs_cons (xs_ok (hg h) fun h => hg h) (noStar_each e).1
set_option tactic.hygienic true in
theorem stepX_ok {st : Stmt} {Q : KQ Fl} (h : stepX W Φ ns gs g st Q μ ℓ) : X W RF Φ ns gs μ ℓ (exec st Φ.env) Q := by
  cases st <;> try exact h
  case Expr e p =>
    change (match isComp e with | false => _ | true => _) at h;cases q : isComp e with
    | true => rw [q] at h; exact h
    | false => rw [q] at h; exact xs_expr (hg h) (swaps_no q)
  case Assign ts value p =>
    change (match sole ts,isComp value with | some t,false => _ | _,_ => _) at h;cases q : sole ts with
    | none => rw [q] at h; exact h
    | some t =>
      cases e : isComp value with
      | true => rw [q,e] at h; exact h
      | false =>
        rw [q,e] at h;rw [sole_eq q] at h ⊢;cases t <;> try exact h
        case Name => exact xs_assignC (xs_ok (hg h) fun h => h) (swaps_no e)
        case Attribute => exact xs_put (xs_ok (hg h) fun h => a_attr (hg h)) (asg_eq e rfl rfl)
        case Subscript => exact xs_put (xs_ok (hg h) fun h => a_sub (xs_ok (hg h) fun h => wIx_ok hg h)) (asg_eq e rfl rfl)
        case Tuple l k pp =>
          change (match isTup value with | false => _ | true => _) at h;cases q : isTup value with
          | true => rw [q] at h; exact h
          | false => rw [q] at h; exact xs_put (hg h) (asg_eq e (tup_no q) rfl)
  case AugAssign t op value p =>
    cases t <;> try exact h
    apply gG;intro nG
    obtain ⟨a,l,h⟩ := h;apply nG;clear nG;exact fun s F G O I => xs_aug l (xs_ok (hg h) fun h => x2_mono (wInp_ok h) fun u_ u_ u_ h => by
      (apply gG;intro nG; rcases h with h | ⟨c,o,μ',hk,_⟩ <;> refine nG ?_ <;> clear nG)
      · exact h
      · have := (O.loc _ l.mem).1; rw [hk] at this; cases this) s F G O I
  case Return e p =>
    cases e
    · exact xs_return_none h
    · exact xs_return (hg h)
  case Continue => exact xs_continue h
  case If => exact xs_if (xs_ok (hg h) fun {b u_ u_} h => by cases b <;> first | exact hg (wIf_f h) | exact hg (wIf_t h))
theorem stepJ_ok {j : Job} (h : stepJ W Φ ns gs g j μ ℓ) : j.sem W Φ ns gs μ ℓ := by
  cases j with
  | e x Q => exact stepE_ok hg h
  | t x Q => exact stepT_ok hg h
  | a p l Q => exact stepA_ok hg h
  | s l Q =>
    cases l with
    | nil => exact xs_nil h
    | cons st r => exact xs_cons (xs_ok (stepX_ok hg h) fun {f u_ u_} h => by cases f <;> first | exact hg h | exact h)
end
section
variable {W : Wd} {Φ : Fx} {ns : List Str} {gs : List (Str × Value)}
theorem vg_ok : ∀ (n : Nat) {j : Job} {μ : Mu} {ℓ : Loc},vg W Φ ns gs n j μ ℓ → j.sem W Φ ns gs μ ℓ
  | 0,_,_,_,h => h
  | n + 1,_,_,_,h => stepJ_ok (vg_ok n) h
end
end
section
open PySem PySem.W PySem.Calls PyProof.Rows
theorem at_ {l : List Bool} {b : Bool} (h : l.all id = true) (i : Nat) (e : l[i]? = some b) : b = true := List.all_eq_true.mp h b (List.mem_of_getElem? e)
theorem fat {K : Frag} (h : Kn K) (i : Nat) {a b : Option (Arguments × List Stmt × Scope × Value)} (e1 : (fnTab K)[i]? = some a) (e2 : fnGood[i]? = some b) : a = b := Option.some.inj (e1.symm.trans ((congrArg (·[i]?) h.f).trans e2))
section
variable {K : Frag} (h : Kn K)
include h
theorem fk0 : (fb0 K).all id = true := at_ h.b 0 rfl
theorem fk1 : (fb1 K).all id = true := at_ h.b 1 rfl
theorem fk2 : (fb2 K).all id = true := at_ h.b 2 rfl
theorem fk3 : (fb3 K).all id = true := at_ h.b 3 rfl
theorem fk4 : (fb4 K).all id = true := at_ h.b 4 rfl
theorem fk5 : (fb5 K).all id = true := at_ h.b 5 rfl
theorem fk6 : (fb6 K).all id = true := at_ h.b 6 rfl
theorem fk7 : (fb7 K).all id = true := at_ h.b 7 rfl
theorem fk8 : (fb8 K).all id = true := at_ h.b 8 rfl
theorem fk9 : (fb9 K).all id = true := at_ h.b 9 rfl
theorem fk10 : (fb10 K).all id = true := at_ h.b 10 rfl
theorem fk11 : (fb11 K).all id = true := at_ h.b 11 rfl
theorem gt_ok : GT.all (globOk K) = true := at_ h.b 12 rfl
theorem kB : classOk K 693 = true := at_ (fk0 h) 0 rfl
theorem sB_Bytes : slotAt K 693 "Bytes" 694 0 = true := at_ (fk0 h) 1 rfl
theorem sB_current_vtable : slotAt K 693 "current_vtable" 695 1 = true := at_ (fk0 h) 2 rfl
theorem sB_finished : slotAt K 693 "finished" 696 2 = true := at_ (fk0 h) 3 rfl
theorem sB_forceDefaults : slotAt K 693 "forceDefaults" 697 3 = true := at_ (fk0 h) 4 rfl
theorem sB_head : slotAt K 693 "head" 698 4 = true := at_ (fk0 h) 5 rfl
theorem sB_minalign : slotAt K 693 "minalign" 699 5 = true := at_ (fk0 h) 6 rfl
theorem sB_nested : slotAt K 693 "nested" 700 6 = true := at_ (fk0 h) 7 rfl
theorem sB_objectEnd : slotAt K 693 "objectEnd" 701 7 = true := at_ (fk0 h) 8 rfl
theorem sB_sharedStrings : slotAt K 693 "sharedStrings" 702 8 = true := at_ (fk0 h) 9 rfl
theorem sB_vectorNumElems : slotAt K 693 "vectorNumElems" 703 9 = true := at_ (fk0 h) 10 rfl
theorem sB_vtables : slotAt K 693 "vtables" 704 10 = true := at_ (fk0 h) 11 rfl
theorem mB_init : methAt K 693 "__init__" 307 = true := at_ (fk1 h) 0 rfl
theorem mB_Clear : methAt K 693 "Clear" 314 = true := at_ (fk1 h) 1 rfl
theorem mB_Output : methAt K 693 "Output" 321 = true := at_ (fk1 h) 2 rfl
theorem mB_StartObject : methAt K 693 "StartObject" 328 = true := at_ (fk1 h) 3 rfl
theorem mB_WriteVtable : methAt K 693 "WriteVtable" 335 = true := at_ (fk1 h) 4 rfl
theorem mB_EndObject : methAt K 693 "EndObject" 342 = true := at_ (fk1 h) 5 rfl
theorem mB_GrowByteBuffer : methAt K 693 "GrowByteBuffer" 349 = true := at_ (fk1 h) 6 rfl
theorem mB_Offset : methAt K 693 "Offset" 363 = true := at_ (fk1 h) 8 rfl
theorem mB_Pad : methAt K 693 "Pad" 370 = true := at_ (fk1 h) 9 rfl
theorem mB_Prep : methAt K 693 "Prep" 377 = true := at_ (fk1 h) 10 rfl
theorem mB_PrependSOffsetTRelative : methAt K 693 "PrependSOffsetTRelative" 384 = true := at_ (fk1 h) 11 rfl
theorem mB_PrependUOffsetTRelative : methAt K 693 "PrependUOffsetTRelative" 391 = true := at_ (fk2 h) 0 rfl
theorem mB_StartVector : methAt K 693 "StartVector" 398 = true := at_ (fk2 h) 1 rfl
theorem mB_EndVector : methAt K 693 "EndVector" 406 = true := at_ (fk2 h) 2 rfl
theorem mB_CreateString : methAt K 693 "CreateString" 420 = true := at_ (fk2 h) 3 rfl
theorem mB_CreateByteVector : methAt K 693 "CreateByteVector" 427 = true := at_ (fk2 h) 4 rfl
theorem mB_assertNested : methAt K 693 "assertNested" 434 = true := at_ (fk2 h) 5 rfl
theorem mB_assertNotNested : methAt K 693 "assertNotNested" 441 = true := at_ (fk2 h) 6 rfl
theorem mB_Slot : methAt K 693 "Slot" 455 = true := at_ (fk2 h) 7 rfl
theorem mB_Builder__Finish : methAt K 693 "_Builder__Finish" 463 = true := at_ (fk2 h) 8 rfl
theorem mB_FinishSizePrefixed : methAt K 693 "FinishSizePrefixed" 479 = true := at_ (fk2 h) 9 rfl
theorem mB_Prepend : methAt K 693 "Prepend" 486 = true := at_ (fk2 h) 10 rfl
theorem mB_PrependSlot : methAt K 693 "PrependSlot" 493 = true := at_ (fk2 h) 11 rfl
theorem mB_PrependBoolSlot : methAt K 693 "PrependBoolSlot" 500 = true := at_ (fk3 h) 0 rfl
theorem mB_PrependUint8Slot : methAt K 693 "PrependUint8Slot" 514 = true := at_ (fk3 h) 1 rfl
theorem mB_PrependInt32Slot : methAt K 693 "PrependInt32Slot" 556 = true := at_ (fk3 h) 2 rfl
theorem mB_PrependUOffsetTRelativeSlot : methAt K 693 "PrependUOffsetTRelativeSlot" 570 = true := at_ (fk3 h) 3 rfl
theorem mB_PrependInt32 : methAt K 693 "PrependInt32" 640 = true := at_ (fk3 h) 4 rfl
theorem mB_PrependVOffsetT : methAt K 693 "PrependVOffsetT" 661 = true := at_ (fk3 h) 5 rfl
theorem mB_Place : methAt K 693 "Place" 668 = true := at_ (fk3 h) 6 rfl
theorem mB_PlaceSOffsetT : methAt K 693 "PlaceSOffsetT" 682 = true := at_ (fk3 h) 7 rfl
theorem mB_PlaceUOffsetT : methAt K 693 "PlaceUOffsetT" 689 = true := at_ (fk3 h) 8 rfl
theorem kT : classOk K 788 = true := at_ (fk3 h) 9 rfl
theorem sT_Bytes : slotAt K 788 "Bytes" 789 0 = true := at_ (fk3 h) 10 rfl
theorem sT_Pos : slotAt K 788 "Pos" 790 1 = true := at_ (fk3 h) 11 rfl
theorem mT_init : methAt K 788 "__init__" 721 = true := at_ (fk4 h) 0 rfl
theorem mT_Offset : methAt K 788 "Offset" 728 = true := at_ (fk4 h) 1 rfl
theorem mT_String : methAt K 788 "String" 742 = true := at_ (fk4 h) 2 rfl
theorem mT_VectorLen : methAt K 788 "VectorLen" 749 = true := at_ (fk4 h) 3 rfl
theorem mT_Vector : methAt K 788 "Vector" 756 = true := at_ (fk4 h) 4 rfl
theorem mT_Get : methAt K 788 "Get" 770 = true := at_ (fk4 h) 5 rfl
theorem mT_GetSlot : methAt K 788 "GetSlot" 777 = true := at_ (fk4 h) 6 rfl
theorem kF_Bool : metaOk K 64 = true := at_ (fk4 h) 7 rfl
theorem aF_Bool_bytewidth : clsAttr K 64 "bytewidth" (.int 1 363) = true := at_ (fk4 h) 8 rfl
theorem aF_Bool_min_val : clsAttr K 64 "min_val" (.bool false) = true := at_ (fk4 h) 9 rfl
theorem aF_Bool_max_val : clsAttr K 64 "max_val" (.bool true) = true := at_ (fk4 h) 10 rfl
theorem aF_Bool_py_type : clsTyp K 64 "py_type" "bool" = true := at_ (fk4 h) 11 rfl
theorem aF_Bool_packer_type : clsAttr K 64 "packer_type" (.ref 50) = true := at_ (fk5 h) 0 rfl
theorem kF_U8 : metaOk K 78 = true := at_ (fk5 h) 1 rfl
theorem aF_U8_bytewidth : clsAttr K 78 "bytewidth" (.int 1 391) = true := at_ (fk5 h) 2 rfl
theorem aF_U8_min_val : clsAttr K 78 "min_val" (.int 0 393) = true := at_ (fk5 h) 3 rfl
theorem aF_U8_max_val : clsAttr K 78 "max_val" (.int 255 399) = true := at_ (fk5 h) 4 rfl
theorem aF_U8_py_type : clsTyp K 78 "py_type" "int" = true := at_ (fk5 h) 5 rfl
theorem aF_U8_packer_type : clsAttr K 78 "packer_type" (.ref 51) = true := at_ (fk5 h) 6 rfl
theorem kF_I32 : metaOk K 120 = true := at_ (fk5 h) 7 rfl
theorem aF_I32_bytewidth : clsAttr K 120 "bytewidth" (.int 4 493) = true := at_ (fk5 h) 8 rfl
theorem aF_I32_min_val : clsAttr K 120 "min_val" (.int (-2147483648) 498) = true := at_ (fk5 h) 9 rfl
theorem aF_I32_max_val : clsAttr K 120 "max_val" (.int 2147483647 504) = true := at_ (fk5 h) 10 rfl
theorem aF_I32_py_type : clsTyp K 120 "py_type" "int" = true := at_ (fk5 h) 11 rfl
theorem aF_I32_packer_type : clsAttr K 120 "packer_type" (.ref 54) = true := at_ (fk6 h) 0 rfl
theorem kF_SO : metaOk K 134 = true := at_ (fk6 h) 1 rfl
theorem aF_SO_bytewidth : clsAttr K 134 "bytewidth" (.int 4 493) = true := at_ (fk6 h) 2 rfl
theorem aF_SO_min_val : clsAttr K 134 "min_val" (.int (-2147483648) 498) = true := at_ (fk6 h) 3 rfl
theorem aF_SO_max_val : clsAttr K 134 "max_val" (.int 2147483647 504) = true := at_ (fk6 h) 4 rfl
theorem aF_SO_py_type : clsTyp K 134 "py_type" "int" = true := at_ (fk6 h) 5 rfl
theorem aF_SO_packer_type : clsAttr K 134 "packer_type" (.ref 54) = true := at_ (fk6 h) 6 rfl
theorem kF_UO : metaOk K 146 = true := at_ (fk6 h) 7 rfl
theorem aF_UO_bytewidth : clsAttr K 146 "bytewidth" (.int 4 459) = true := at_ (fk6 h) 8 rfl
theorem aF_UO_min_val : clsAttr K 146 "min_val" (.int 0 461) = true := at_ (fk6 h) 9 rfl
theorem aF_UO_max_val : clsAttr K 146 "max_val" (.int 4294967295 467) = true := at_ (fk6 h) 10 rfl
theorem aF_UO_py_type : clsTyp K 146 "py_type" "int" = true := at_ (fk6 h) 11 rfl
theorem aF_UO_packer_type : clsAttr K 146 "packer_type" (.ref 53) = true := at_ (fk7 h) 0 rfl
theorem kF_VO : metaOk K 158 = true := at_ (fk7 h) 1 rfl
theorem aF_VO_bytewidth : clsAttr K 158 "bytewidth" (.int 2 425) = true := at_ (fk7 h) 2 rfl
theorem aF_VO_min_val : clsAttr K 158 "min_val" (.int 0 427) = true := at_ (fk7 h) 3 rfl
theorem aF_VO_max_val : clsAttr K 158 "max_val" (.int 65535 433) = true := at_ (fk7 h) 4 rfl
theorem aF_VO_py_type : clsTyp K 158 "py_type" "int" = true := at_ (fk7 h) 5 rfl
theorem aF_VO_packer_type : clsAttr K 158 "packer_type" (.ref 52) = true := at_ (fk7 h) 6 rfl
theorem kF_U32 : metaOk K 106 = true := at_ (fk7 h) 7 rfl
theorem aF_U32_bytewidth : clsAttr K 106 "bytewidth" (.int 4 459) = true := at_ (fk7 h) 8 rfl
theorem kF_B : metaOk K 693 = true := at_ (fk8 h) 1 rfl
theorem aF_MAX : clsAttr K 693 "MAX_BUFFER_SIZE" (.int 2147483648 778) = true := at_ (fk8 h) 2 rfl
theorem bd_PrependSlot : boundAt K 693 "PrependSlot" 493 = true := at_ (fk8 h) 3 rfl
theorem kp_167 : keepIn K (.ref 167) = true := at_ (fk8 h) 4 rfl
theorem kp_174 : keepIn K (.ref 174) = true := at_ (fk8 h) 5 rfl
theorem kp_181 : keepIn K (.ref 181) = true := at_ (fk8 h) 6 rfl
theorem kp_188 : keepIn K (.ref 188) = true := at_ (fk8 h) 7 rfl
theorem kp_196 : keepIn K (.ref 196) = true := at_ (fk8 h) 8 rfl
theorem kp_204 : keepIn K (.ref 204) = true := at_ (fk8 h) 9 rfl
theorem kp_211 : keepIn K (.ref 211) = true := at_ (fk8 h) 10 rfl
theorem kp_693 : keepIn K (.ref 693) = true := at_ (fk8 h) 11 rfl
theorem kp_788 : keepIn K (.ref 788) = true := at_ (fk9 h) 0 rfl
theorem kp_808 : keepIn K (.ref 808) = true := at_ (fk9 h) 1 rfl
theorem kp_815 : keepIn K (.ref 815) = true := at_ (fk9 h) 2 rfl
theorem kp_822 : keepIn K (.ref 822) = true := at_ (fk9 h) 3 rfl
theorem kp_827 : keepIn K (.ref 827) = true := at_ (fk9 h) 4 rfl
theorem kp_834 : keepIn K (.ref 834) = true := at_ (fk9 h) 5 rfl
theorem kp_841 : keepIn K (.ref 841) = true := at_ (fk9 h) 6 rfl
theorem kp_848 : keepIn K (.ref 848) = true := at_ (fk9 h) 7 rfl
theorem kp_855 : keepIn K (.ref 855) = true := at_ (fk9 h) 8 rfl
theorem kp_860 : keepIn K (.ref 860) = true := at_ (fk9 h) 9 rfl
theorem kp_867 : keepIn K (.ref 867) = true := at_ (fk9 h) 10 rfl
theorem st_bool : structAt K 50 .q = true := at_ (fk9 h) 11 rfl
theorem st_B : structAt K 51 .B = true := at_ (fk10 h) 0 rfl
theorem st_H : structAt K 52 .H = true := at_ (fk10 h) 1 rfl
theorem st_I : structAt K 53 .I = true := at_ (fk10 h) 2 rfl
theorem st_i : structAt K 54 .i = true := at_ (fk10 h) 3 rfl
theorem ta_212 : tupleAt K 212 [.type "str"] = true := at_ (fk10 h) 4 rfl
theorem ta_213 : tupleAt K 213 [.type "bytes",.type "bytearray"] = true := at_ (fk10 h) 5 rfl
theorem ta_197 : tupleAt K 197 [.bool false] = true := at_ (fk10 h) 6 rfl
theorem ta_189 : tupleAt K 189 [.bool false] = true := at_ (fk10 h) 7 rfl
theorem ta_399 : tupleAt K 399 [.none] = true := at_ (fk10 h) 8 rfl
theorem ta_456 : tupleAt K 456 [.none] = true := at_ (fk10 h) 9 rfl
theorem ta_472 : tupleAt K 472 [.none] = true := at_ (fk10 h) 10 rfl
theorem mk_B : makesIn K 693 = true := at_ (fk11 h) 0 rfl
theorem mk_T : makesIn K 788 = true := at_ (fk11 h) 1 rfl
theorem ta_300 : tupleAt K 300 [.int 1024 780] = true := at_ (fk11 h) 2 rfl
theorem f_167 : fnGet K 167 = some (fP (stAt 19),fB (stAt 19),fS (stAt 19),.none) := fat h 0 rfl rfl
theorem f_174 : fnGet K 174 = some (fP (stAt 22),fB (stAt 22),fS (stAt 22),.none) := fat h 1 rfl rfl
theorem f_181 : fnGet K 181 = some (fP (stAt 24),fB (stAt 24),fS (stAt 24),.none) := fat h 2 rfl rfl
theorem f_188 : fnGet K 188 = some (fP (stAt 26),fB (stAt 26),fS (stAt 26),.none) := fat h 3 rfl rfl
theorem f_196 : fnGet K 196 = some (fP (stAt 27),fB (stAt 27),fS (stAt 27),.ref 189) := fat h 4 rfl rfl
theorem f_204 : fnGet K 204 = some (fP (stAt 28),fB (stAt 28),fS (stAt 28),.ref 197) := fat h 5 rfl rfl
theorem f_211 : fnGet K 211 = some (fP (stAt 29),fB (stAt 29),fS (stAt 29),.none) := fat h 6 rfl rfl
theorem f_307 : fnGet K 307 = some (fP (mAt 40 3),fB (mAt 40 3),fS (mAt 40 3),.ref 300) := fat h 7 rfl rfl
theorem f_314 : fnGet K 314 = some (fP (mAt 40 4),fB (mAt 40 4),fS (mAt 40 4),.none) := fat h 8 rfl rfl
theorem f_321 : fnGet K 321 = some (fP (mAt 40 5),fB (mAt 40 5),fS (mAt 40 5),.none) := fat h 9 rfl rfl
theorem f_328 : fnGet K 328 = some (fP (mAt 40 6),fB (mAt 40 6),fS (mAt 40 6),.none) := fat h 10 rfl rfl
theorem f_335 : fnGet K 335 = some (fP (mAt 40 7),fB (mAt 40 7),fS (mAt 40 7),.none) := fat h 11 rfl rfl
theorem f_342 : fnGet K 342 = some (fP (mAt 40 8),fB (mAt 40 8),fS (mAt 40 8),.none) := fat h 12 rfl rfl
theorem f_349 : fnGet K 349 = some (fP (mAt 40 9),fB (mAt 40 9),fS (mAt 40 9),.none) := fat h 13 rfl rfl
theorem f_363 : fnGet K 363 = some (fP (mAt 40 11),fB (mAt 40 11),fS (mAt 40 11),.none) := fat h 15 rfl rfl
theorem f_370 : fnGet K 370 = some (fP (mAt 40 12),fB (mAt 40 12),fS (mAt 40 12),.none) := fat h 16 rfl rfl
theorem f_377 : fnGet K 377 = some (fP (mAt 40 13),fB (mAt 40 13),fS (mAt 40 13),.none) := fat h 17 rfl rfl
theorem f_384 : fnGet K 384 = some (fP (mAt 40 14),fB (mAt 40 14),fS (mAt 40 14),.none) := fat h 18 rfl rfl
theorem f_391 : fnGet K 391 = some (fP (mAt 40 15),fB (mAt 40 15),fS (mAt 40 15),.none) := fat h 19 rfl rfl
theorem f_398 : fnGet K 398 = some (fP (mAt 40 16),fB (mAt 40 16),fS (mAt 40 16),.none) := fat h 20 rfl rfl
theorem f_406 : fnGet K 406 = some (fP (mAt 40 17),fB (mAt 40 17),fS (mAt 40 17),.ref 399) := fat h 21 rfl rfl
theorem f_420 : fnGet K 420 = some (fP (mAt 40 19),fB (mAt 40 19),fS (mAt 40 19),.none) := fat h 22 rfl rfl
theorem f_427 : fnGet K 427 = some (fP (mAt 40 20),fB (mAt 40 20),fS (mAt 40 20),.none) := fat h 23 rfl rfl
theorem f_434 : fnGet K 434 = some (fP (mAt 40 21),fB (mAt 40 21),fS (mAt 40 21),.none) := fat h 24 rfl rfl
theorem f_441 : fnGet K 441 = some (fP (mAt 40 22),fB (mAt 40 22),fS (mAt 40 22),.none) := fat h 25 rfl rfl
theorem f_455 : fnGet K 455 = some (fP (mAt 40 24),fB (mAt 40 24),fS (mAt 40 24),.none) := fat h 26 rfl rfl
theorem f_463 : fnGet K 463 = some (fP (mAt 40 25),fB (mAt 40 25),fS (mAt 40 25),.ref 456) := fat h 27 rfl rfl
theorem f_479 : fnGet K 479 = some (fP (mAt 40 27),fB (mAt 40 27),fS (mAt 40 27),.ref 472) := fat h 29 rfl rfl
theorem f_486 : fnGet K 486 = some (fP (mAt 40 28),fB (mAt 40 28),fS (mAt 40 28),.none) := fat h 30 rfl rfl
theorem f_493 : fnGet K 493 = some (fP (mAt 40 29),fB (mAt 40 29),fS (mAt 40 29),.none) := fat h 31 rfl rfl
theorem f_500 : fnGet K 500 = some (fP (mAt 40 30),fB (mAt 40 30),fS (mAt 40 30),.none) := fat h 32 rfl rfl
theorem f_514 : fnGet K 514 = some (fP (mAt 40 32),fB (mAt 40 32),fS (mAt 40 32),.none) := fat h 33 rfl rfl
theorem f_556 : fnGet K 556 = some (fP (mAt 40 38),fB (mAt 40 38),fS (mAt 40 38),.none) := fat h 34 rfl rfl
theorem f_570 : fnGet K 570 = some (fP (mAt 40 40),fB (mAt 40 40),fS (mAt 40 40),.none) := fat h 35 rfl rfl
theorem f_640 : fnGet K 640 = some (fP (mAt 40 50),fB (mAt 40 50),fS (mAt 40 50),.none) := fat h 36 rfl rfl
theorem f_661 : fnGet K 661 = some (fP (mAt 40 53),fB (mAt 40 53),fS (mAt 40 53),.none) := fat h 37 rfl rfl
theorem f_668 : fnGet K 668 = some (fP (mAt 40 54),fB (mAt 40 54),fS (mAt 40 54),.none) := fat h 38 rfl rfl
theorem f_682 : fnGet K 682 = some (fP (mAt 40 56),fB (mAt 40 56),fS (mAt 40 56),.none) := fat h 39 rfl rfl
theorem f_689 : fnGet K 689 = some (fP (mAt 40 57),fB (mAt 40 57),fS (mAt 40 57),.none) := fat h 40 rfl rfl
theorem f_721 : fnGet K 721 = some (fP (mAt 42 1),fB (mAt 42 1),fS (mAt 42 1),.none) := fat h 41 rfl rfl
theorem f_728 : fnGet K 728 = some (fP (mAt 42 2),fB (mAt 42 2),fS (mAt 42 2),.none) := fat h 42 rfl rfl
theorem f_742 : fnGet K 742 = some (fP (mAt 42 4),fB (mAt 42 4),fS (mAt 42 4),.none) := fat h 43 rfl rfl
theorem f_749 : fnGet K 749 = some (fP (mAt 42 5),fB (mAt 42 5),fS (mAt 42 5),.none) := fat h 44 rfl rfl
theorem f_756 : fnGet K 756 = some (fP (mAt 42 6),fB (mAt 42 6),fS (mAt 42 6),.none) := fat h 45 rfl rfl
theorem f_770 : fnGet K 770 = some (fP (mAt 42 8),fB (mAt 42 8),fS (mAt 42 8),.none) := fat h 46 rfl rfl
theorem f_777 : fnGet K 777 = some (fP (mAt 42 9),fB (mAt 42 9),fS (mAt 42 9),.none) := fat h 47 rfl rfl
theorem f_808 : fnGet K 808 = some (fP (stAt 45),fB (stAt 45),fS (stAt 45),.none) := fat h 48 rfl rfl
theorem f_815 : fnGet K 815 = some (fP (stAt 46),fB (stAt 46),fS (stAt 46),.none) := fat h 49 rfl rfl
theorem f_822 : fnGet K 822 = some (fP (stAt 47),fB (stAt 47),fS (stAt 47),.none) := fat h 50 rfl rfl
theorem f_827 : fnGet K 827 = some (fP (stAt 48),fB (stAt 48),fS (stAt 48),.none) := fat h 51 rfl rfl
theorem f_834 : fnGet K 834 = some (fP (stAt 49),fB (stAt 49),fS (stAt 49),.none) := fat h 52 rfl rfl
theorem f_841 : fnGet K 841 = some (fP (stAt 50),fB (stAt 50),fS (stAt 50),.none) := fat h 53 rfl rfl
theorem f_848 : fnGet K 848 = some (fP (stAt 51),fB (stAt 51),fS (stAt 51),.none) := fat h 54 rfl rfl
theorem f_855 : fnGet K 855 = some (fP (stAt 52),fB (stAt 52),fS (stAt 52),.none) := fat h 55 rfl rfl
theorem f_860 : fnGet K 860 = some (fP (stAt 53),fB (stAt 53),fS (stAt 53),.none) := fat h 56 rfl rfl
theorem f_867 : fnGet K 867 = some (fP (stAt 54),fB (stAt 54),fS (stAt 54),.none) := fat h 57 rfl rfl
theorem f_872 : fnGet K 872 = some (fP (stAt 55),fB (stAt 55),fS (stAt 55),.none) := fat h 58 rfl rfl
end
end
section
open PySem PySem.W PyProof.Rows PySem.Calls
theorem if_t {b : Bool} {A B : Prop} (h : b = true) (a : A) : wIf b A B := by unfold wIf; rw [if_pos h]; exact a
theorem if_f {b : Bool} {A B : Prop} (h : b = false) (a : B) : wIf b A B := by unfold wIf; rw [if_neg (by rw [h]; decide)]; exact a
theorem if_s {b : Bool} {A B : Prop} (h1 : b = true → A) (h2 : b = false → B) : wIf b A B := by
  cases b
  · exact if_f rfl (h2 rfl)
  · exact if_t rfl (h1 rfl)
noncomputable def bsl (ba : Addr) (cv : V) (fin : Bool) (hd ma : Int) (ne : Bool) (oe : V) (vne : Option V) (vt : V) : List (Option V) :=
  [some (.val (.ref ba)),some cv,some (.bool fin),some (.bool false),some (.int hd),some (.int ma),some (.bool ne),some oe,some .none,vne,some vt]
inductive Take (p : Addr × Ce) : Mu → Mu → Prop
  | here {ν : Mu} : Take p (p :: ν) ν
  | there {q : Addr × Ce} {μ ν : Mu} (h : Take p μ ν) : Take p (q :: μ) (q :: ν)
inductive Sel : Mu → Mu → Mu → Prop
  | nil {μ : Mu} : Sel [] μ μ
  | cons {p : Addr × Ce} {l μ μ₁ ν : Mu} (h : Take p μ μ₁) (t : Sel l μ₁ ν) : Sel (p :: l) μ ν
theorem Take.perm {p : Addr × Ce} {μ ν : Mu} (h : Take p μ ν) : (p :: ν).Perm μ := by
  induction h with
  | here => exact .refl _
  | there _ ih => exact (List.Perm.swap _ _ _).trans (ih.cons _)
theorem Sel.perm {l μ ν : Mu} (h : Sel l μ ν) : (l ++ ν).Perm μ := by
  induction h with
  | nil => exact .refl _
  | cons h _ ih => exact (ih.cons _).trans h.perm
theorem Sel.all : ∀ μ : Mu,Sel μ μ []
  | [] => .nil
  | _ :: μ => .cons .here (Sel.all μ)
section
variable {W : Wd} {Φ : Fx} {ns : List Str} {gs : List (Str × Value)} {μ μ₁ μ' ν : Mu} {ℓ ℓ' : Loc}
theorem Spec.le {n m : Nat} {f : Value} {args : List V} {kw : List (Str × V)} {Q : V → Mu → Prop} (h : Spec W n f args kw μ Q) (e : n ≤ m) : Spec W m f args kw μ Q :=
  fun A s F xs ks G r I hx hk => h A s F xs ks G (r.le e) I hx hk
theorem xl_use {n m : Nat} {f : Value} {vs : List V} {Q : V → Mu → Loc → Prop} {P : V → Mu → Prop} (h : Spec W n f vs [] μ₁ P) (sp : Sel μ₁ μ ν) (hn : Φ.n = m) (k : ∀ v μ',P v μ' → Q v (μ' ++ ν) ℓ) (le : Nat.ble n m = true := by rfl) :
    XL W RV Φ ns gs μ ℓ vs (fun xs => call f xs) Q := by
  intro s F xs G O I hx;have I' := I.perm sp.perm;have := Nat.le_of_ble_eq_true le;refine wN.mono (h.go G (O.room.le (by lia)) I'.st.left hx .nil) (fun val s' ⟨F',v,μ',J,g,hv,q⟩ => ?_) fun u_ u_ z => z
  obtain ⟨i,e⟩ := I'.spec O g J;exact ⟨F',v,_,_,i,e,hv,k _ _ q⟩
theorem xl_eq {n m : Nat} {f : Value} {vs : List V} {Q : V → Mu → Loc → Prop} {v0 : V} {μ0 : Mu} (h : Spec W n f vs [] μ₁ fun v μ' => v = v0 ∧ μ' = μ0) (sp : Sel μ₁ μ ν) (hn : Φ.n = m) (k : Q v0 (μ0 ++ ν) ℓ) (le : Nat.ble n m = true := by rfl) : XL W RV Φ ns gs μ ℓ vs (fun xs => call f xs) Q :=
  xl_use h sp hn (fun v μ' e => by obtain ⟨rfl,rfl⟩ := e; exact k) le
theorem xk_use {n m : Nat} {f : Value} {vs : List V} {kw : List (Str × V)} {Q : V → Mu → Loc → Prop} {P : V → Mu → Prop} (h : Spec W n f vs kw μ₁ P) (sp : Sel μ₁ μ ν) (hn : Φ.n = m) (k : ∀ v μ',P v μ' → Q v (μ' ++ ν) ℓ) (le : Nat.ble n m = true := by rfl) :
    XK W Φ ns gs μ ℓ vs (kw.map (·.2)) (fun xs ks => call f xs ((kw.map (·.1)).zip ks)) Q := by
  intro s F xs ks G O I hx hk;have I' := I.perm sp.perm;have := Nat.le_of_ble_eq_true le;refine wN.mono (h.go G (O.room.le (by omega)) I'.st.left hx hk) (fun val s' ⟨F',v,μ',J,g,hv,q⟩ => ?_) fun u_ u_ z => z
  obtain ⟨i,e⟩ := I'.spec O g J;exact ⟨F',v,_,_,i,e,hv,k _ _ q⟩
theorem Spec.cps {n : Nat} {f : Value} {args : List V} {kw : List (Str × V)} {P : V → Mu → Prop} (h : ∀ Q : V → Mu → Prop,(∀ v μ' μ'' ν,Sel μ'' μ' ν → P v μ'' → Q v μ') → Spec W n f args kw μ Q) : Spec W n f args kw μ P :=
  fun A s F xs ks G r I hx hk => cN.mono (h (fun v μ' => ∃ μ'' ν,Sel μ'' μ' ν ∧ P v μ'') (fun v μ' μ'' ν s p => ⟨μ'',ν,s,p⟩) A s F xs ks G r I hx hk) fun r s' ⟨val,e,F',v,μ',J,g,hv,μ'',ν,sl,q⟩ =>
    ⟨val,e,F',v,μ'',(J.perm sl.perm).left,⟨g.keep,g.mono,g.froz,fun a ha => g.new a (((sl.perm).map _).mem_iff.mp (by rw [List.map_append]; exact List.mem_append_left _ ha))⟩,hv,q⟩
theorem len0 {P : List Value → Prop} (h : P []) : ∀ xs : List Value,xs.length = 0 → P xs := lenZ h
theorem bind_gen {fd : FuncData} {args dV : List V} {kw : List (Str × V)} {ps : List Str} {dv used : List Value} {T : Addr} (ht : tupleAt W.K T dv = true) (hd : fd.defaults = .ref T) (hv : ∀ h F,IsL h F dV used)
    (h : ∀ xs : List Value,xs.length = args.length → ∀ ks : List Value,ks.length = kw.length → ∃ k,bindArgs fd ⟨xs,(kw.map (·.1)).zip ks⟩ = seqItems? fd.defaults >>= k ∧ k (some dv.toArray) = pure (ps.zip (xs ++ ks ++ used))) :
    Binds W fd args kw ps (args ++ kw.map (·.2) ++ dV) μ :=
  fun A s F xs ks G I hx hk => by
    have hkl : ks.length = kw.length := by rw [hk.length,List.length_map]
    apply gG;intro nG
    obtain ⟨k,h₁,h₂⟩ := h xs hx.length ks hkl;apply nG;clear nG;rw [h₁,hd];refine wpAny_bind (wpAny_seqItems (tupleAt_of (I.K G) ht) rfl ?_);rw [h₂];exact wpAny_pure ⟨F,_,rfl,I,.refl fun u_ z => z,(hx.append hk).append (hv _ _)⟩
theorem x3_nd {α β : Type} {R : Heap → (Addr → Prop) → β → α → Prop} {a b c : V} {t : Value → Value → Value → Sem α} {Q : β → Mu → Loc → Prop} (h : (addrs μ).Nodup → X3 W R Φ ns gs μ ℓ a b c t Q) : X3 W R Φ ns gs μ ℓ a b c t Q :=
  fun s F x y z G O I hx hy hz => h I.st.nodup s F x y z G O I hx hy hz
theorem clip_le {n : Nat} {i : Int} {k : Nat} (h0 : i = k) (h1 : k ≤ n) : clipAt n i = k := by rw [h0,clipAt_nat]; exact q0 h1
theorem lget_of {x : Str} {v : V} : ∀ {i : Nat} {ns : List Str} {ℓ : Loc},ns[i]? = some x → ℓ[i]? = some (some v) → LocGet ns ℓ x v
  | 0,_ :: _,_ :: _,h1,h2 => by cases h1; cases h2; exact .here
  | i + 1,_ :: _,_ :: _,h1,h2 => .there (lget_of (i := i) h1 h2)
theorem lset_of {x : Str} {v : V} : ∀ {i : Nat} {ns : List Str} {ℓ : Loc},ns[i]? = some x → decide (i < ℓ.length) = true → LocSet ns ℓ x v (ℓ.set i (some v))
  | 0,_ :: _,_ :: _,h1,h2 => by cases h1; exact .here
  | i + 1,_ :: _,o :: ℓ,h1,h2 => .there (lset_of (i := i) h1 (by have h3 : i + 1 < (o :: ℓ).length := of_decide_eq_true h2; exact decide_eq_true (Nat.lt_of_succ_lt_succ h3)))
theorem nl {x : Str} {pos : Pos} {v : V} {Q : V → Mu → Loc → Prop} (i : Nat) (q : Q v μ ℓ) (h1 : ns[i]? = some x := by rfl) (h2 : ℓ[i]? = some (some v) := by rfl) : X W RV Φ ns gs μ ℓ (eval (.Name x pos) Φ.env) Q := x_local (lget_of h1 h2) q
theorem ng_ {x : Str} {pos : Pos} {v : Value} {Q : V → Mu → Loc → Prop} (i : Nat) (q : Q (.val v) μ ℓ) (h1 : gs[i]? = some (x,v) := by rfl) : X W RV Φ ns gs μ ℓ (eval (.Name x pos) Φ.env) Q := x_global (List.mem_of_getElem? h1) q
theorem ngi {x : Str} {pos : Pos} {k : Int} {t : Tok} {Q : V → Mu → Loc → Prop} (i : Nat) (q : Q (.int k) μ ℓ) (h1 : gs[i]? = some (x,.int k t) := by rfl) : X W RV Φ ns gs μ ℓ (eval (.Name x pos) Φ.env) Q := by
  intro s F G O I;apply gG;intro nG
  obtain ⟨h1,h2,h3⟩ := O.gl _ (List.mem_of_getElem? h1);apply nG;clear nG;refine .of <| Name_function_global O.kind h1 ?_ h2
  (apply gG;intro nG; rcases h3 with ⟨mg,a,b⟩ | ⟨mg,mb,a,b,c,d⟩ <;> refine nG ?_ <;> clear nG)
  · exact loadGlobal_global (O.glob ▸ a.keeps I.st.base) b (res_here I .int q)
  · exact loadGlobal_builtin (O.glob ▸ a.keeps I.st.base) b (O.bui ▸ c.keeps I.st.base) d (res_here I .int q)
theorem st_ {x : Str} {v : V} {K : Mu → Loc → Prop} (i : Nat) (k : K μ (ℓ.set i (some v))) (h1 : ns[i]? = some x := by rfl) (h2 : decide (i < ℓ.length) = true := by rfl) : wSet Φ ns x v K μ ℓ := .inl ⟨_,lset_of h1 h2,k⟩
theorem sc_ {x : Str} {v : V} {c : Addr} {o : Option V} {K : Mu → Loc → Prop} (hk : Φ.env.kindOf x = some .cell ∧ Φ.env.cells.lookup x = some c) (U : UpdM μ c (.cell o) (.cell (some v)) μ') (k : K μ' ℓ) : wSet Φ ns x v K μ ℓ := .inr ⟨c,o,μ',hk.1,hk.2,U,k⟩
theorem nc {x : Str} {pos : Pos} {c : Addr} {v : V} {Q : V → Mu → Loc → Prop} (hk : Φ.env.kindOf x = some .cell ∧ Φ.env.cells.lookup x = some c) (hm : (c,Ce.cell (some v)) ∈ μ) (q : Q v μ ℓ) (hd : (x == ("__debug__" : Str)) = false := by rfl) : X W RV Φ ns gs μ ℓ (eval (.Name x pos) Φ.env) Q := x_cell hk.1 hk.2 hm q hd
theorem gt_ {x : Str} {a : V} {K : V → Mu → Loc → Prop} (i : Nat) (k : K a μ ℓ) (h1 : ns[i]? = some x := by rfl) (h2 : ℓ[i]? = some (some a) := by rfl) : wGet ns x K μ ℓ := ⟨_,lget_of h1 h2,k⟩
theorem kf {f : Value} {K : Value → Mu → Loc → Prop} (h : keepIn W.K f = true) (k : K f μ ℓ) : wKeep W (.val f) K μ ℓ := ⟨_,rfl,.inl h,k⟩
theorem kb {f : Value} {K : Value → Mu → Loc → Prop} (k : K f μ ℓ) (h : keeperOf f = pure .machine := by rfl) : wKeep W (.val f) K μ ℓ := ⟨_,rfl,.inr h,k⟩
theorem vs {b : List Stmt} {Q : Fl → Mu → Loc → Prop} (h : vg W Φ ns gs 99 (.s b Q) μ ℓ) : X W RF Φ ns gs μ ℓ (execs b Φ.env) Q := vg_ok 99 h
theorem ve {e : Expr} {Q : V → Mu → Loc → Prop} (h : vg W Φ ns gs 99 (.e e Q) μ ℓ) : X W RV Φ ns gs μ ℓ (eval e Φ.env) Q := vg_ok 99 h
theorem vt {e : Expr} {Q : Bool → Mu → Loc → Prop} (h : vg W Φ ns gs 99 (.t e Q) μ ℓ) : X W RB Φ ns gs μ ℓ (isTrue e Φ.env (eval e Φ.env)) Q := vg_ok 99 h
theorem va {p : Pos} {l : List Expr} {Q : List V → Mu → Loc → Prop} (h : vg W Φ ns gs 99 (.a p l Q) μ ℓ) : X W RL Φ ns gs μ ℓ (spliced (backTo p (starEach l Φ.env))) Q := vg_ok 99 h
noncomputable def lpW (J : Nat → Mu → Loc → Prop) (n : Nat) (Q : Fl → Mu → Loc → Prop) (f : Fl) (μ : Mu) (ℓ : Loc) : Prop := match f with
  | .next | .cont => ∃ m,m < n ∧ J m μ ℓ
  | .brk => Q .next μ ℓ
  | .ret v => Q (.ret v) μ ℓ
theorem vw {test : Expr} {body : List Stmt} {pos : Pos} {Q : Fl → Mu → Loc → Prop} (J : Nat → Mu → Loc → Prop) (n : Nat) (h : J n μ ℓ)
    (turn : ∀ n μ ℓ,J n μ ℓ → vg W Φ ns gs 99 (.t test fun b μ ℓ => wIf b (vg W Φ ns gs 99 (.s body (lpW J n Q)) μ ℓ) (Q .next μ ℓ)) μ ℓ) : X W RF Φ ns gs μ ℓ (exec (.While test body [] pos) Φ.env) Q := by
  refine xs_while J n h fun n μ ℓ hj => x_mono (vt (turn n μ ℓ hj)) fun b μ ℓ hb => ?_
  cases b
  · exact wIf_f hb
  · exact x_mono (vs (wIf_t hb)) fun f μ ℓ q => by cases f <;> exact q
theorem vf {target iter : Expr} {body : List Stmt} {pos : Pos} {Q : Fl → Mu → Loc → Prop} (l : List V) (J : Nat → Mu → Loc → Prop)
    (h : vg W Φ ns gs 99 (.e iter fun o μ ℓ => Iters W Φ ns gs o l μ ℓ ∧ J 0 μ ℓ) μ ℓ)
    (turn : ∀ i v I (ob : Ce) μ ℓ,l[i]? = some v → J i μ ℓ → X1 W RU Φ ns gs ((I,ob) :: μ) ℓ v (assign target Φ.env) fun u_ => vg W Φ ns gs 99 (.s body (lpF J i (I,ob) Q)))
    (done : ∀ μ ℓ,J l.length μ ℓ → Q .next μ ℓ)
    (hs : ∀ x,foldedSetIterable iter Φ.env x = pure x := by intro _; rfl) (ht : ∀ it v,letOwnedTupleGo target it v = pure () := by intro _ _; rfl) : X W RF Φ ns gs μ ℓ (exec (.For target iter body [] pos) Φ.env) Q :=
  xs_forE (x_mono (ve h) fun o μ ℓ z => ⟨l,J,z.1.J z.2,fun i v I ob μ ℓ hv hj => x1_mono (turn i v I ob μ ℓ hv hj) fun u_ μ ℓ hb => vs hb,done⟩) hs ht
theorem vfr {target iter : Expr} {body : List Stmt} {pos : Pos} {Q : Fl → Mu → Loc → Prop} (c : Addr) (l : List V) (J : Nat → Mu → Loc → Prop)
    (h : vg W Φ ns gs 99 (.e iter fun o μ ℓ => ∃ I μ',o = .val (.ref I) ∧ ((I,revCe c ((l.length : Int) - 1)) :: μ').Perm μ ∧ J 0 μ' ℓ) μ ℓ)
    (hJ : ∀ i μ ℓ,J i μ ℓ → (c,Ce.rlist l) ∈ μ)
    (turn : ∀ i v I (ob : Ce) μ ℓ,l.reverse[i]? = some v → J i μ ℓ → X1 W RU Φ ns gs ((I,ob) :: μ) ℓ v (assign target Φ.env) fun u_ => vg W Φ ns gs 99 (.s body (lpF J i (I,ob) Q)))
    (done : ∀ μ ℓ,J l.length μ ℓ → Q .next μ ℓ)
    (hs : ∀ x,foldedSetIterable iter Φ.env x = pure x := by intro _; rfl) (ht : ∀ it v,letOwnedTupleGo target it v = pure () := by intro _ _; rfl) : X W RF Φ ns gs μ ℓ (exec (.For target iter body [] pos) Φ.env) Q :=
  xs_forE (x_mono (ve h) fun o μ ℓ ⟨a,μ',e,pm,j⟩ => ⟨l.reverse,J,e ▸ revJ pm j hJ,fun i v I ob μ ℓ hv hj => x1_mono (turn i v I ob μ ℓ hv hj) fun u_ μ ℓ hb => vs hb,by rw [List.length_reverse]; exact done⟩) hs ht
end
theorem lookup_idx {x : Str} : ∀ {ps : List Str} {ys : List Value},ys.length = ps.length → (ps.zip ys).lookup x = (ps.findIdx? (fun p => x == p)).bind (fun i => ys[i]?)
  | [],_,_ => rfl
  | p :: ps,y :: ys,h => by
    rw [List.zip_cons_cons,List.lookup_cons,List.findIdx?_cons];cases e : x == p with
    | true => rfl
    | false =>
      rw [lookup_idx (Nat.succ.inj h)];show _ = (Option.map (fun i => i + 1) (ps.findIdx? fun p => x == p)).bind _;rw [Option.bind_map]
      rfl
theorem bindL_at {kindOf : Str → Option NameKind} {x : Str} (hx : kindOf x = some .local) : ∀ (b : List (Str × Value)) (m : Str → Option Value),(b.map (·.1)).Nodup → bindL kindOf b m x = (b.lookup x).or (m x)
  | [],m,_ => rfl
  | (n,v) :: r,m,nd => by
    obtain ⟨n1,n2⟩ := List.nodup_cons.mp nd;unfold bindL;rw [bindL_at hx r _ n2,List.lookup_cons];cases e : x == n with
    | true =>
      have hn : x = n := beq_iff_eq.mp e;subst hn;rw [lookup_notin n1,if_pos hx];show (if x = x then some v else m x) = _;rw [if_pos rfl]; rfl
    | false =>
      have hn : x ≠ n := fun q => by rw [q,beq_self_eq_true] at e; cases e
      have e2 : (if kindOf n = some .local then fun y => if y = n then some v else m y else m) x = m x := by split; exact if_neg hn; rfl
      rw [e2]
theorem bindC_at {kindOf : Str → Option NameKind} {x : Str} (hx : kindOf x ≠ some .local) : ∀ (b : List (Str × Value)) (m : Str → Option Value),(b.map (·.1)).Nodup → bindC kindOf b m x = (b.lookup x).or (m x)
  | [],m,_ => rfl
  | (n,v) :: r,m,nd => by
    obtain ⟨n1,n2⟩ := List.nodup_cons.mp nd;unfold bindC;rw [bindC_at hx r _ n2,List.lookup_cons];cases e : x == n with
    | true =>
      have hn : x = n := beq_iff_eq.mp e;subst hn;rw [lookup_notin n1,if_neg hx];show (if x = x then some v else m x) = _;rw [if_pos rfl]; rfl
    | false =>
      have hn : x ≠ n := fun q => by rw [q,beq_self_eq_true] at e; cases e
      have e2 : (if kindOf n = some .local then m else fun y => if y = n then some v else m y) x = m x := by split; rfl; exact if_neg hn
      rw [e2]
theorem cells_keys : ∀ (names : List (Str × NameKind)) (n : Nat) (acc : List (Str × Addr)) {x : Str},((names.any fun p => p.2 == .cell && x == p.1) || (acc.lookup x).isSome) = true → ((cellsFrom n names acc).lookup x).isSome = true
  | [],n,acc,x,h => h
  | (k,kind) :: r,n,acc,x,h => by
    rw [show cellsFrom n ((k,kind) :: r) acc = if kind == .cell then cellsFrom (n + 1) r ((k,n) :: acc) else cellsFrom n r acc from rfl];rw [List.any_cons] at h;cases hk : kind == NameKind.cell with
    | true =>
      rw [if_pos rfl];refine cells_keys r _ _ ?_;rw [List.lookup_cons];rw [hk,Bool.true_and] at h;cases e : x == k with
      | true => exact Bool.or_true _
      | false => rw [e] at h; exact h
    | false =>
      rw [if_neg Bool.false_ne_true];rw [hk,Bool.false_and,Bool.false_or] at h;exact cells_keys r _ _ h
noncomputable def fnOkC (sc : Scope) (ps : List Str) (nsP csP : List (Str × Option Nat)) (gs : List (Str × Value)) : Bool :=
  decide ps.Nodup && (decide (nsP.map (·.1)).Nodup && (decide (csP.map (·.1)).Nodup && (nsP.all (fun p => nameOk sc p.1 && p.2 == ps.findIdx? (fun q => p.1 == q)) && (csP.all (fun p => sc.names.lookup p.1 == some .cell && (sc.names.any (fun q => q.2 == .cell && p.1 == q.1) && p.2 == ps.findIdx? (fun q => p.1 == q))) &&
    (ps.all (fun x => sc.names.lookup x == some .local || csP.any (fun p => p.1 == x)) && ((gs.all fun p => globName sc p.1 && GT.any (· == p)) && (!sc.isCoroutine && (!sc.isGenerator && sc.kind == .function))))))))
noncomputable def iniV (va : List V) (o : Option Nat) : Option V := o.bind (va[·]?)
theorem iniV_is {h : Heap} {F : Addr → Prop} {va : List V} {ys : List Value} (hL : IsL h F va ys) (o : Option Nat) : IsO h F (iniV va o) (o.bind (ys[·]?)) := by
  cases o with
  | none => trivial
  | some i =>
    show IsO h F va[i]? ys[i]?;cases e : va[i]? with
    | none => trivial
    | some v => (apply gG;intro nG;obtain ⟨x,hx,hv⟩ := hL.at e <;> refine nG ?_ <;> clear nG); exact ⟨x,hx,hv⟩
theorem locL_map {h : Heap} {F : Addr → Prop} {m : Str → Option Value} {va : List V} : ∀ {nsP : List (Str × Option Nat)},(∀ p ∈ nsP,IsO h F (iniV va p.2) (m p.1)) → LocL h F m (nsP.map (·.1)) (nsP.map fun p => iniV va p.2)
  | [],_ => trivial
  | p :: r,hm => ⟨hm p (.head _),locL_map fun q hq => hm q (.tail _ hq)⟩
theorem cN_defC {prog : Program} {w : World} {A : Around} {s : Shared} {R : Result → Shared → Prop} {a : Addr} {o : Obj} {fd : FuncData} {body : List Stmt} {args : Args}
    (hroom : A.depth < recursionLimit) (ho : s.heap.get? a = some o) (hdata : o.data = .func fd) (hcd : s.heap.CodeRec fd.code fd.qualname)
    (hbody : fd.body = .stmts body) (hclo : fd.closure = [])
    (hbind : wpAny (model prog w) A.in1 (bindArgs fd args) (fun binds s₁ => s₁.heap.NoLimit ∧ (∀ x ∈ binds,fd.scope.names.lookup x.1 = some .local ∨ (fd.scope.names.lookup x.1 = some .cell ∧ ((cellsFrom (s₁.heap.objs.size + 1) fd.scope.names []).lookup x.1).isSome = true)) ∧
      ∀ s₂,InCallC s₁ (callEnvC fd s₁.heap.objs.size a).locals (bindL (callEnvC fd s₁.heap.objs.size a).kindOf binds fun u_ => none) (callEnvC fd s₁.heap.objs.size a).cells (bindC (callEnvC fd s₁.heap.objs.size a).kindOf binds fun u_ => none) s₂ →
        wN (model prog w) (A.deeper (callEnvC fd s₁.heap.objs.size a)) (execs body (callEnvC fd s₁.heap.objs.size a)) (fun f s' => R (.ok (.ret (match f with | .ret v => v | _ => .none))) s')
          (fun u_ u_ => False) s₂) (fun u_ u_ => False) s)
    (hco : fd.scope.isCoroutine = false) (hgen : fd.scope.isGenerator = false) (hk : fd.scope.kind = .function) :
    cN (model prog w) A (.call (.ref a) args) R s := by
  refine cN.tree rfl ?_;show wN _ A.in1 (callAny (.ref a) args) _ _ s;unfold callAny;refine .bind (.of (wpAny_load ho ?_));apply gG;intro nG
  obtain ⟨c,oc,vs,tq,hc,hoc,hdc,hq⟩ := hcd;apply nG;clear nG;rw [hdata];dsimp only;unfold callFunction;rw [hco,hgen,hbody,hc];refine .bind (m := field (.ref c) 1) (.of (wpAny_field hoc hdc hq ?_));refine .bind (.pure ?_);refine .bind (.of (wpAny_mono hbind (fun binds s₁ z => ?_) fun u_ u_ z => z.elim));apply gG;intro nG
  obtain ⟨hlim,hloc,h⟩ := z;apply nG;clear nG;rw [hclo];refine .bind (.of (wpAny_newFunctionEnv_cells hk hloc (fun env he s₂ x => ?_)));subst he;unfold callEnvC at h;rw [hc] at h;have h' := h s₂ x;refine .bind (.of (wpAny_enterFrame (hlim.keeps x.toInCall.keep) hroom (wN.pure ⟨rfl,cN.tree rfl ?_⟩)));show wN _ (A.deeper _) (point >>= fun u_ => (execs body _).onRaise (leaving _) >>= fun f => match f with | .ret v => ret v | _ => ret .none) _ _ _;refine .bind (.of (wpAny_point (.bind (.onRaise (wN.mono h' (fun f s' q => ?_) fun u_ u_ z => z.elim)))));cases f <;> exact .pure q
theorem spec_fnC {W : Wd} (hK : Kn W.K) {n : Nat} {f : Addr} {pa : Arguments} {body : List Stmt} {scope : Scope} {dV : Value} (hg : fnGet W.K f = some (pa,body,scope,dV))
    {args va : List V} {kw : List (Str × V)} {μ : Mu} {P : V → Mu → Prop} (ps : List Str) (nsP csP : List (Str × Option Nat)) (gs : List (Str × Value))
    (hb : ∀ name qual kV doc pm an cdv ct,Binds W (fnOf name qual pa body scope dV kV doc pm an cdv ct) args kw ps va μ)
    (h : ∀ Φ : Fx,Φ.n = n → Φ.env.scope = scope → ∀ ca : Str → Addr,(∀ p ∈ csP,Φ.env.kindOf p.1 = some .cell ∧ Φ.env.cells.lookup p.1 = some (ca p.1)) → ∀ Q : V → Mu → Prop,(∀ v μ' μ'' ν,Sel μ'' μ' ν → P v μ'' → Q v μ') →
      vg W Φ (nsP.map (·.1)) gs 99 (.s body fun fl μ' u_ => Q (flV fl) μ') ((csP.map fun p => (ca p.1,Ce.cell (iniV va p.2))) ++ μ) (nsP.map fun p => iniV va p.2))
    (hlen : ps.length = va.length := by rfl) (hok : fnOkC scope ps nsP csP gs = true := by kernel_rfl) : Spec W (n + 1) (.ref f) args kw μ P := by
  refine Spec.cps fun Q hQ => ?_
  intro A s F xs ks G r I hx hks;have X₀ := I.K G;apply gG;intro nG
  obtain ⟨oc,od,osl,name,qual,kV,doc,pm,an,cdv,ct,ho,hcd⟩ := fnGet_of hg;apply nG;clear nG;unfold fnOkC at hok;simp only [Bool.and_eq_true,decide_eq_true_eq,List.all_eq_true,Bool.or_eq_true,Bool.not_eq_true',beq_iff_eq] at hok;apply gG;intro nG
  obtain ⟨ndp,ndn,ndc,hns,hcs,hpk,hgs,hco,hgen,hk⟩ := hok;apply nG;clear nG
  let E : Nat → Env := fun L => callEnvC (fnOf name qual pa body scope dV kV doc pm an cdv ct) L f
  have kO : ∀ L x,(E L).kindOf x = scope.names.lookup x := fun u_ u_ => rfl
  have ckey : ∀ p ∈ csP,∀ L : Nat,((E L).cells.lookup p.1).isSome = true := fun p hp L => cells_keys _ _ _ (by
    have h2 := (hcs p hp).2.1;rw [Bool.or_eq_true]; left;rw [List.any_eq_true] at h2 ⊢;apply gG;intro nG
    obtain ⟨q,hq,e⟩ := h2;apply nG;clear nG;exact ⟨q,hq,by simpa using e⟩)
  refine cN_defC (fd := fnOf name qual pa body scope dV kV doc pm an cdv ct) (body := body) (by have := r.depth; show _ < 1000; exact q1 this) (X₀ _ _ ho) rfl (codeRec_of X₀ hcd) rfl rfl
    (wpAny_mono (hb name qual kV doc pm an cdv ct A.in1 s F xs ks G I hx hks) (fun binds s₁ z => ?_) fun u_ u_ z => z) hco hgen hk
  apply gG;intro nG
  obtain ⟨F₁,ys,rfl,I₁,g₁,hys⟩ := z;apply nG;clear nG;have hly : ys.length = ps.length := by rw [hys.length,hlen]
  have hkey : ((ps.zip ys).map (·.1)).Nodup := by rw [zip_keys]; exact ndp.sublist (List.take_sublist _ _)
  refine ⟨G.lim.keeps I₁.base,fun x hx => ?_,fun s₂ x => ?_⟩
  · have hxp := (List.of_mem_zip hx).1;rcases hpk x.1 hxp with h1 | h1
    · exact .inl h1
    · apply gG;intro nG
      obtain ⟨p,hp,e⟩ := List.any_eq_true.mp h1;apply nG;clear nG;have e : p.1 = x.1 := beq_iff_eq.mp e;exact .inr ⟨e ▸ (hcs p hp).1,e ▸ ckey p hp s₁.heap.objs.size⟩
  apply gG;intro nG
  obtain ⟨h₂,tk,rfl⟩ := x.toInCall.same;apply nG;clear nG;have hL := get_fresh s₁.heap;have keep := x.toInCall.keep;have ex : Ext F₁ s₁.heap F₁ h₂ := ⟨fun u_ z => z,fun a o u_ e => keep a o e⟩
  let ca : Str → Addr := fun y => ((E s₁.heap.objs.size).cells.lookup y).getD 0
  have hca : ∀ p ∈ csP,(E s₁.heap.objs.size).cells.lookup p.1 = some (ca p.1) := fun p hp => by
    obtain ⟨c,hc⟩ := Option.isSome_iff_exists.mp (ckey p hp s₁.heap.objs.size);show _ = some (((E s₁.heap.objs.size).cells.lookup p.1).getD 0);rw [hc]; rfl
  have cab : ∀ p ∈ csP,s₁.heap.objs.size < ca p.1 := fun p hp => x.above _ _ (mem_of_lookup (hca p hp))
  have cafr : ∀ p ∈ csP,s₁.heap.get? (ca p.1) = none := fun p hp => by
    cases q : s₁.heap.get? (ca p.1) with
    | none => rfl
    | some o => exact absurd (Heap.lt_size q) (Nat.not_lt.mpr (Nat.le_of_lt (cab p hp)))
  have nL : s₁.heap.objs.size ∉ addrs μ := fun hm => by
    obtain ⟨o,ho⟩ := I₁.mu_alive hm;rw [hL] at ho; cases ho
  let μc : Mu := csP.map fun p => (ca p.1,Ce.cell (iniV va p.2))
  have hμc : ∀ a ∈ addrs μc,∃ p ∈ csP,a = ca p.1 := fun a ha => by
    apply gG;intro nG
    obtain ⟨q,hq,rfl⟩ := List.mem_map.mp ha;obtain ⟨p,hp,rfl⟩ := List.mem_map.mp hq;apply nG;clear nG;exact ⟨p,hp,rfl⟩
  let Φ : Fx := ⟨A.deeper (E s₁.heap.objs.size),E s₁.heap.objs.size,s₁.heap,F₁,addrs μ,n⟩
  have locN : ∀ y ∈ nsP.map (·.1),scope.names.lookup y = some .local ∧ (y == ("__debug__" : Str)) = false := fun y hy => by
    apply gG;intro nG
    obtain ⟨p,hp,rfl⟩ := List.mem_map.mp hy;apply nG;clear nG;have := (hns p hp).1;unfold nameOk at this
    rwa [Bool.and_eq_true,beq_iff_eq,Bool.not_eq_true'] at this
  have O : FxOk W.H₀ Φ (nsP.map (·.1)) gs := by
    refine ⟨hk,rfl,rfl,ndn,locN,fun p hp => ?_,⟨hL,nL⟩,⟨?_,?_,r.handled,r.guards⟩⟩
    · obtain ⟨h1,h2⟩ := hgs p hp;unfold globName at h1;rw [Bool.and_eq_true,beq_iff_eq,Bool.not_eq_true'] at h1;apply gG;intro nG
      obtain ⟨p',hp',e⟩ := List.any_eq_true.mp h2;apply nG;clear nG;rw [beq_iff_eq] at e;exact ⟨h1.1,h1.2,globVal_of G (List.all_eq_true.mp (gt_ok hK) p (e ▸ hp'))⟩
    · have := r.depth; show A.depth + 1 + 3 * n < 900; exact q2 this
    · have := r.units; show A.units + 3 + 30 * n < 9000; exact q3 this
  have st₁ := I₁.more (k := tk) keep;have nfr : ∀ p ∈ csP,¬ F₁ (ca p.1) := fun p hp fa => by
    apply gG;intro nG
    obtain ⟨⟨o,ho⟩,_⟩ := I₁.froz _ fa;apply nG;clear nG;rw [cafr p hp] at ho; cases ho
  have nmu : ∀ p ∈ csP,ca p.1 ∉ addrs μ := fun p hp hm => by
    obtain ⟨o,ho⟩ := I₁.mu_alive hm;rw [cafr p hp] at ho; cases ho
  have J : In W Φ (nsP.map (·.1)) F₁ (μc ++ μ) (nsP.map fun p => iniV va p.2) { s₁ with heap := h₂,toks := tk } := by
    refine ⟨⟨st₁.gens,st₁.os,st₁.base,fun p hp => ?_,?_,fun a fa => ⟨(st₁.froz a fa).1,fun hm => ?_⟩,st₁.frozBase⟩,⟨_,x.toInCall.ns,locL_map fun p hp => ?_⟩,fun hm => ?_,fun fa => ?_,⟨fun b o e u_ => keep b o e,fun u_ z => z,fun u_ z => .inl z,fun a ha => ?_⟩⟩
    · rcases List.mem_append.mp hp with hp | hp
      · apply gG;intro nG
        obtain ⟨p',hp',rfl⟩ := List.mem_map.mp hp;obtain ⟨o,ho,hd⟩ := x.cell p'.1 _ (hca p' hp');apply nG;clear nG;refine ⟨o,ho,_,hd,?_⟩;have e2 : bindC (E s₁.heap.objs.size).kindOf (ps.zip ys) (fun u_ => none) p'.1 = p'.2.bind (ys[·]?) := by
          rw [bindC_at (by rw [kO,(hcs p' hp').1]; decide) _ _ hkey,lookup_idx hly,Option.or_none,(hcs p' hp').2.2]
        exact (congrArg (IsO h₂ F₁ (iniV va p'.2)) e2).mpr (iniV_is (hys.ext ex) p'.2)
      · exact st₁.mu p hp
    · show ((μc ++ μ).map (·.1)).Nodup;rw [List.map_append];refine List.nodup_append.mpr ⟨?_,st₁.nodup,fun a ha b hb e => ?_⟩
      · show ((csP.map fun p => (ca p.1,Ce.cell (iniV va p.2))).map (·.1)).Nodup;rw [List.map_map];have : (csP.map (·.1)).Pairwise (· ≠ ·) := ndc;rw [List.pairwise_map] at this;refine List.pairwise_map.mpr (List.Pairwise.imp_of_mem (fun {p q} hp hq hne e => hne ?_) this);exact name_of_addr x.apart (mem_of_lookup (hca p hp)) ((show ca p.1 = ca q.1 from e) ▸ mem_of_lookup (hca q hq))
      · apply gG;intro nG
        obtain ⟨p,hp,rfl⟩ := hμc a ha;apply nG;clear nG;exact nmu p hp (e ▸ hb)
    · rw [addrs,List.map_append] at hm;rcases List.mem_append.mp hm with hm | hm
      · apply gG;intro nG
        obtain ⟨p,hp,rfl⟩ := hμc a hm;apply nG;clear nG;exact nfr p hp fa
      · exact (st₁.froz a fa).2 hm
    · have e2 : bindL (E s₁.heap.objs.size).kindOf (ps.zip ys) (fun u_ => none) p.1 = p.2.bind (ys[·]?) := by
        rw [bindL_at (by rw [kO]; exact (locN p.1 (List.mem_map_of_mem hp)).1) _ _ hkey,lookup_idx hly,Option.or_none,(hns p hp).2]
      exact (congrArg (IsO h₂ F₁ (iniV va p.2)) e2).mpr (iniV_is (hys.ext ex) p.2)
    · rw [addrs,List.map_append] at hm;rcases List.mem_append.mp hm with hm | hm
      · apply gG;intro nG
        obtain ⟨p,hp,e⟩ := hμc _ hm;apply nG;clear nG;exact absurd (cab p hp) (e ▸ Nat.lt_irrefl _)
      · exact nL hm
    · apply gG;intro nG
      obtain ⟨⟨o,ho⟩,_⟩ := I₁.froz _ fa;apply nG;clear nG;have ho' : s₁.heap.get? s₁.heap.objs.size = some o := ho;rw [hL] at ho'; cases ho'
    · rw [addrs,List.map_append] at ha;rcases List.mem_append.mp ha with ha | ha
      · apply gG;intro nG
        obtain ⟨p,hp,rfl⟩ := hμc _ ha;apply nG;clear nG;exact .inr (cafr p hp)
      · exact .inl ha
  refine wN.mono (vs (h Φ rfl rfl ca (fun p hp => ⟨(hcs p hp).1,hca p hp⟩) Q hQ) _ F₁ G O J) (fun fl s' ⟨F',b,μ',ℓ',i,e,rf,q⟩ => ?_) (fun u_ u_ z => z.elim);have gr : Grow (addrs μ) F s.heap F' μ' s'.heap := g₁.trans i.grow;cases rf with
  | ret hv => exact ⟨_,rfl,F',_,μ',i.st,gr,hv,q⟩
  | next => exact ⟨_,rfl,F',_,μ',i.st,gr,.none,q⟩
  | brk => exact ⟨_,rfl,F',_,μ',i.st,gr,.none,q⟩
  | cont => exact ⟨_,rfl,F',_,μ',i.st,gr,.none,q⟩
noncomputable def nsOf (ps rest : List Str) : List (Str × Option Nat) := ps.zipIdx.map (fun p => (p.1,some p.2)) ++ rest.map fun x => (x,none)
theorem nsOf_ns (ps rest : List Str) : (nsOf ps rest).map (·.1) = ps ++ rest := by
  unfold nsOf;rw [List.map_append,List.map_map,List.map_map];exact congr (congrArg _ (List.zipIdx_map_fst 0 ps)) (List.map_id rest)
theorem nsOf_va {ps rest : List Str} {va : List V} (h : ps.length = va.length) : (nsOf ps rest).map (fun p => iniV va p.2) = va.map some ++ rest.map fun u_ => none := by
  unfold nsOf;rw [List.map_append,List.map_map,List.map_map];refine congr (congrArg _ (List.ext_getElem? fun i => ?_)) rfl;rw [List.getElem?_map,List.getElem?_map,List.getElem?_zipIdx]
  by_cases hi : i < va.length
  · rw [List.getElem?_eq_getElem hi,List.getElem?_eq_getElem (h ▸ hi)];show some (iniV va (some (0 + i))) = _;rw [Nat.zero_add]; exact congrArg some (List.getElem?_eq_getElem hi)
  · rw [List.getElem?_eq_none (Nat.not_lt.mp hi),List.getElem?_eq_none (h ▸ Nat.not_lt.mp hi)]; rfl
theorem spec_fn {W : Wd} (hK : Kn W.K) {n : Nat} {f : Addr} {pa : Arguments} {body : List Stmt} {scope : Scope} {dV : Value} (hg : fnGet W.K f = some (pa,body,scope,dV))
    {args va : List V} {kw : List (Str × V)} {μ : Mu} {P : V → Mu → Prop} (ps rest : List Str) (gs : List (Str × Value))
    (hb : ∀ name qual kV doc pm an cdv ct,Binds W (fnOf name qual pa body scope dV kV doc pm an cdv ct) args kw ps va μ)
    (h : ∀ Φ : Fx,Φ.n = n → ∀ Q : V → Mu → Prop,(∀ v μ' μ'' ν,Sel μ'' μ' ν → P v μ'' → Q v μ') → vg W Φ (ps ++ rest) gs 99 (.s body fun fl μ' u_ => Q (flV fl) μ') μ (va.map some ++ rest.map fun u_ => none))
    (hlen : ps.length = va.length := by rfl) (hok : fnOkC scope ps (nsOf ps rest) [] gs = true := by kernel_rfl) : Spec W (n + 1) (.ref f) args kw μ P :=
  spec_fnC hK hg ps (nsOf ps rest) [] gs hb (fun Φ hn u_ u_ u_ Q hQ => by rw [nsOf_ns,nsOf_va hlen]; exact h Φ hn Q hQ) hlen hok
end
section
open PySem PySem.W PyProof.Rows PySem.Calls
noncomputable abbrev bI (a ba : Addr) (cv : V) (fin : Bool) (hd ma : Int) (ne : Bool) (oe : V) (vne : Option V) (vt : V) : Addr × Ce := (a,.inst 693 (bsl ba cv fin hd ma ne oe vne vt))
noncomputable abbrev bB (a ba : Addr) (cv : V) (fin : Bool) (pre tail : List UInt8) (ma : Int) (ne : Bool) (oe : V) (vne : Option V) (vt : V) : Mu := [bI a ba cv fin (pre.length : Nat) ma ne oe vne vt,(ba,.ba (pre ++ tail))]
section
variable {W : Wd} (hK : Kn W.K) {Φ : Fx} {ns : List Str} {gs : List (Str × Value)} {μ μ' : Mu} {ℓ : Loc} {a ba : Addr} {cv oe vt : V} {fin ne : Bool} {hd ma : Int} {vne : Option V}
include hK
theorem mB {f : Addr} {name : Str} {pl : Sem Bool} {Q : Value × List V → Mu → Loc → Prop} (hm : bI a ba cv fin hd ma ne oe vne vt ∈ μ) (hp : methAt W.K 693 name f = true) (q : Q (.ref f,[.val (.ref a)]) μ ℓ) :
    X1 W RM Φ ns gs μ ℓ (.val (.ref a)) (fun v => getMethod v name pl) fun fl μ ℓ => Keeps W fl.1 ∧ Q fl μ ℓ := m_inst hm (kB hK) hp ⟨meth_keeps hp,q⟩
theorem get_Bytes {Q : V → Mu → Loc → Prop} (hm : bI a ba cv fin hd ma ne oe vne vt ∈ μ) (q : Q (.val (.ref ba)) μ ℓ) : X1 W RV Φ ns gs μ ℓ (.val (.ref a)) (fun x => getAttr x "Bytes" true) Q := g_slot hm (kB hK) (sB_Bytes hK) rfl rfl q
theorem put_Bytes {b2 : Addr} {Q : Unit → Mu → Loc → Prop} (U : UpdM μ a (.inst 693 (bsl ba cv fin hd ma ne oe vne vt)) (.inst 693 (bsl b2 cv fin hd ma ne oe vne vt)) μ') (q : Q () μ' ℓ) : X2 W RU Φ ns gs μ ℓ (.val (.ref a)) (.val (.ref b2)) (fun x y => setAttr x "Bytes" y) Q := g_put (kB hK) (sB_Bytes hK) (l := bsl ba cv fin hd ma ne oe vne vt) (i := 0) (show 0 < 11 by decide) U q
theorem get_current_vtable {Q : V → Mu → Loc → Prop} (hm : bI a ba cv fin hd ma ne oe vne vt ∈ μ) (hv : noB cv = true) (q : Q cv μ ℓ) : X1 W RV Φ ns gs μ ℓ (.val (.ref a)) (fun x => getAttr x "current_vtable" true) Q := g_slot hm (kB hK) (sB_current_vtable hK) rfl hv q
theorem put_current_vtable {v2 : V} {Q : Unit → Mu → Loc → Prop} (U : UpdM μ a (.inst 693 (bsl ba cv fin hd ma ne oe vne vt)) (.inst 693 (bsl ba v2 fin hd ma ne oe vne vt)) μ') (q : Q () μ' ℓ) : X2 W RU Φ ns gs μ ℓ (.val (.ref a)) (v2) (fun x y => setAttr x "current_vtable" y) Q := g_put (kB hK) (sB_current_vtable hK) (l := bsl ba cv fin hd ma ne oe vne vt) (i := 1) (show 1 < 11 by decide) U q
theorem get_finished {Q : V → Mu → Loc → Prop} (hm : bI a ba cv fin hd ma ne oe vne vt ∈ μ) (q : Q (.bool fin) μ ℓ) : X1 W RV Φ ns gs μ ℓ (.val (.ref a)) (fun x => getAttr x "finished" true) Q := g_slot hm (kB hK) (sB_finished hK) rfl rfl q
theorem put_finished {f2 : Bool} {Q : Unit → Mu → Loc → Prop} (U : UpdM μ a (.inst 693 (bsl ba cv fin hd ma ne oe vne vt)) (.inst 693 (bsl ba cv f2 hd ma ne oe vne vt)) μ') (q : Q () μ' ℓ) : X2 W RU Φ ns gs μ ℓ (.val (.ref a)) (.bool f2) (fun x y => setAttr x "finished" y) Q := g_put (kB hK) (sB_finished hK) (l := bsl ba cv fin hd ma ne oe vne vt) (i := 2) (show 2 < 11 by decide) U q
theorem get_forceDefaults {Q : V → Mu → Loc → Prop} (hm : bI a ba cv fin hd ma ne oe vne vt ∈ μ) (q : Q (.bool false) μ ℓ) : X1 W RV Φ ns gs μ ℓ (.val (.ref a)) (fun x => getAttr x "forceDefaults" true) Q := g_slot hm (kB hK) (sB_forceDefaults hK) rfl rfl q
theorem get_head {Q : V → Mu → Loc → Prop} (hm : bI a ba cv fin hd ma ne oe vne vt ∈ μ) (q : Q (.int hd) μ ℓ) : X1 W RV Φ ns gs μ ℓ (.val (.ref a)) (fun x => getAttr x "head" true) Q := g_slot hm (kB hK) (sB_head hK) rfl rfl q
theorem put_head {h2 : Int} {Q : Unit → Mu → Loc → Prop} (U : UpdM μ a (.inst 693 (bsl ba cv fin hd ma ne oe vne vt)) (.inst 693 (bsl ba cv fin h2 ma ne oe vne vt)) μ') (q : Q () μ' ℓ) : X2 W RU Φ ns gs μ ℓ (.val (.ref a)) (.int h2) (fun x y => setAttr x "head" y) Q := g_put (kB hK) (sB_head hK) (l := bsl ba cv fin hd ma ne oe vne vt) (i := 4) (show 4 < 11 by decide) U q
theorem get_minalign {Q : V → Mu → Loc → Prop} (hm : bI a ba cv fin hd ma ne oe vne vt ∈ μ) (q : Q (.int ma) μ ℓ) : X1 W RV Φ ns gs μ ℓ (.val (.ref a)) (fun x => getAttr x "minalign" true) Q := g_slot hm (kB hK) (sB_minalign hK) rfl rfl q
theorem put_minalign {m2 : Int} {Q : Unit → Mu → Loc → Prop} (U : UpdM μ a (.inst 693 (bsl ba cv fin hd ma ne oe vne vt)) (.inst 693 (bsl ba cv fin hd m2 ne oe vne vt)) μ') (q : Q () μ' ℓ) : X2 W RU Φ ns gs μ ℓ (.val (.ref a)) (.int m2) (fun x y => setAttr x "minalign" y) Q := g_put (kB hK) (sB_minalign hK) (l := bsl ba cv fin hd ma ne oe vne vt) (i := 5) (show 5 < 11 by decide) U q
theorem get_nested {Q : V → Mu → Loc → Prop} (hm : bI a ba cv fin hd ma ne oe vne vt ∈ μ) (q : Q (.bool ne) μ ℓ) : X1 W RV Φ ns gs μ ℓ (.val (.ref a)) (fun x => getAttr x "nested" true) Q := g_slot hm (kB hK) (sB_nested hK) rfl rfl q
theorem put_nested {n2 : Bool} {Q : Unit → Mu → Loc → Prop} (U : UpdM μ a (.inst 693 (bsl ba cv fin hd ma ne oe vne vt)) (.inst 693 (bsl ba cv fin hd ma n2 oe vne vt)) μ') (q : Q () μ' ℓ) : X2 W RU Φ ns gs μ ℓ (.val (.ref a)) (.bool n2) (fun x y => setAttr x "nested" y) Q := g_put (kB hK) (sB_nested hK) (l := bsl ba cv fin hd ma ne oe vne vt) (i := 6) (show 6 < 11 by decide) U q
theorem get_objectEnd {Q : V → Mu → Loc → Prop} (hm : bI a ba cv fin hd ma ne oe vne vt ∈ μ) (hv : noB oe = true) (q : Q oe μ ℓ) : X1 W RV Φ ns gs μ ℓ (.val (.ref a)) (fun x => getAttr x "objectEnd" true) Q := g_slot hm (kB hK) (sB_objectEnd hK) rfl hv q
theorem put_objectEnd {v2 : V} {Q : Unit → Mu → Loc → Prop} (U : UpdM μ a (.inst 693 (bsl ba cv fin hd ma ne oe vne vt)) (.inst 693 (bsl ba cv fin hd ma ne v2 vne vt)) μ') (q : Q () μ' ℓ) : X2 W RU Φ ns gs μ ℓ (.val (.ref a)) (v2) (fun x y => setAttr x "objectEnd" y) Q := g_put (kB hK) (sB_objectEnd hK) (l := bsl ba cv fin hd ma ne oe vne vt) (i := 7) (show 7 < 11 by decide) U q
theorem get_vectorNumElems {v : V} {Q : V → Mu → Loc → Prop} (hm : bI a ba cv fin hd ma ne oe (some v) vt ∈ μ) (hv : noB v = true) (q : Q v μ ℓ) : X1 W RV Φ ns gs μ ℓ (.val (.ref a)) (fun x => getAttr x "vectorNumElems" true) Q := g_slot hm (kB hK) (sB_vectorNumElems hK) rfl hv q
theorem put_vectorNumElems {v2 : V} {Q : Unit → Mu → Loc → Prop} (U : UpdM μ a (.inst 693 (bsl ba cv fin hd ma ne oe vne vt)) (.inst 693 (bsl ba cv fin hd ma ne oe (some v2) vt)) μ') (q : Q () μ' ℓ) : X2 W RU Φ ns gs μ ℓ (.val (.ref a)) (v2) (fun x y => setAttr x "vectorNumElems" y) Q := g_put (kB hK) (sB_vectorNumElems hK) (l := bsl ba cv fin hd ma ne oe vne vt) (i := 9) (show 9 < 11 by decide) U q
theorem get_vtables {Q : V → Mu → Loc → Prop} (hm : bI a ba cv fin hd ma ne oe vne vt ∈ μ) (hv : noB vt = true) (q : Q vt μ ℓ) : X1 W RV Φ ns gs μ ℓ (.val (.ref a)) (fun x => getAttr x "vtables" true) Q := g_slot hm (kB hK) (sB_vtables hK) rfl hv q
theorem put_vtables {v2 : V} {Q : Unit → Mu → Loc → Prop} (U : UpdM μ a (.inst 693 (bsl ba cv fin hd ma ne oe vne vt)) (.inst 693 (bsl ba cv fin hd ma ne oe vne v2)) μ') (q : Q () μ' ℓ) : X2 W RU Φ ns gs μ ℓ (.val (.ref a)) (v2) (fun x y => setAttr x "vtables" y) Q := g_put (kB hK) (sB_vtables hK) (l := bsl ba cv fin hd ma ne oe vne vt) (i := 10) (show 10 < 11 by decide) U q
end
end
section
open PySem PySem.W PyProof.Rows PySem.Calls
section
variable {W : Wd} (hK : Kn W.K)
include hK
theorem offset_spec {a ba : Addr} {b : List UInt8} {cv oe vt : V} {fin ne : Bool} {hd ma : Int} {vne : Option V} (hz : b.length ≤ 1000000) :
    Spec W 1 (.ref 363) [.val (.ref a)] [] [bI a ba cv fin hd ma ne oe vne vt,(ba,.ba b)] (fun v μ' => v = .int (b.length - hd) ∧ μ' = [bI a ba cv fin hd ma ne oe vne vt,(ba,.ba b)]) := by
  refine spec_fn hK (f_363 hK) ["self"] [] [("len",.builtin "len")] (fun u_ u_ u_ u_ u_ u_ u_ u_ => bind_pos (len1 fun u_ => by kernel_rfl)) (fun Φ hn Q hQ => ?_);refine ng_ 0 ?_;refine kb ?_;refine nl 0 ?_;refine get_Bytes hK (by repeat' constructor) ?_;refine l_len_ba (by repeat' constructor) (by (first | assumption | omega | (simp only [List.length_append,List.length_replicate]; (first | lia | omega)) | (simp; (first | lia | omega)))) ?_;refine nl 0 ?_;refine get_head hK (by repeat' constructor) ?_;exact hQ _ _ _ _ (by repeat' constructor) ⟨rfl,rfl⟩
theorem grow_spec {a ba : Addr} {b : List UInt8} {cv oe vt : V} {fin ne : Bool} {hd ma : Int} {vne : Option V} (hz : b.length ≤ 1000000) :
    Spec W 1 (.ref 349) [.val (.ref a)] [] [bI a ba cv fin hd ma ne oe vne vt,(ba,.ba b)]
      (fun v μ' => ∃ ba' pre,μ' = [bI a ba' cv fin hd ma ne oe vne vt,(ba',.ba (pre ++ b))] ∧ pre.length + b.length = if b.length = 0 then 1 else 2 * b.length) := by
  refine spec_fn hK (f_349 hK) ["self"] ["newSize","bytes2"] [("len",.builtin "len"),("Builder",.ref 693),("min",.builtin "min"),("bytearray",.type "bytearray")] (fun u_ u_ u_ u_ u_ u_ u_ u_ => bind_pos (len1 fun u_ => by kernel_rfl)) (fun Φ hn Q hQ => ?_);refine ng_ 0 ?_;refine kb ?_;refine nl 0 ?_;refine get_Bytes hK (by repeat' constructor) ?_;refine l_len_ba (by repeat' constructor) (by (first | assumption | omega | (simp only [List.length_append,List.length_replicate]; (first | lia | omega)) | (simp; (first | lia | omega)))) ?_;refine ng_ 1 ?_;refine g_cls (kF_B hK) (aF_MAX hK) (fun u_ u_ => .int) ?_;refine if_f (by simp; exact q6 hz) ?_;refine ng_ 2 ?_;refine kb ?_;refine ng_ 0 ?_;refine kb ?_;refine nl 0 ?_;refine get_Bytes hK (by repeat' constructor) ?_;refine l_len_ba (by repeat' constructor) (by (first | assumption | omega | (simp only [List.length_append,List.length_replicate]; (first | lia | omega)) | (simp; (first | lia | omega)))) ?_;refine o_mul (by exact (by decide)) ?_;refine ng_ 1 ?_;refine g_cls (kF_B hK) (aF_MAX hK) (fun u_ u_ => .int) ?_;refine l_min ?_;rw [if_neg (by exact q7 hz)];refine st_ 1 ?_;refine nl 1 ?_;refine if_s (fun hc => ?_) (fun hc => ?_)
  ·
    refine st_ 1 ?_;refine ng_ 3 ?_;refine kb ?_;refine nl 1 ?_;refine l_ba_n (by exact (by decide)) (by exact (by decide)) (fun b2 => ?_);refine st_ 2 ?_;refine nl 0 ?_;refine get_Bytes hK (by repeat' constructor) ?_;refine nl 2 ?_;refine nl 1 ?_;refine ng_ 0 ?_;refine kb ?_;refine nl 0 ?_;refine get_Bytes hK (by repeat' constructor) ?_;refine l_len_ba (by repeat' constructor) (by (first | assumption | omega | (simp only [List.length_append,List.length_replicate]; (first | lia | omega)) | (simp; (first | lia | omega)))) ?_;have e : (if b.length = 0 then 1 else 2 * b.length) = 1 := by rw [if_pos (by have h := beq_iff_eq.mp hc; (exact q8 hc))]
    have hb : b.length ≤ 1 := by have h := beq_iff_eq.mp hc; (exact q9 hc)
    refine x3_nd fun nd => ?_
    simp only [addrs,List.map,List.nodup_cons,List.mem_cons,not_or] at nd;have hcl : clipAt (List.replicate (1 : Int).toNat (0 : UInt8)).length ((1 : Int) - b.length) = 1 - b.length := clip_le (by (exact q10 hc)) (by simp);refine p_ba (c := b) (L := 1 - b.length) (H := 1) .int .none (by rw [List.length_replicate]; (exact Nat.le_add_left _ _)) (.inr ⟨ba,rfl,fun q => nd.1.2.1 q.symm,by repeat' constructor⟩) hcl (by simp) (by exact Nat.sub_le _ _) (by simp) (by (exact q11 hc)) (by repeat' constructor) ?_;refine nl 2 ?_;refine nl 0 ?_;refine put_Bytes hK (by repeat' constructor) ?_;simp only [List.drop_replicate,show (1 : Int).toNat = 1 from rfl,Nat.sub_self,List.replicate_zero,List.append_nil];refine hQ _ _ _ _ (by repeat' constructor) ⟨b2,List.take (1 - b.length) (List.replicate 1 0),rfl,?_⟩;rw [e,List.length_take,List.length_replicate]
    (exact q12 hc)
  ·
    refine ng_ 3 ?_;refine kb ?_;refine nl 1 ?_;have e0 : ((b.length : Nat) : Int) * 2 = ((2 * b.length : Nat) : Int) := by push_cast; rw [Int.mul_comm]
    rw [e0];apply gG;intro nG
    obtain ⟨n,hn2⟩ : ∃ n : Nat,n = 2 * b.length := ⟨_,rfl⟩
    apply nG;clear nG;have e : (if b.length = 0 then 1 else 2 * b.length) = n := by rw [if_neg (fun e => by rw [beq_eq_false_iff_ne] at hc; exact q13 hc e),hn2]
    rw [← hn2];refine l_ba_n (by (first | with_reducible exact Int.natCast_nonneg _ | with_reducible exact nn31 | (clear hn2; lia))) (by exact q14 hz hn2) (fun b2 => ?_);refine st_ 2 ?_;refine nl 0 ?_;refine get_Bytes hK (by repeat' constructor) ?_;refine nl 2 ?_;refine nl 1 ?_;refine ng_ 0 ?_;refine kb ?_;refine nl 0 ?_;refine get_Bytes hK (by repeat' constructor) ?_;refine l_len_ba (by repeat' constructor) (by (first | assumption | omega | (simp only [List.length_append,List.length_replicate]; (first | lia | omega)) | (simp; (first | lia | omega)))) ?_;refine x3_nd fun nd => ?_
    simp only [addrs,List.map,List.nodup_cons,List.mem_cons,not_or] at nd;have hcl : clipAt (List.replicate (n : Int).toNat (0 : UInt8)).length ((n : Int) - b.length) = n - b.length := clip_le (by (exact q15 hn2)) (by simp);refine p_ba (c := b) (L := n - b.length) (H := n) .int .none (by rw [List.length_replicate]; exact q16 hz hn2) (.inr ⟨ba,rfl,fun q => nd.1.2.1 q.symm,by repeat' constructor⟩) hcl (by simp) (by exact Nat.sub_le _ _) (by simp) (by exact q17 hn2) (by repeat' constructor) ?_;refine nl 2 ?_;refine nl 0 ?_;refine put_Bytes hK (by repeat' constructor) ?_;simp only [List.drop_replicate,Int.toNat_natCast,Nat.sub_self,List.replicate_zero,List.append_nil];refine hQ _ _ _ _ (by repeat' constructor) ⟨b2,List.take (n - b.length) (List.replicate n 0),rfl,?_⟩;rw [e,List.length_take,List.length_replicate];exact q18 hn2
theorem pad_spec {a ba : Addr} {cv oe vt : V} {fin ne : Bool} {ma : Int} {vne : Option V} {pre tail : List UInt8} {n : Nat} (hz : pre.length + tail.length ≤ 1000000) (h0 : n ≤ pre.length) (hn4 : n < 8) :
    Spec W 1 (.ref 370) [.val (.ref a),.int n] [] (bB a ba cv fin pre tail ma ne oe vne vt)
      (fun v μ' => ∃ pre',μ' = (bB a ba cv fin pre' (List.replicate n 0 ++ tail) ma ne oe vne vt) ∧ pre'.length + n = pre.length) := by
  refine spec_fn hK (f_370 hK) ["self","n"] ["new_head"] [] (fun u_ u_ u_ u_ u_ u_ u_ u_ => bind_pos (len2 fun u_ u_ => by kernel_rfl)) (fun Φ hn Q hQ => ?_);refine nl 1 ?_;refine if_s (fun hc => ?_) (fun hc => ?_)
  ·
    have e : n = 0 := by simpa using hc
    subst e;exact hQ _ _ _ _ (by repeat' constructor) ⟨pre,rfl,rfl⟩
  ·
    refine nl 0 ?_;refine get_head hK (by repeat' constructor) ?_;refine nl 1 ?_;refine st_ 2 ?_;refine nl 1 ?_;refine o_mul_bytes (by decide) (by decide) (by (first | with_reducible exact Int.natCast_nonneg _ | with_reducible exact nn31 | (exact q19))) (by (exact q20 hz h0)) ?_;refine nl 0 ?_;refine get_Bytes hK (by repeat' constructor) ?_;refine nl 2 ?_;refine nl 0 ?_;refine get_head hK (by repeat' constructor) ?_;have e1 : clipAt (pre ++ tail).length ((pre.length : Int) - n) = pre.length - n := clip_le (by exact q21 h0) (by simp; exact q22);have e2 : clipAt (pre ++ tail).length (pre.length : Int) = pre.length := clip_le rfl (by simp);refine p_ba (c := List.replicate n 0) (L := pre.length - n) (H := pre.length) .int .int (by simp; (exact Nat.le_trans (by assumption) (by decide))) (.inl (by simp)) e1 e2 (by exact Nat.sub_le _ _) (by simp) (by simp; exact q23 h0) (by repeat' constructor) ?_;refine nl 2 ?_;refine nl 0 ?_;refine put_head hK (by repeat' constructor) ?_;have e3 : (pre.length : Int) - n = ((pre.take (pre.length - n)).length : Int) := by simp; (exact q21 h0)
    have e4 : List.take (pre.length - n) (pre ++ tail) ++ List.replicate n 0 ++ List.drop pre.length (pre ++ tail) = pre.take (pre.length - n) ++ (List.replicate n 0 ++ tail) := by
      rw [List.take_append_of_le_length (by exact Nat.sub_le _ _),List.drop_left,List.append_assoc]
    rw [e3,e4];exact hQ _ _ _ _ (by repeat' constructor) ⟨pre.take (pre.length - n),rfl,by simp; (exact Nat.sub_add_cancel (by assumption))⟩
end
end
section
open PySem PySem.W PyProof.Rows PySem.Calls
noncomputable def padOf (size t : Nat) : Nat := ((-(t : Int)) % size).toNat
theorem padOf_lt {size t : Nat} (h : 0 < size) : padOf size t < size := by
  unfold padOf;have h1 := Int.emod_nonneg (-(t : Int)) (show (size : Int) ≠ 0 by exact q202 h);have h2 := Int.emod_lt_of_pos (-(t : Int)) (show (0 : Int) < size by exact q203 h);exact q204 h h2
theorem mask_of {size t : Nat} (h : size = 1 ∨ size = 2 ∨ size = 4) : Builtin.bitAnd (Builtin.bitNot (t : Int) + 1) ((size : Int) - 1) = padOf size t := by
  have e : Builtin.bitNot (t : Int) + 1 = -(t : Int) := by unfold Builtin.bitNot; exact q205
  rw [e];unfold padOf;rcases h with rfl | rfl | rfl
  · have : Builtin.bitAnd (-(t : Int)) ((1 : Nat) - 1 : Int) = 0 := by
      rw [show ((1 : Nat) : Int) - 1 = 0 by rfl]
      simpa using kbt_mask (-(t : Int)) 0
    rw [this]; exact q206
  · rw [show ((2 : Nat) : Int) - 1 = 1 by rfl,bitAnd_m1]; exact q207
  · rw [show ((4 : Nat) : Int) - 1 = 3 by rfl,bitAnd_m2]; exact q208
noncomputable def mx (size : Nat) (ma : Int) : Int := if (size : Int) > ma then size else ma
theorem mx4 {ma : Int} (h : ma ≤ 4) : mx 4 ma = 4 := by unfold mx; split <;> lia
theorem mx_4 {n : Nat} (h : n ≤ 4) : mx n 4 = 4 := by unfold mx; split <;> lia
theorem padOf_done {s t x : Nat} (h : s = 1 ∨ s = 2 ∨ s = 4) : padOf s (padOf s (t + x) + t + x) = 0 := by
  unfold padOf;rcases h with rfl | rfl | rfl <;> (first | exact q211 | exact q212 | exact q213)
theorem padOf_add {s t x : Nat} (h : s = 1 ∨ s = 2 ∨ s = 4) : (padOf s (t + x) + t + x) % s = 0 := by
  unfold padOf;rcases h with rfl | rfl | rfl <;> (first | exact q214 | exact q215 | exact q216)
theorem off_of {p t : List UInt8} {n : Nat} (h : t.length = n) : (((p ++ t).length : Nat) : Int) - (p.length : Nat) = n := by rw [List.length_append]; exact q217 h
noncomputable def padT (size k : Nat) (tail : List UInt8) : List UInt8 := List.replicate (padOf size (tail.length + k)) 0 ++ tail
theorem padT_len {size k : Nat} {tail : List UInt8} : (padT size k tail).length = padOf size (tail.length + k) + tail.length := by unfold padT; rw [List.length_append,List.length_replicate]
theorem padT_le {size k : Nat} {tail : List UInt8} (h : 0 < size) : (padT size k tail).length < tail.length + size := by have := padOf_lt (t := tail.length + k) h; rw [padT_len]; exact q218 this
theorem padT_ge {size k : Nat} {tail : List UInt8} : tail.length ≤ (padT size k tail).length := by rw [padT_len]; (exact Nat.le_add_left _ _)
section
variable {W : Wd} (hK : Kn W.K)
include hK
theorem prep_rest {Φ : Fx} {k : Nat} {a ba : Addr} {cv oe vt : V} {fin ne : Bool} {m : Int} {vne : Option V} {pre tail : List UInt8} {size add : Nat} (hn : Φ.n = 1) (hs1 : size = 1 ∨ size = 2 ∨ size = 4) (hz : pre.length + tail.length ≤ 4096) (hr : tail.length + add ≤ 2000) {Q : Fl → Mu → Loc → Prop}
    (hQ : ∀ ba' pre' ℓ,size + add ≤ pre'.length → pre'.length + (padT size add tail).length ≤ 4096 → Q .next (bB a ba' cv fin pre' (padT size add tail) m ne oe vne vt) ℓ) :
    vg W Φ ["self","size","additionalBytes","head","buf_len","alignSize","needed","oldBufSize"] [("len",.builtin "len")] (k + 40) (.s ((fB (mAt 40 13)).drop 1) Q) (bB a ba cv fin pre tail m ne oe vne vt) [some (.val (.ref a)),some (.int size),some (.int add),none,none,none,none,none] := by
  have hp := padOf_lt (size := size) (t := tail.length + add) (by exact q219 hs1);refine nl 0 ?_;refine get_head hK (by repeat' constructor) ?_;refine st_ 3 ?_;refine ng_ 0 ?_;refine kb ?_;refine nl 0 ?_;refine get_Bytes hK (by repeat' constructor) ?_;refine l_len_ba (by repeat' constructor) (by (first | assumption | omega | (simp only [List.length_append,List.length_replicate]; (exact Nat.le_trans (by assumption) (by decide))) | (simp; (first | lia | omega)))) ?_;refine st_ 4 ?_;refine nl 4 ?_;refine nl 3 ?_;refine nl 2 ?_;refine st_ 5 ?_;refine gt_ 5 ?_;refine nl 1 ?_;refine st_ 5 ?_;refine nl 5 ?_;refine nl 1 ?_;refine nl 2 ?_;refine st_ 6 ?_;have e0 : (((pre ++ tail).length : Nat) : Int) - (pre.length : Nat) + (add : Nat) = ((tail.length + add : Nat) : Int) := by rw [List.length_append]; exact q123
  rw [e0,mask_of hs1];have e1 : ((padOf size (tail.length + add) : Nat) : Int) + (size : Nat) + (add : Nat) = ((padOf size (tail.length + add) + size + add : Nat) : Int) := by push_cast; rfl
  rw [e1];refine vw (fun k μ ℓ => ∃ bk p o,μ = [bI a bk cv fin (pre.length : Nat) m ne oe vne vt,(bk,.ba (p ++ tail))] ∧ ℓ = [some (V.val (Value.ref a)),some (V.int size),some (V.int add),some (V.int (p.length : Nat)),some (V.int ((p ++ tail).length : Nat)),some (V.int (padOf size (tail.length + add) : Nat)),some (V.int ((padOf size (tail.length + add) + size + add : Nat) : Int)),o] ∧ p.length + tail.length ≤ 4096 ∧ k = 5000 - (p.length + tail.length)) _ ⟨ba,pre,none,rfl,rfl,hz,rfl⟩ ?_;rintro k _ _ xC3_; apply gG;intro nG;obtain ⟨bk,p,o,rfl,rfl,hz',rfl⟩ := xC3_
  apply nG;clear nG;refine nl 3 ?_;refine nl 6 ?_;refine if_s (fun hc => ?_) (fun hc => ?_)
  ·
    refine nl 4 ?_;refine st_ 7 ?_;refine nl 0 ?_;refine mB hK (by repeat' constructor) (mB_GrowByteBuffer hK) ?_;refine xl_use (grow_spec hK (b := p ++ tail) (by rw [List.length_append]; (exact Nat.le_trans (by assumption) (by decide)))) (by repeat' constructor) hn ?_;rintro v _ xC2_; apply gG;intro nG;obtain ⟨b2,p2,rfl,e2⟩ := xC2_
    apply nG;clear nG;have hc' := of_decide_eq_true hc;have h5 : (p ++ tail).length = p.length + tail.length := List.length_append;have h6 : p2.length + (p.length + tail.length) ≤ 4096 ∧ p.length + tail.length < p2.length + (p.length + tail.length) := by
      rw [h5] at e2
      split at e2 <;> lia
    refine ng_ 0 ?_;refine kb ?_;refine nl 0 ?_;refine get_Bytes hK (by repeat' constructor) ?_;refine l_len_ba (by repeat' constructor) (by (first | assumption | omega | (simp only [List.length_append,List.length_replicate]; exact q220 h6) | (simp; (first | lia | omega)))) ?_;refine st_ 4 ?_;refine gt_ 3 ?_;refine nl 4 ?_;refine nl 7 ?_;refine st_ 3 ?_;have hA : (p.length : Int) + (((p2 ++ (p ++ tail)).length : Nat) - ((p ++ tail).length : Nat)) = ((p2 ++ p).length : Nat) := by simp only [List.length_append]; exact q221
    refine ⟨5000 - (p2.length + (p.length + tail.length)),by (exact q222 h6),b2,p2 ++ p,_,by rw [List.append_assoc p2]; rfl,by rw [hA,List.append_assoc p2]; rfl,by rw [List.length_append]; exact q223 h6,by rw [List.length_append,Nat.add_assoc]⟩
  ·
    have hc1 := of_decide_eq_false hc;refine nl 3 ?_;refine nl 0 ?_;refine put_head hK (by repeat' constructor) ?_;refine nl 0 ?_;refine mB hK (by repeat' constructor) (mB_Pad hK) ?_;refine nl 5 ?_;refine xl_use (pad_spec hK (pre := p) (tail := tail) (n := padOf size (tail.length + add)) (by exact q224 hz') (by (exact q225 hc)) (by exact q226 hs1 hp)) (by repeat' constructor) hn ?_;rintro v _ xC2_; apply gG;intro nG;obtain ⟨p3,rfl,e3⟩ := xC2_
    apply nG;clear nG;exact hQ bk p3 _ (by exact q227 hc e3) (by rw [padT_len]; exact q228 hz' e3)
theorem prep_spec {a ba : Addr} {cv oe vt : V} {fin ne : Bool} {ma : Int} {vne : Option V} {pre tail : List UInt8} {size add : Nat} (hs1 : size = 1 ∨ size = 2 ∨ size = 4) (hz : pre.length + tail.length ≤ 4096) (hr : tail.length + add ≤ 2000) :
    Spec W 2 (.ref 377) [.val (.ref a),.int size,.int add] [] (bB a ba cv fin pre tail ma ne oe vne vt)
      (fun v μ' => ∃ ba' pre',v = .none ∧ μ' = (bB a ba' cv fin pre' (padT size add tail) (mx size ma) ne oe vne vt) ∧ size + add ≤ pre'.length ∧ pre'.length + (padT size add tail).length ≤ 4096) := by
  refine spec_fn hK (f_377 hK) ["self","size","additionalBytes"] ["head","buf_len","alignSize","needed","oldBufSize"] [("len",.builtin "len")] (fun u_ u_ u_ u_ u_ u_ u_ u_ => bind_pos (len3 fun u_ u_ u_ => by kernel_rfl)) (fun Φ hn Q hQ => ?_);refine nl 1 ?_;refine nl 0 ?_;refine get_minalign hK (by repeat' constructor) ?_;refine if_s (fun hc => ?_) (fun hc => ?_)
  ·
    refine nl 1 ?_;refine nl 0 ?_;refine put_minalign hK (by repeat' constructor) ?_;have em : mx size ma = size := if_pos (of_decide_eq_true hc);exact prep_rest hK hn hs1 hz hr fun b2 p2 u_ h1 h2 => by rw [← em]; exact hQ _ _ _ _ (by repeat' constructor) ⟨b2,p2,rfl,rfl,h1,h2⟩
  ·
    have em : mx size ma = ma := if_neg (of_decide_eq_false hc);exact prep_rest hK hn hs1 hz hr fun b2 p2 u_ h1 h2 => by rw [← em]; exact hQ _ _ _ _ (by repeat' constructor) ⟨b2,p2,rfl,rfl,h1,h2⟩
end
end
section
open PySem PySem.W PyProof.Rows PySem.Calls
theorem lay_at {pre tail e : List UInt8} {k n : Nat} (hk : k + n = pre.length) (he : e.length = n) : (pre ++ tail).take k ++ e ++ (pre ++ tail).drop (k + n) = pre.take k ++ (e ++ tail) := by
  rw [List.take_append_of_le_length (by exact q242 hk),hk,List.drop_left,List.append_assoc]
structure FlagI (K : Frag) (C : Addr) (lo hi : Int) : Prop where
  k : metaOk K C = true
  lo : ∃ t,clsAttr K C "min_val" (.int lo t) = true
  hi : ∃ t,clsAttr K C "max_val" (.int hi t) = true
structure FlagF (K : Frag) (C : Addr) (f : Fm) : Prop where
  k : metaOk K C = true
  w : ∃ t,clsAttr K C "bytewidth" (.int f.n t) = true
  p : ∃ S,clsAttr K C "packer_type" (.ref S) = true ∧ structAt K S f = true
section
variable {K : Frag} (h : Kn K)
include h
theorem fi_UO : FlagI K 146 0 (2 ^ 32 - 1) := ⟨kF_UO h,⟨_,aF_UO_min_val h⟩,⟨_,aF_UO_max_val h⟩⟩
theorem fi_I32 : FlagI K 120 (-(2 ^ 31)) (2 ^ 31 - 1) := ⟨kF_I32 h,⟨_,aF_I32_min_val h⟩,⟨_,aF_I32_max_val h⟩⟩
theorem fi_SO : FlagI K 134 (-(2 ^ 31)) (2 ^ 31 - 1) := ⟨kF_SO h,⟨_,aF_SO_min_val h⟩,⟨_,aF_SO_max_val h⟩⟩
theorem fi_U8 : FlagI K 78 0 255 := ⟨kF_U8 h,⟨_,aF_U8_min_val h⟩,⟨_,aF_U8_max_val h⟩⟩
theorem fi_VO : FlagI K 158 0 65535 := ⟨kF_VO h,⟨_,aF_VO_min_val h⟩,⟨_,aF_VO_max_val h⟩⟩
theorem ff_UO : FlagF K 146 .I := ⟨kF_UO h,⟨_,aF_UO_bytewidth h⟩,_,aF_UO_packer_type h,st_I h⟩
theorem ff_I32 : FlagF K 120 .i := ⟨kF_I32 h,⟨_,aF_I32_bytewidth h⟩,_,aF_I32_packer_type h,st_i h⟩
theorem ff_SO : FlagF K 134 .i := ⟨kF_SO h,⟨_,aF_SO_bytewidth h⟩,_,aF_SO_packer_type h,st_i h⟩
theorem ff_U8 : FlagF K 78 .B := ⟨kF_U8 h,⟨_,aF_U8_bytewidth h⟩,_,aF_U8_packer_type h,st_B h⟩
theorem ff_VO : FlagF K 158 .H := ⟨kF_VO h,⟨_,aF_VO_bytewidth h⟩,_,aF_VO_packer_type h,st_H h⟩
theorem ff_Bool : FlagF K 64 .q := ⟨kF_Bool h,⟨_,aF_Bool_bytewidth h⟩,_,aF_Bool_packer_type h,st_bool h⟩
end
section
variable {W : Wd} (hK : Kn W.K)
include hK
theorem enf_int {C : Addr} {lo hi i : Int} (hF : FlagI W.K C lo hi) (h0 : lo ≤ i) (h1 : i ≤ hi) : Spec W 1 (.ref 167) [.int i,.val (.ref C)] [] [] (fun v μ' => v = .none ∧ μ' = []) := by
  apply gG;intro nG
  obtain ⟨hk,⟨t,hlo⟩,⟨u,hhi⟩⟩ := hF;apply nG;clear nG;refine spec_fn hK (f_167 hK) ["n","flags"] [] [] (fun u_ u_ u_ u_ u_ u_ u_ u_ => bind_pos (len2 fun u_ u_ => by kernel_rfl)) (fun Φ hn Q hQ => ?_);refine nl 1 ?_;refine g_cls hk hlo (fun u_ u_ => .int) ?_;refine if_f (by rfl) ?_;refine if_f (by rfl) ?_;refine nl 1 ?_;refine g_cls hk hlo (fun u_ u_ => .int) ?_;refine nl 0 ?_;refine if_t (decide_eq_true h0) ?_;refine nl 1 ?_;refine g_cls hk hhi (fun u_ u_ => .int) ?_;refine if_f (by rw [decide_eq_true h1]; rfl) ?_;exact hQ _ _ _ _ (by repeat' constructor) ⟨rfl,rfl⟩
theorem enf_Bool {i : Bool} : Spec W 1 (.ref 167) [.bool i,.val (.ref 64)] [] [] (fun v μ' => v = .none ∧ μ' = []) := by
  refine spec_fn hK (f_167 hK) ["n","flags"] [] [] (fun u_ u_ u_ u_ u_ u_ u_ u_ => bind_pos (len2 fun u_ u_ => by kernel_rfl)) (fun Φ hn Q hQ => ?_);refine nl 1 ?_;refine g_cls (kF_Bool hK) (aF_Bool_min_val hK) (fun u_ u_ => .bool) ?_;refine if_f (by rfl) ?_;refine if_f (by rfl) ?_;refine nl 1 ?_;refine g_cls (kF_Bool hK) (aF_Bool_min_val hK) (fun u_ u_ => .bool) ?_;refine nl 0 ?_;refine c_le_bool ?_;refine if_t (by cases i <;> rfl) ?_;refine nl 1 ?_;refine g_cls (kF_Bool hK) (aF_Bool_max_val hK) (fun u_ u_ => .bool) ?_;refine c_le_bool ?_;refine if_f (by cases i <;> rfl) ?_;exact hQ _ _ _ _ (by repeat' constructor) ⟨rfl,rfl⟩
theorem write_spec {S ba : Addr} {f : Fm} {b : List UInt8} {off : Nat} {v : V} (hs : structAt W.K S f = true) (hv : f.fits v) (h1 : off + f.n ≤ b.length) (hz : b.length ≤ 16777216) :
    Spec W 1 (.ref 181) [.val (.ref S),.val (.ref ba),.int off,v] [] [(ba,.ba b)] (fun u_ μ' => μ' = [(ba,.ba (b.take off ++ f.enc v ++ b.drop (off + f.n)))]) := by
  refine spec_fn hK (f_181 hK) ["packer_type","buf","head","n"] [] [] (fun u_ u_ u_ u_ u_ u_ u_ u_ => bind_pos (len4 fun u_ u_ u_ u_ => by kernel_rfl)) (fun Φ hn Q hQ => ?_);refine nl 0 ?_;refine m_pack hs ?_;refine ⟨.inr rfl,?_⟩;refine nl 1 ?_;refine nl 2 ?_;refine nl 3 ?_;refine l_pack hs hv (by (first | with_reducible exact Int.natCast_nonneg _ | with_reducible exact nn31 | lia)) (by exact q32 h1) hz (by repeat' constructor) ?_;exact hQ _ _ _ _ (by repeat' constructor) rfl
theorem place_spec {a ba : Addr} {cv oe vt : V} {fin ne : Bool} {ma : Int} {vne : Option V} {pre tail : List UInt8} {C : Addr} {f : Fm} {x : V} (he : Spec W 1 (.ref 167) [x,.val (.ref C)] [] [] (fun v μ' => v = .none ∧ μ' = [])) (hF : FlagF W.K C f) (hv : f.fits x) (hz : pre.length + tail.length ≤ 1000000) (hp : f.n ≤ pre.length) :
    Spec W 2 (.ref 668) [.val (.ref a),x,.val (.ref C)] [] (bB a ba cv fin pre tail ma ne oe vne vt) (fun u_ μ' => ∃ pre',μ' = (bB a ba cv fin pre' (f.enc x ++ tail) ma ne oe vne vt) ∧ pre'.length + f.n = pre.length) := by
  apply gG;intro nG
  obtain ⟨hk,⟨t,hw⟩,S,hS,hs⟩ := hF;apply nG;clear nG;refine spec_fn hK (f_668 hK) ["self","x","flags"] ["new_head"] [("enforce_number",.ref 167),("Write",.ref 181)] (fun u_ u_ u_ u_ u_ u_ u_ u_ => bind_pos (len3 fun u_ u_ u_ => by kernel_rfl)) (fun Φ hn Q hQ => ?_);refine ng_ 0 ?_;refine kf (kp_167 hK) ?_;refine nl 1 ?_;refine nl 2 ?_;refine xl_eq (he) (by repeat' constructor) hn ?_;refine nl 0 ?_;refine get_head hK (by repeat' constructor) ?_;refine nl 2 ?_;refine g_cls hk hw (fun u_ u_ => .int) ?_;refine st_ 3 ?_;refine nl 3 ?_;refine nl 0 ?_;refine put_head hK (by repeat' constructor) ?_;refine ng_ 1 ?_;refine kf (kp_181 hK) ?_;refine nl 2 ?_;refine g_cls hk hS (fun u_ u_ => .val) ?_;refine nl 0 ?_;refine get_Bytes hK (by repeat' constructor) ?_;refine nl 3 ?_;refine nl 1 ?_;have e : ((pre.length : Int) - f.n) = ((pre.length - f.n : Nat) : Int) := by exact q21 hp
  rw [e];refine xl_use (write_spec hK (b := pre ++ tail) (off := pre.length - f.n) (f := f) hs hv (by rw [List.length_append]; exact q243 e) (by rw [List.length_append]; (exact Nat.le_trans (by assumption) (by decide)))) (by repeat' constructor) hn ?_;rintro v _ rfl;have e3 : ((pre.length - f.n : Nat) : Int) = ((pre.take (pre.length - f.n)).length : Int) := by rw [List.length_take]; exact q244
  rw [e3,lay_at (k := pre.length - f.n) (n := f.n) (by exact Nat.sub_add_cancel (by assumption)) (Fm.enc_length hv)];exact hQ _ _ _ _ (by repeat' constructor) ⟨pre.take (pre.length - f.n),rfl,by rw [List.length_take]; exact q245 e⟩
theorem placeSO {a ba : Addr} {cv oe vt : V} {fin ne : Bool} {ma : Int} {vne : Option V} {pre tail : List UInt8} {x : Int} (h0 : -(2 ^ 31) ≤ x) (h1 : x < 2 ^ 31) (hz : pre.length + tail.length ≤ 1000000) (hp : 4 ≤ pre.length) :
    Spec W 2 (.ref 682) [.val (.ref a),.int x] [] (bB a ba cv fin pre tail ma ne oe vne vt) (fun u_ μ' => ∃ pre',μ' = (bB a ba cv fin pre' (Fm.enc .i (.int x) ++ tail) ma ne oe vne vt) ∧ pre'.length + 4 = pre.length) := by
  have hl : (Fm.enc .i (.int x)).length = 4 := Fm.enc_length (f := .i) (v := .int x) ⟨h0,h1⟩;refine spec_fn hK (f_682 hK) ["self","x"] ["new_head"] [("enforce_number",.ref 167),("Write",.ref 181),("SOffsetTFlags",.ref 134),("soffset",.ref 54)] (fun u_ u_ u_ u_ u_ u_ u_ u_ => bind_pos (len2 fun u_ u_ => by kernel_rfl)) (fun Φ hn Q hQ => ?_);refine ng_ 0 ?_;refine kf (kp_167 hK) ?_;refine nl 1 ?_;refine ng_ 2 ?_;refine xl_eq (enf_int hK (fi_SO hK) h0 (by exact q246 h1)) (by repeat' constructor) hn ?_;refine nl 0 ?_;refine get_head hK (by repeat' constructor) ?_;refine ng_ 2 ?_;refine g_cls (kF_SO hK) (aF_SO_bytewidth hK) (fun u_ u_ => .int) ?_;refine st_ 2 ?_;refine nl 2 ?_;refine nl 0 ?_;refine put_head hK (by repeat' constructor) ?_;refine ng_ 1 ?_;refine kf (kp_181 hK) ?_;refine ng_ 3 ?_;refine nl 0 ?_;refine get_Bytes hK (by repeat' constructor) ?_;refine nl 2 ?_;refine nl 1 ?_;have e : ((pre.length : Int) - 4) = ((pre.length - 4 : Nat) : Int) := by exact q247 hp
  rw [e];refine xl_use (write_spec hK (b := pre ++ tail) (off := pre.length - 4) (f := .i) (st_i hK) ⟨h0,h1⟩ (by rw [List.length_append]; show _ + 4 ≤ _; exact q248 e) (by rw [List.length_append]; (exact Nat.le_trans (by assumption) (by decide)))) (by repeat' constructor) hn ?_;rintro v _ rfl;have e3 : ((pre.length - 4 : Nat) : Int) = ((pre.take (pre.length - 4)).length : Int) := by rw [List.length_take]; exact q249
  rw [e3,lay_at (k := pre.length - 4) (n := Fm.n .i) (by show _ + 4 = _; (exact Nat.sub_add_cancel (by assumption))) hl];exact hQ _ _ _ _ (by repeat' constructor) ⟨pre.take (pre.length - 4),rfl,by rw [List.length_take]; exact q250 e⟩
theorem placeUO {a ba : Addr} {cv oe vt : V} {fin ne : Bool} {ma : Int} {vne : Option V} {pre tail : List UInt8} {x : Int} (h0 : 0 ≤ x) (h1 : x < 2 ^ 32) (hz : pre.length + tail.length ≤ 1000000) (hp : 4 ≤ pre.length) :
    Spec W 2 (.ref 689) [.val (.ref a),.int x] [] (bB a ba cv fin pre tail ma ne oe vne vt) (fun u_ μ' => ∃ pre',μ' = (bB a ba cv fin pre' (Fm.enc .I (.int x) ++ tail) ma ne oe vne vt) ∧ pre'.length + 4 = pre.length) := by
  have hl : (Fm.enc .I (.int x)).length = 4 := Fm.enc_length (f := .I) (v := .int x) ⟨h0,h1⟩;refine spec_fn hK (f_689 hK) ["self","x"] ["new_head"] [("enforce_number",.ref 167),("Write",.ref 181),("UOffsetTFlags",.ref 146),("uoffset",.ref 53)] (fun u_ u_ u_ u_ u_ u_ u_ u_ => bind_pos (len2 fun u_ u_ => by kernel_rfl)) (fun Φ hn Q hQ => ?_);refine ng_ 0 ?_;refine kf (kp_167 hK) ?_;refine nl 1 ?_;refine ng_ 2 ?_;refine xl_eq (enf_int hK (fi_UO hK) h0 (by exact q251 h1)) (by repeat' constructor) hn ?_;refine nl 0 ?_;refine get_head hK (by repeat' constructor) ?_;refine ng_ 2 ?_;refine g_cls (kF_UO hK) (aF_UO_bytewidth hK) (fun u_ u_ => .int) ?_;refine st_ 2 ?_;refine nl 2 ?_;refine nl 0 ?_;refine put_head hK (by repeat' constructor) ?_;refine ng_ 1 ?_;refine kf (kp_181 hK) ?_;refine ng_ 3 ?_;refine nl 0 ?_;refine get_Bytes hK (by repeat' constructor) ?_;refine nl 2 ?_;refine nl 1 ?_;have e : ((pre.length : Int) - 4) = ((pre.length - 4 : Nat) : Int) := by exact q247 hp
  rw [e];refine xl_use (write_spec hK (b := pre ++ tail) (off := pre.length - 4) (f := .I) (st_I hK) ⟨h0,h1⟩ (by rw [List.length_append]; show _ + 4 ≤ _; exact q248 e) (by rw [List.length_append]; exact q252 hz)) (by repeat' constructor) hn ?_;rintro v _ rfl;have e3 : ((pre.length - 4 : Nat) : Int) = ((pre.take (pre.length - 4)).length : Int) := by rw [List.length_take]; exact q249
  rw [e3,lay_at (k := pre.length - 4) (n := Fm.n .I) (by show _ + 4 = _; (exact Nat.sub_add_cancel (by assumption))) hl];exact hQ _ _ _ _ (by repeat' constructor) ⟨pre.take (pre.length - 4),rfl,by rw [List.length_take]; exact q250 e⟩
end
end
section
open PySem PySem.W PyProof.Rows PySem.Calls
section
variable {W : Wd} (hK : Kn W.K)
include hK
theorem assertNested_spec {a ba : Addr} {cv oe vt : V} {fin : Bool} {hd ma : Int} {vne : Option V} : Spec W 1 (.ref 434) [.val (.ref a)] [] [bI a ba cv fin hd ma true oe vne vt] (fun v μ' => v = .none ∧ μ' = [bI a ba cv fin hd ma true oe vne vt]) := by
  refine spec_fn hK (f_434 hK) ["self"] [] [] (fun u_ u_ u_ u_ u_ u_ u_ u_ => bind_pos (len1 fun u_ => by kernel_rfl)) (fun Φ hn Q hQ => ?_);refine nl 0 ?_;refine get_nested hK (by repeat' constructor) ?_;refine if_f (by rfl) ?_;exact hQ _ _ _ _ (by repeat' constructor) ⟨rfl,rfl⟩
theorem assertNotNested_spec {a ba : Addr} {cv oe vt : V} {fin : Bool} {hd ma : Int} {vne : Option V} : Spec W 1 (.ref 441) [.val (.ref a)] [] [bI a ba cv fin hd ma false oe vne vt] (fun v μ' => v = .none ∧ μ' = [bI a ba cv fin hd ma false oe vne vt]) := by
  refine spec_fn hK (f_441 hK) ["self"] [] [] (fun u_ u_ u_ u_ u_ u_ u_ u_ => bind_pos (len1 fun u_ => by kernel_rfl)) (fun Φ hn Q hQ => ?_);refine nl 0 ?_;refine get_nested hK (by repeat' constructor) ?_;refine if_f (by rfl) ?_;exact hQ _ _ _ _ (by repeat' constructor) ⟨rfl,rfl⟩
theorem prepSO {a ba : Addr} {cv oe vt : V} {fin ne : Bool} {ma : Int} {vne : Option V} {pre tail : List UInt8} {off : Nat} (hz : pre.length + tail.length ≤ 4096) (hr : tail.length ≤ 1990) (ho : off ≤ (padT 4 0 tail).length) :
    Spec W 3 (.ref 384) [.val (.ref a),.int off] [] (bB a ba cv fin pre tail ma ne oe vne vt) (fun u_ μ' => ∃ ba' pre',μ' = (bB a ba' cv fin pre' (Fm.enc .i (.int (((padT 4 0 tail).length - off + 4 : Nat) : Int)) ++ (padT 4 0 tail)) (mx 4 ma) ne oe vne vt) ∧ pre'.length + 4 + (padT 4 0 tail).length ≤ 4096) := by
  have hp := padT_le (k := 0) (tail := tail) (size := 4) (by decide);refine spec_fn hK (f_384 hK) ["self","off"] ["off2"] [("SOffsetTFlags",.ref 134)] (fun u_ u_ u_ u_ u_ u_ u_ u_ => bind_pos (len2 fun u_ u_ => by kernel_rfl)) (fun Φ hn Q hQ => ?_);refine nl 0 ?_;refine mB hK (by repeat' constructor) (mB_Prep hK) ?_;refine ng_ 0 ?_;refine g_cls (kF_SO hK) (aF_SO_bytewidth hK) (fun u_ u_ => .int) ?_;refine xl_use (prep_spec hK (pre := pre) (tail := tail) (size := 4) (add := 0) (by decide) (by exact q253 hz) (by exact Nat.le_trans (by assumption) (by decide))) (by repeat' constructor) hn ?_;rintro v _ xC2_; apply gG;intro nG;obtain ⟨b2,p2,rfl,rfl,g2,z2⟩ := xC2_
  apply nG;clear nG;refine nl 1 ?_;refine nl 0 ?_;refine mB hK (by repeat' constructor) (mB_Offset hK) ?_;refine xl_eq (offset_spec hK (b := p2 ++ (padT 4 0 tail)) (by rw [List.length_append]; (exact Nat.le_trans (by assumption) (by decide)))) (by repeat' constructor) hn ?_;rw [off_of (n := (padT 4 0 tail).length) (rfl)];refine if_f (by rw [decide_eq_true (by exact q131 ho)]; rfl) ?_;refine nl 0 ?_;refine mB hK (by repeat' constructor) (mB_Offset hK) ?_;refine xl_eq (offset_spec hK (b := p2 ++ (padT 4 0 tail)) (by rw [List.length_append]; exact q224 z2)) (by repeat' constructor) hn ?_;rw [off_of (n := (padT 4 0 tail).length) (rfl)];refine nl 1 ?_;refine ng_ 0 ?_;refine g_cls (kF_SO hK) (aF_SO_bytewidth hK) (fun u_ u_ => .int) ?_;refine st_ 2 ?_;refine nl 0 ?_;refine mB hK (by repeat' constructor) (mB_PlaceSOffsetT hK) ?_;refine nl 2 ?_;have e : (((padT 4 0 tail).length : Nat) : Int) - (off : Nat) + 4 = (((padT 4 0 tail).length - off + 4 : Nat) : Int) := by exact q132 ho
  rw [e];refine xl_use (placeSO hK (pre := p2) (tail := (padT 4 0 tail)) (by (first | with_reducible exact Int.natCast_nonneg _ | with_reducible exact nn31 | (clear e; lia))) (by exact q254 hr hp) (by (exact q224 z2)) (by exact q255 g2)) (by repeat' constructor) hn ?_;rintro v _ xC2_; apply gG;intro nG;obtain ⟨p3,rfl,e3⟩ := xC2_
  apply nG;clear nG;exact hQ _ _ _ _ (by repeat' constructor) ⟨b2,p3,rfl,by exact q256 z2 e3⟩
theorem prepUO {a ba : Addr} {cv oe vt : V} {fin ne : Bool} {ma : Int} {vne : Option V} {pre tail : List UInt8} {off : Nat} (hz : pre.length + tail.length ≤ 4096) (hr : tail.length ≤ 1990) (ho : off ≤ (padT 4 0 tail).length) :
    Spec W 3 (.ref 391) [.val (.ref a),.int off] [] (bB a ba cv fin pre tail ma ne oe vne vt) (fun u_ μ' => ∃ ba' pre',μ' = (bB a ba' cv fin pre' (Fm.enc .I (.int (((padT 4 0 tail).length - off + 4 : Nat) : Int)) ++ (padT 4 0 tail)) (mx 4 ma) ne oe vne vt) ∧ pre'.length + 4 + (padT 4 0 tail).length ≤ 4096) := by
  have hp := padT_le (k := 0) (tail := tail) (size := 4) (by decide);refine spec_fn hK (f_391 hK) ["self","off"] ["off2"] [("UOffsetTFlags",.ref 146)] (fun u_ u_ u_ u_ u_ u_ u_ u_ => bind_pos (len2 fun u_ u_ => by kernel_rfl)) (fun Φ hn Q hQ => ?_);refine nl 0 ?_;refine mB hK (by repeat' constructor) (mB_Prep hK) ?_;refine ng_ 0 ?_;refine g_cls (kF_UO hK) (aF_UO_bytewidth hK) (fun u_ u_ => .int) ?_;refine xl_use (prep_spec hK (pre := pre) (tail := tail) (size := 4) (add := 0) (by decide) (by exact q253 hz) (by exact q257 hr)) (by repeat' constructor) hn ?_;rintro v _ xC2_; apply gG;intro nG;obtain ⟨b2,p2,rfl,rfl,g2,z2⟩ := xC2_
  apply nG;clear nG;refine nl 1 ?_;refine nl 0 ?_;refine mB hK (by repeat' constructor) (mB_Offset hK) ?_;refine xl_eq (offset_spec hK (b := p2 ++ (padT 4 0 tail)) (by rw [List.length_append]; exact q224 z2)) (by repeat' constructor) hn ?_;rw [off_of (n := (padT 4 0 tail).length) (rfl)];refine if_f (by rw [decide_eq_true (by exact q131 ho)]; rfl) ?_;refine nl 0 ?_;refine mB hK (by repeat' constructor) (mB_Offset hK) ?_;refine xl_eq (offset_spec hK (b := p2 ++ (padT 4 0 tail)) (by rw [List.length_append]; exact q224 z2)) (by repeat' constructor) hn ?_;rw [off_of (n := (padT 4 0 tail).length) (rfl)];refine nl 1 ?_;refine ng_ 0 ?_;refine g_cls (kF_UO hK) (aF_UO_bytewidth hK) (fun u_ u_ => .int) ?_;refine st_ 2 ?_;refine nl 0 ?_;refine mB hK (by repeat' constructor) (mB_PlaceUOffsetT hK) ?_;refine nl 2 ?_;have e : (((padT 4 0 tail).length : Nat) : Int) - (off : Nat) + 4 = (((padT 4 0 tail).length - off + 4 : Nat) : Int) := by exact q132 ho
  rw [e];refine xl_use (placeUO hK (pre := p2) (tail := (padT 4 0 tail)) (by (first | with_reducible exact Int.natCast_nonneg _ | with_reducible exact nn31 | (clear e; lia))) (by exact q258 hr hp) (by (exact q224 z2)) (by exact q255 g2)) (by repeat' constructor) hn ?_;rintro v _ xC2_; apply gG;intro nG;obtain ⟨p3,rfl,e3⟩ := xC2_
  apply nG;clear nG;exact hQ _ _ _ _ (by repeat' constructor) ⟨b2,p3,rfl,by exact q256 z2 e3⟩
theorem prepend_spec {a ba : Addr} {cv oe vt : V} {fin ne : Bool} {ma : Int} {vne : Option V} {pre tail : List UInt8} {C : Addr} {f : Fm} {x : V} (he : Spec W 1 (.ref 167) [x,.val (.ref C)] [] [] (fun v μ' => v = .none ∧ μ' = [])) (hF : FlagF W.K C f) (hv : f.fits x) (hz : pre.length + tail.length ≤ 4096) (hr : tail.length ≤ 1990) :
    Spec W 3 (.ref 486) [.val (.ref a),.val (.ref C),x] [] (bB a ba cv fin pre tail ma ne oe vne vt) (fun u_ μ' => ∃ ba' pre',μ' = (bB a ba' cv fin pre' (f.enc x ++ (padT f.n 0 tail)) (mx f.n ma) ne oe vne vt) ∧ pre'.length + f.n + (padT f.n 0 tail).length ≤ 4096) := by
  have hF0 := hF;apply gG;intro nG
  obtain ⟨hk,⟨t,hw⟩,S,hS,hs⟩ := hF;apply nG;clear nG;have h3 : f.n = 1 ∨ f.n = 2 ∨ f.n = 4 := by cases f <;> decide
  have hp := padT_le (k := 0) (tail := tail) (size := f.n) (by exact q219 h3);refine spec_fn hK (f_486 hK) ["self","flags","off"] [] [] (fun u_ u_ u_ u_ u_ u_ u_ u_ => bind_pos (len3 fun u_ u_ u_ => by kernel_rfl)) (fun Φ hn Q hQ => ?_);refine nl 0 ?_;refine mB hK (by repeat' constructor) (mB_Prep hK) ?_;refine nl 1 ?_;refine g_cls hk hw (fun u_ u_ => .int) ?_;refine xl_use (prep_spec hK (pre := pre) (tail := tail) (size := f.n) (add := 0) h3 hz (by exact Nat.le_trans (by assumption) (by decide))) (by repeat' constructor) hn ?_;rintro v _ xC2_; apply gG;intro nG;obtain ⟨b2,p2,rfl,rfl,g2,z2⟩ := xC2_
  apply nG;clear nG;refine nl 0 ?_;refine mB hK (by repeat' constructor) (mB_Place hK) ?_;refine nl 2 ?_;refine nl 1 ?_;refine xl_use (place_spec hK (pre := p2) (tail := (padT f.n 0 tail)) he hF0 hv (by exact Nat.le_trans (by assumption) (by decide)) (by exact q259 g2)) (by repeat' constructor) hn ?_;rintro v _ xC2_; apply gG;intro nG;obtain ⟨p3,rfl,e3⟩ := xC2_
  apply nG;clear nG;exact hQ _ _ _ _ (by repeat' constructor) ⟨b2,p3,rfl,by exact q260 z2 e3⟩
theorem one_I32 {a ba : Addr} {cv oe vt : V} {fin ne : Bool} {ma : Int} {vne : Option V} {pre tail : List UInt8} {x : Int} (h0 : -(2 ^ 31) ≤ x) (h1 : x < 2 ^ 31) (hz : pre.length + tail.length ≤ 4096) (hr : tail.length ≤ 1990) :
    Spec W 4 (.ref 640) [.val (.ref a),.int x] [] (bB a ba cv fin pre tail ma ne oe vne vt) (fun u_ μ' => ∃ ba' pre',μ' = (bB a ba' cv fin pre' (Fm.enc .i (.int x) ++ (padT 4 0 tail)) (mx 4 ma) ne oe vne vt) ∧ pre'.length + 4 + (padT 4 0 tail).length ≤ 4096) := by
  refine spec_fn hK (f_640 hK) ["self","x"] [] [("Int32Flags",.ref 120)] (fun u_ u_ u_ u_ u_ u_ u_ u_ => bind_pos (len2 fun u_ u_ => by kernel_rfl)) (fun Φ hn Q hQ => ?_);refine nl 0 ?_;refine mB hK (by repeat' constructor) (mB_Prepend hK) ?_;refine ng_ 0 ?_;refine nl 1 ?_;refine xl_use (prepend_spec hK (pre := pre) (tail := tail) (f := .i) (enf_int hK (fi_I32 hK) h0 (by exact q246 h1)) (ff_I32 hK) ⟨h0,h1⟩ hz hr) (by repeat' constructor) hn ?_;rintro v _ xC2_; apply gG;intro nG;obtain ⟨b2,p3,rfl,e3⟩ := xC2_
  apply nG;clear nG;exact hQ _ _ _ _ (by repeat' constructor) ⟨b2,p3,rfl,e3⟩
theorem one_VO {a ba : Addr} {cv oe vt : V} {fin ne : Bool} {ma : Int} {vne : Option V} {pre tail : List UInt8} {x : Int} (h0 : 0 ≤ x) (h1 : x < 2 ^ 16) (hz : pre.length + tail.length ≤ 4096) (hr : tail.length ≤ 1990) :
    Spec W 4 (.ref 661) [.val (.ref a),.int x] [] (bB a ba cv fin pre tail ma ne oe vne vt) (fun u_ μ' => ∃ ba' pre',μ' = (bB a ba' cv fin pre' (Fm.enc .H (.int x) ++ (padT 2 0 tail)) (mx 2 ma) ne oe vne vt) ∧ pre'.length + 2 + (padT 2 0 tail).length ≤ 4096) := by
  refine spec_fn hK (f_661 hK) ["self","x"] [] [("VOffsetTFlags",.ref 158)] (fun u_ u_ u_ u_ u_ u_ u_ u_ => bind_pos (len2 fun u_ u_ => by kernel_rfl)) (fun Φ hn Q hQ => ?_);refine nl 0 ?_;refine mB hK (by repeat' constructor) (mB_Prepend hK) ?_;refine ng_ 0 ?_;refine nl 1 ?_;refine xl_use (prepend_spec hK (pre := pre) (tail := tail) (f := .H) (enf_int hK (fi_VO hK) h0 (by exact q261 h1)) (ff_VO hK) ⟨h0,h1⟩ hz hr) (by repeat' constructor) hn ?_;rintro v _ xC2_; apply gG;intro nG;obtain ⟨b2,p3,rfl,e3⟩ := xC2_
  apply nG;clear nG;exact hQ _ _ _ _ (by repeat' constructor) ⟨b2,p3,rfl,e3⟩
end
end
section
open PySem PySem.W PyProof.Rows PySem.Calls
theorem padT_again {s k : Nat} {tail : List UInt8} (h : s = 1 ∨ s = 2 ∨ s = 4) : padT s k (padT s k tail) = padT s k tail := by
  have e : padOf s ((padT s k tail).length + k) = 0 := by
    rw [padT_len,show padOf s (tail.length + k) + tail.length + k = padOf s (tail.length + k) + tail.length + k from rfl]; exact padOf_done h
  show List.replicate (padOf s ((padT s k tail).length + k)) 0 ++ padT s k tail = _;rw [e]; rfl
theorem lay_in {pre t x : List UInt8} (h : x.length ≤ pre.length) : (pre ++ t).take (pre.length - x.length) ++ x ++ (pre ++ t).drop pre.length = pre.take (pre.length - x.length) ++ (x ++ t) := by
  rw [List.take_append_of_le_length (by exact Nat.sub_le _ _),List.drop_left,List.append_assoc]
noncomputable def Enc (x : Str) (bs : List UInt8) : Prop := ∀ t u,Builtin.«str.encode» ⟨[.str x t,.str (Str.ofString "utf-8") u],[]⟩ = (do PySem.ret (← mkBytes bs.toArray))
theorem str_plain : PlainAttrs "str" := ⟨⟨"object.__getattribute__",by rw [typeLookup_type,builtinLookup_eq_fast]; kernel_rfl,by decide +kernel⟩,by rw [typeLookup_type,builtinLookup_eq_fast]; kernel_rfl⟩
section
variable {W : Wd} {Φ : Fx} {ns : List Str} {gs : List (Str × Value)} {μ : Mu} {ℓ : Loc}
theorem m_encode {x : Str} {pl : Sem Bool} {Q : Value × List V → Mu → Loc → Prop} (q : Q (.builtin "str.encode",[.str x]) μ ℓ) :
    X1 W RM Φ ns gs μ ℓ (.str x) (fun v => getMethod v (Str.ofString "encode") pl) Q := by
  intro s F y G O I hx;obtain ⟨_,rfl⟩ := hx.inv;exact .of (getMethod_builtin rfl str_plain PySem.F.slot_str_encode PySem.F.type_str_encode (fun a e => by cases e) (res_here I ⟨rfl,.cons .str .nil⟩ q))
theorem l_encode {x : Str} {bs : List UInt8} {Q : V → Mu → Loc → Prop} (e : Enc x bs) (hz : bs.length ≤ 1000) (q : Q (.bytes bs) μ ℓ) : XL W RV Φ ns gs μ ℓ [.str x,.str (Str.ofString "utf-8")] (fun xs => call (.builtin "str.encode") xs) Q := by
  intro s F xs G O I hx;apply gG;intro nG
  obtain ⟨y,z,rfl,ha,hb⟩ := isL2 hx;apply nG;clear nG;obtain ⟨_,rfl⟩ := ha.inv; obtain ⟨_,rfl⟩ := hb.inv;refine .of (wpAny_call_entry PySem.F.slot_str_encode (T := "str") rfl PySem.F.entry_str_encode ?_ (PySem.F.args_str_encode_2 _ _));rw [e];exact wpAny_bind (wpAny_mkBytes (wpAny_pure ⟨_,rfl,res_tok I .bytes q⟩) (by rw [List.size_toArray,sizeLine_eq]; (exact Nat.le_trans (by assumption) (by decide))))
end
section
variable {W : Wd} (hK : Kn W.K)
include hK
theorem startVector_spec {a ba : Addr} {cv oe vt : V} {fin : Bool} {ma : Int} {vne : Option V} {pre tail : List UInt8} {n : Nat} (hm : ma ≤ 4) (hz : pre.length + tail.length ≤ 4096) (hr : tail.length + 4 * n ≤ 1900) :
    Spec W 3 (.ref 398) [.val (.ref a),.int 4,.int n,.int 4] [] (bB a ba cv fin pre tail ma false oe vne vt) (fun v μ' => ∃ ba' pre',v = .int ((padT 4 (4 * n) tail).length : Nat) ∧ μ' = (bB a ba' cv fin pre' (padT 4 (4 * n) tail) 4 true oe (some (.int n)) vt) ∧ pre'.length + (padT 4 (4 * n) tail).length ≤ 4096 ∧ 4 + 4 * n ≤ pre'.length) := by
  have hp := padT_le (k := 4 * n) (tail := tail) (size := 4) (by decide);have e4 : (4 : Int) * (n : Nat) = ((4 * n : Nat) : Int) := by push_cast; rfl
  refine spec_fn hK (f_398 hK) ["self","elemSize","numElems","alignment"] [] [("Uint32Flags",.ref 106)] (fun u_ u_ u_ u_ u_ u_ u_ u_ => bind_pos (len4 fun u_ u_ u_ u_ => by kernel_rfl)) (fun Φ hn Q hQ => ?_);refine nl 0 ?_;refine mB hK (by repeat' constructor) (mB_assertNotNested hK) ?_;refine xl_eq (assertNotNested_spec hK) (by repeat' constructor) hn ?_;refine nl 0 ?_;refine put_nested hK (by repeat' constructor) ?_;refine nl 2 ?_;refine nl 0 ?_;refine put_vectorNumElems hK (by repeat' constructor) ?_;refine nl 0 ?_;refine mB hK (by repeat' constructor) (mB_Prep hK) ?_;refine ng_ 0 ?_;refine g_cls (kF_U32 hK) (aF_U32_bytewidth hK) (fun u_ u_ => .int) ?_;refine nl 1 ?_;refine nl 2 ?_;refine o_mul (by constructor <;> lia) ?_;rw [e4];refine xl_use (prep_spec hK (pre := pre) (tail := tail) (size := 4) (add := 4 * n) (by decide) (by exact q253 hz) (by exact Nat.le_trans (by assumption) (by decide))) (by repeat' constructor) hn ?_;rintro v _ xC2_; apply gG;intro nG;obtain ⟨b2,p2,rfl,rfl,g2,z2⟩ := xC2_
  apply nG;clear nG;refine nl 0 ?_;refine mB hK (by repeat' constructor) (mB_Prep hK) ?_;refine nl 3 ?_;refine nl 1 ?_;refine nl 2 ?_;refine o_mul (by constructor <;> lia) ?_;rw [e4];refine xl_use (prep_spec hK (pre := p2) (tail := (padT 4 (4 * n) tail)) (size := 4) (add := 4 * n) (by decide) (by exact q253 z2) (by exact q264 hr hp)) (by repeat' constructor) hn ?_;rintro v _ xC2_; apply gG;intro nG;obtain ⟨b3,p3,rfl,rfl,g3,z3⟩ := xC2_
  apply nG;clear nG;rw [padT_again (.inr (.inr rfl))] at z3 ⊢;rw [mx4 hm,mx_4 (by decide)];refine nl 0 ?_;refine mB hK (by repeat' constructor) (mB_Offset hK) ?_;refine xl_eq (offset_spec hK (b := p3 ++ (padT 4 (4 * n) tail)) (by rw [List.length_append]; (exact Nat.le_trans (by assumption) (by decide)))) (by repeat' constructor) hn ?_;rw [off_of (n := (padT 4 (4 * n) tail).length) (rfl)];exact hQ _ _ _ _ (by repeat' constructor) ⟨b3,p3,rfl,rfl,by exact q253 z3,by exact q265 g3⟩
theorem endVector_spec {a ba : Addr} {cv oe vt : V} {fin : Bool} {ma : Int} {pre tail : List UInt8} {n : Nat} (hz : pre.length + tail.length ≤ 4096) (hp : 4 ≤ pre.length) (h2 : n < 2 ^ 32) :
    Spec W 3 (.ref 406) [.val (.ref a)] [] (bB a ba cv fin pre tail ma true oe (some (.int n)) vt) (fun v μ' => ∃ pre',v = .int ((4 + tail.length : Nat) : Int) ∧ μ' = (bB a ba cv fin pre' (Fm.enc .I (.int n) ++ tail) ma false oe (some .none) vt) ∧ pre'.length + 4 = pre.length) := by
  have hl : (Fm.enc .I (.int n) ++ tail).length = 4 + tail.length := by rw [List.length_append,Fm.enc_length (f := .I) (v := .int n) ⟨by (first | with_reducible exact Int.natCast_nonneg _ | with_reducible exact nn31 | lia),by exact q266 h2⟩]; rfl
  refine spec_fn hK (f_406 hK) ["self","numElems"] [] [] (fun u_ u_ u_ u_ u_ u_ u_ u_ => bind_gen (args := [.val (.ref a)]) (kw := []) (dV := [.none]) (ta_399 hK) rfl (fun u_ u_ => .cons .none .nil) (len1 fun x => len0 ⟨_,rfl,rfl⟩)) (fun Φ hn Q hQ => ?_);refine nl 0 ?_;refine mB hK (by repeat' constructor) (mB_assertNested hK) ?_;refine xl_eq (assertNested_spec hK) (by repeat' constructor) hn ?_;refine nl 0 ?_;refine put_nested hK (by repeat' constructor) ?_;refine nl 1 ?_;refine if_f (by rfl) ?_;refine nl 0 ?_;refine mB hK (by repeat' constructor) (mB_PlaceUOffsetT hK) ?_;refine nl 0 ?_;refine get_vectorNumElems hK (by repeat' constructor) rfl ?_;refine xl_use (placeUO hK (pre := pre) (tail := tail) (x := n) (by (first | with_reducible exact Int.natCast_nonneg _ | with_reducible exact nn31 | lia)) (by exact q266 h2) (by exact Nat.le_trans (by assumption) (by decide)) hp) (by repeat' constructor) hn ?_;rintro v _ xC2_; apply gG;intro nG;obtain ⟨p3,rfl,e3⟩ := xC2_
  apply nG;clear nG;refine nl 0 ?_;refine put_vectorNumElems hK (by repeat' constructor) ?_;refine nl 0 ?_;refine mB hK (by repeat' constructor) (mB_Offset hK) ?_;refine xl_eq (offset_spec hK (b := p3 ++ (Fm.enc .I (.int n) ++ tail)) (by rw [List.length_append,hl]; exact q267 hz e3)) (by repeat' constructor) hn ?_;rw [off_of (n := 4 + tail.length) (hl)];exact hQ _ _ _ _ (by repeat' constructor) ⟨p3,rfl,rfl,e3⟩
theorem createBV_spec {a ba : Addr} {cv oe vt : V} {fin : Bool} {ma : Int} {vne : Option V} {pre tail x : List UInt8} (hm : ma ≤ 4) (hz : pre.length + tail.length ≤ 4096) (hr : tail.length + x.length ≤ 1900) :
    Spec W 4 (.ref 427) [.val (.ref a),.bytes x] [] (bB a ba cv fin pre tail ma false oe vne vt) (fun v μ' => ∃ ba' pre',v = .int ((4 + (x.length + (padT 4 x.length tail).length) : Nat) : Int) ∧ μ' = (bB a ba' cv fin pre' (Fm.enc .I (.int x.length) ++ (x ++ (padT 4 x.length tail))) 4 false oe (some .none) vt) ∧ pre'.length + (4 + (x.length + (padT 4 x.length tail).length)) ≤ 4096) := by
  have hp := padT_le (k := x.length) (tail := tail) (size := 4) (by decide);refine spec_fn hK (f_427 hK) ["self","x"] ["data_len","new_head"] [("isinstance",.builtin "isinstance"),("binary_types",.ref 213),("len",.builtin "len"),("UOffsetTFlags",.ref 146),("Uint8Flags",.ref 78)] (fun u_ u_ u_ u_ u_ u_ u_ u_ => bind_pos (len2 fun u_ u_ => by kernel_rfl)) (fun Φ hn Q hQ => ?_);refine nl 0 ?_;refine mB hK (by repeat' constructor) (mB_assertNotNested hK) ?_;refine xl_eq (assertNotNested_spec hK) (by repeat' constructor) hn ?_;refine nl 0 ?_;refine put_nested hK (by repeat' constructor) ?_;refine ng_ 0 ?_;refine kb ?_;refine nl 1 ?_;refine ng_ 1 ?_;refine l_isi_bytes (ta_213 hK) ?_;refine if_f (by rfl) ?_;refine ng_ 2 ?_;refine kb ?_;refine nl 1 ?_;refine l_len_bytes (by exact q268 hr) ?_;refine st_ 2 ?_;refine nl 0 ?_;refine mB hK (by repeat' constructor) (mB_Prep hK) ?_;refine ng_ 3 ?_;refine g_cls (kF_UO hK) (aF_UO_bytewidth hK) (fun u_ u_ => .int) ?_;refine nl 2 ?_;refine ng_ 4 ?_;refine g_cls (kF_U8 hK) (aF_U8_bytewidth hK) (fun u_ u_ => .int) ?_;refine o_mul (by constructor <;> (exact (by decide))) ?_;rw [Int.mul_one];refine xl_use (prep_spec hK (pre := pre) (tail := tail) (size := 4) (add := x.length) (by decide) (by exact q253 hz) (by exact Nat.le_trans (by assumption) (by decide))) (by repeat' constructor) hn ?_;rintro v _ xC2_; apply gG;intro nG;obtain ⟨b2,p2,rfl,rfl,g2,z2⟩ := xC2_
  apply nG;clear nG;rw [mx4 hm];refine nl 0 ?_;refine get_head hK (by repeat' constructor) ?_;refine nl 2 ?_;refine st_ 3 ?_;refine nl 3 ?_;refine nl 0 ?_;refine put_head hK (by repeat' constructor) ?_;refine nl 1 ?_;refine nl 0 ?_;refine get_Bytes hK (by repeat' constructor) ?_;refine nl 3 ?_;refine nl 3 ?_;refine nl 2 ?_;have e1 : clipAt (p2 ++ (padT 4 x.length tail)).length ((p2.length : Int) - (x.length : Nat)) = p2.length - x.length := clip_le (by exact q269 g2) (by rw [List.length_append]; exact q270);have e2 : clipAt (p2 ++ (padT 4 x.length tail)).length ((p2.length : Int) - (x.length : Nat) + (x.length : Nat)) = p2.length := clip_le (by exact q271) (by rw [List.length_append]; (exact Nat.le_add_right _ _));refine p_ba (c := x) (L := p2.length - x.length) (H := p2.length) .int .int (by rw [List.length_append]; (exact Nat.le_trans (by assumption) (by decide))) (.inl rfl) e1 e2 (by exact Nat.sub_le _ _) (by rw [List.length_append]; (exact Nat.le_add_right _ _)) (by exact q272 g2) (by repeat' constructor) ?_;rw [lay_in (by exact q273 g2)];refine nl 2 ?_;refine nl 0 ?_;refine put_vectorNumElems hK (by repeat' constructor) ?_;refine nl 0 ?_;refine mB hK (by repeat' constructor) (mB_EndVector hK) ?_;have e3 : ((p2.length : Int) - (x.length : Nat)) = ((List.take (p2.length - x.length) p2).length : Nat) := by rw [List.length_take]; exact q274 g2
  rw [e3];have e5 : (List.take (p2.length - x.length) p2).length = p2.length - x.length := by rw [List.length_take]; exact q275
  have e6 : (x ++ (padT 4 x.length tail)).length = x.length + (padT 4 x.length tail).length := List.length_append;refine xl_use (endVector_spec hK (pre := List.take (p2.length - x.length) p2) (tail := x ++ (padT 4 x.length tail)) (n := x.length) (by exact q276 z2 e3 e6) (by exact q277 g2 e3) (by exact q278 hr)) (by repeat' constructor) hn ?_;rintro v _ xC2_; apply gG;intro nG;obtain ⟨p4,rfl,rfl,e4⟩ := xC2_
  apply nG;clear nG;rw [e6];exact hQ _ _ _ _ (by repeat' constructor) ⟨b2,p4,rfl,rfl,by (exact q279 z2 e5 e4)⟩
theorem createStr_spec {a ba : Addr} {cv oe vt : V} {fin : Bool} {ma : Int} {vne : Option V} {pre tail x : List UInt8} {tx : Str} (he : Enc tx x) (hm : ma ≤ 4) (hz : pre.length + tail.length ≤ 4096) (hr : tail.length + x.length ≤ 900) :
    Spec W 4 (.ref 420) [.val (.ref a),.str tx] [] (bB a ba cv fin pre tail ma false oe vne vt) (fun v μ' => ∃ ba' pre',v = .int ((4 + (x.length + (0 :: (padT 4 (x.length + 1) tail)).length) : Nat) : Int) ∧ μ' = (bB a ba' cv fin pre' (Fm.enc .I (.int x.length) ++ (x ++ (0 :: (padT 4 (x.length + 1) tail)))) 4 false oe (some .none) vt) ∧ pre'.length + (4 + (x.length + (0 :: (padT 4 (x.length + 1) tail)).length)) ≤ 4096) := by
  have hp := padT_le (k := x.length + 1) (tail := tail) (size := 4) (by decide);have h9 : (0 :: (padT 4 (x.length + 1) tail)).length = (padT 4 (x.length + 1) tail).length + 1 := rfl;refine spec_fn hK (f_420 hK) ["self","s"] ["x","payload_len","new_head"] [("isinstance",.builtin "isinstance"),("string_types",.ref 212),("len",.builtin "len"),("UOffsetTFlags",.ref 146),("Uint8Flags",.ref 78)] (fun u_ u_ u_ u_ u_ u_ u_ u_ => bind_pos (len2 fun u_ u_ => by kernel_rfl)) (fun Φ hn Q hQ => ?_);refine nl 0 ?_;refine mB hK (by repeat' constructor) (mB_assertNotNested hK) ?_;refine xl_eq (assertNotNested_spec hK) (by repeat' constructor) hn ?_;refine nl 0 ?_;refine put_nested hK (by repeat' constructor) ?_;refine ng_ 0 ?_;refine kb ?_;refine nl 1 ?_;refine ng_ 1 ?_;refine l_isi_str (ta_212 hK) ?_;refine if_t (by rfl) ?_;refine nl 1 ?_;refine m_encode ?_;refine ⟨.inr rfl,?_⟩;refine l_encode he (by exact q280 hr) ?_;refine st_ 2 ?_;refine ng_ 2 ?_;refine kb ?_;refine nl 2 ?_;refine l_len_bytes (by exact q281 hr) ?_;refine st_ 3 ?_;refine nl 0 ?_;refine mB hK (by repeat' constructor) (mB_Prep hK) ?_;refine ng_ 3 ?_;refine g_cls (kF_UO hK) (aF_UO_bytewidth hK) (fun u_ u_ => .int) ?_;refine nl 3 ?_;refine ng_ 4 ?_;refine g_cls (kF_U8 hK) (aF_U8_bytewidth hK) (fun u_ u_ => .int) ?_;refine o_mul (by constructor <;> (exact (by decide))) ?_;have e9 : ((x.length : Int) + 1) * 1 = ((x.length + 1 : Nat) : Int) := by exact q282
  rw [e9];refine xl_use (prep_spec hK (pre := pre) (tail := tail) (size := 4) (add := (x.length + 1)) (by decide) (by exact q253 hz) (by exact Nat.lt_of_le_of_lt (by assumption) (by decide))) (by repeat' constructor) hn ?_;rintro v _ xC2_; apply gG;intro nG;obtain ⟨b2,p2,rfl,rfl,g2,z2⟩ := xC2_
  apply nG;clear nG;rw [mx4 hm];refine nl 0 ?_;refine mB hK (by repeat' constructor) (mB_Place hK) ?_;refine ng_ 4 ?_;refine xl_use (place_spec hK (pre := p2) (tail := (padT 4 (x.length + 1) tail)) (f := .B) (x := .int 0) (enf_int hK (fi_U8 hK) (by decide) (by decide)) (ff_U8 hK) ⟨by decide,by decide⟩ (by exact Nat.le_trans (by assumption) (by decide)) (by show 1 ≤ _; exact q283 g2)) (by repeat' constructor) hn ?_;rintro v _ xC2_; apply gG;intro nG;obtain ⟨p5,rfl,e5⟩ := xC2_
  apply nG;clear nG;rw [show Fm.enc .B (.int 0) ++ (padT 4 (x.length + 1) tail) = (0 :: (padT 4 (x.length + 1) tail)) from rfl];replace e5 : p5.length + 1 = p2.length := e5;refine nl 0 ?_;refine get_head hK (by repeat' constructor) ?_;refine nl 3 ?_;refine st_ 4 ?_;refine nl 4 ?_;refine nl 0 ?_;refine put_head hK (by repeat' constructor) ?_;refine nl 2 ?_;refine nl 0 ?_;refine get_Bytes hK (by repeat' constructor) ?_;refine nl 4 ?_;refine nl 4 ?_;refine nl 3 ?_;have e1 : clipAt (p5 ++ (0 :: (padT 4 (x.length + 1) tail))).length ((p5.length : Int) - (x.length : Nat)) = p5.length - x.length := clip_le (by exact q284 g2 e5) (by rw [List.length_append]; (exact q270));have e2 : clipAt (p5 ++ (0 :: (padT 4 (x.length + 1) tail))).length ((p5.length : Int) - (x.length : Nat) + (x.length : Nat)) = p5.length := clip_le (by exact q271) (by rw [List.length_append]; (exact Nat.le_add_right _ _));refine p_ba (c := x) (L := p5.length - x.length) (H := p5.length) .int .int (by rw [List.length_append]; exact q285 h9 z2 e5) (.inl rfl) e1 e2 (by exact Nat.sub_le _ _) (by rw [List.length_append]; (exact Nat.le_add_right _ _)) (by exact q286 g2 e5) (by repeat' constructor) ?_;rw [lay_in (by exact q287 g2 e5)];refine nl 3 ?_;refine nl 0 ?_;refine put_vectorNumElems hK (by repeat' constructor) ?_;refine nl 0 ?_;refine mB hK (by repeat' constructor) (mB_EndVector hK) ?_;have e3 : ((p5.length : Int) - (x.length : Nat)) = ((List.take (p5.length - x.length) p5).length : Nat) := by rw [List.length_take]; exact q288 g2 e5
  rw [e3];have e5 : (List.take (p5.length - x.length) p5).length = p5.length - x.length := by rw [List.length_take]; (exact q275)
  have e6 : (x ++ (0 :: (padT 4 (x.length + 1) tail))).length = x.length + (0 :: (padT 4 (x.length + 1) tail)).length := List.length_append;refine xl_use (endVector_spec hK (pre := List.take (p5.length - x.length) p5) (tail := x ++ (0 :: (padT 4 (x.length + 1) tail))) (n := x.length) (by lia) (by lia) (by exact q289 hr)) (by repeat' constructor) hn ?_;rintro v _ xC2_; apply gG;intro nG;obtain ⟨p4,rfl,rfl,e4⟩ := xC2_
  apply nG;clear nG;rw [e6];exact hQ _ _ _ _ (by repeat' constructor) ⟨b2,p4,rfl,rfl,by (clear e5; lia)⟩
end
end
section
open PySem PySem.W PyProof.Rows PySem.Calls
section
variable {W : Wd} {Φ : Fx} {ns : List Str} {gs : List (Str × Value)} {μ : Mu} {ℓ : Loc}
theorem evalArgs_first {A : Around} {E : Value → Shared → Prop} {f : Value} {t : Sem Value} {rest : List (Bool × Sem Value)} {Q : Args → Shared → Prop} {s₀ : Shared}
    (h : wN W.M A (spliced ((false,t) :: rest)) (fun vs s' => Q ⟨vs,[]⟩ s') E s₀) : wN W.M A (evalArgs f true ((false,t) :: rest) []) Q E s₀ := by
  unfold evalArgs;show wN _ _ (spliced ((false,t) :: rest) >>= _) Q E s₀;refine .bind (wN.mono h (fun vs s' h' => ?_) fun u_ u_ x => x);refine .holding ?_;exact .bind (.pure (.bind (.pure (.pure h'))))
theorem callP {P : Heap → Prop} {A : Around} {E : Value → Shared → Prop} {s : Shared} {f : Value} {first : List Value} {pos : Pos} {args : List (Bool × Sem Value)} {keywords : List (Option Str × Sem Value)} {Q : Value → Shared → Prop}
    (hk : ∀ h,P h → ∃ k,(k = Keeper.frame ∨ k = Keeper.machine ∨ k = Keeper.boundFrame) ∧ Looks W.M h (keeperOf f) k)
    (h : wN W.M A (evalArgs f true args keywords) (fun a s₁ => P s₁.heap ∧ wN W.M A (call f (first ++ a.pos) a.kw) Q E s₁) E s) : wN W.M A (callWith pos f first args keywords) Q E s := by
  unfold callWith;refine .bind (.holding (wN.mono h (fun a s₁ h₁ => .stand ?_) fun u_ u_ x => x));apply gG;intro nG
  obtain ⟨k,hk',L⟩ := hk _ h₁.1;apply nG;clear nG;generalize (args.any (·.1) || keywords.any (·.1.isNone)) = st;refine .bind (.of (L.here ?_));have tail : ∀ {t : Sem Value},wN W.M A t Q E s₁ → wN W.M A (t >>= fun r => holding [r] point >>= fun u_ => pure r) Q E s₁ :=
    fun ht => .bind (wN.mono ht (fun r s₂ hr => .bind (.holding (.of (wpAny_point (wN.pure hr))))) fun u_ u_ x => x)
  have marked (mk : Value) : wN W.M A (callMarked mk f (first ++ a.pos) a.kw) Q E s₁ := fun Γ p hΓ c => by unfold callMarked; rw [Sem.wp_keep]; exact h₁.2 Γ p hΓ c
  rcases hk' with rfl | rfl | rfl <;> cases st <;> dsimp only <;> first | exact tail h₁.2 | exact tail (marked _) | exact tail (.operate h₁.2) | (split <;> first | exact tail h₁.2 | exact tail (marked _))
theorem method_callN {A : Around} {R : Result → Shared → Prop} {s : Shared} {q : Addr} {f self : Value} {pos : List Value} {kw : List (Str × Value)} (ho : s.heap.get? q = some (methodObj f self))
    (h : cN W.M A (.call f ⟨self :: pos,kw⟩) R s) : cN W.M A (.call (.ref q) ⟨pos,kw⟩) R s := by
  apply gG;intro nG
  obtain ⟨hh,g,dr,t,os⟩ := s;apply nG;clear nG;refine cN.tree rfl ?_;show wN _ _ (callAny (.ref q) _) _ _ _;dsimp only at ho;refine .bind (.of (wpAny_load ho ?_));cases f <;> exact .pure ⟨rfl,h⟩
theorem x_mstar {o : Expr} {name : Str} {apos : Pos} {arg : Expr} {args : List Expr} {pos : Pos} {Q : V → Mu → Loc → Prop}
    (h : X W RV Φ ns gs μ ℓ (eval o Φ.env) fun ov μ ℓ => ∃ a C l f,ov = .val (.ref a) ∧ (a,Ce.inst C l) ∈ μ ∧ classOk W.K C = true ∧ (methAt W.K C name f = true ∧ boundAt W.K C name f = true) ∧
      X W RL Φ ns gs μ ℓ (spliced (backTo pos (starEach (arg :: args) Φ.env))) fun vs μ ℓ => ∃ n μ₁ ν P,Spec W n (.ref f) (.val (.ref a) :: vs) [] μ₁ P ∧ Sel μ₁ μ ν ∧ n ≤ Φ.n ∧ ∀ v μ',P v μ' → Q v (μ' ++ ν) ℓ)
    (he : eval (.Call (.Attribute o name apos) (arg :: args) [] pos) Φ.env = (do
      let ov ← eval o Φ.env
      standAt apos.atName
      let (f,first) ← holding [ov] (do pure (← getAttr ov name true,[]))
      callWith pos f first (backTo pos (starEach (arg :: args) Φ.env)) []) := by rfl)
    (hp : backTo pos (starEach (arg :: args) Φ.env) = (false,eval arg Φ.env) :: backTo pos (starEach args Φ.env) := by rfl) : X W RV Φ ns gs μ ℓ (eval (.Call (.Attribute o name apos) (arg :: args) [] pos) Φ.env) Q := by
  intro s F G O I;rw [he];refine .bind (stepQ (h s F G O I) fun s₁ F₁ x μ₁ ℓ₁ ov i₁ e₁ hx q₁ => .stand (.bind (.holding (.bind ?_))));apply gG;intro nG
  obtain ⟨a,C,l,f,rfl,hm,hk,⟨hmt,hb⟩,q₁⟩ := q₁;obtain ⟨_,rfl⟩ := hx.inv;obtain ⟨o',ho,hc⟩ := i₁.cell hm;obtain ⟨J,hs⟩ := cell_inst hc ho;obtain ⟨dx,sl,rfl,_⟩ := hc;simp only [methAt,Bool.and_eq_true,beq_iff_eq] at hmt;simp only [classOk,Bool.and_eq_true] at hk;obtain ⟨⟨h2,h3⟩,h4⟩ := hmt;obtain ⟨⟨⟨h1,_⟩,_⟩,_⟩ := hk;apply nG;clear nG;refine .of (get_bind (i₁.K G) J (plainGet_of h1).1 (boundAt_of hb).1 (plainGet_of h1).2 (wpAny_call (fn_get (s := { s₁ with toks := s₁.toks + 1 }) (i₁.tok1.K G) h3 (handed_on rfl ?_))));obtain ⟨i₂,e₂⟩ := i₁.born (o := methodObj (.ref f) (.ref a)) (k := s₁.toks + 1) rfl;have hq : (s₁.heap.push (methodObj (.ref f) (.ref a))).get? s₁.heap.objs.size = some (methodObj (.ref f) (.ref a)) := Heap.get?_push_size _ rfl;refine .pure ?_;refine callP (P := MethP W.K s₁.heap.objs.size f (.ref a)) (fun h x => keeps_M (boundAt_of hb).2 h x) ?_;rw [hp] at q₁ ⊢;refine evalArgs_first ?_;exact stepQ (q₁ _ _ G O i₂) fun s₃ F₃ xs μ₃ ℓ₃ b i₃ e₃ hxs q₃ => by
    have hq' := e₃.keep _ _ (.inr rfl) hq;refine ⟨⟨hq',i₃.K G⟩,?_⟩;apply gG;intro nG
    obtain ⟨n,μ₁',ν,P,hsp,sl,hn,k⟩ := q₃;apply nG;clear nG;have I' := i₃.perm sl.perm;refine .call (method_callN hq' (cN.mono (hsp _ s₃ F₃ (.ref a :: xs) [] G (O.room.le hn) I'.st.left (.cons .val hxs) .nil) fun r s' ⟨val,e,F',v,μ',J',g,hv,q⟩ => ?_));subst e;obtain ⟨i,e'⟩ := I'.spec O g J';exact ⟨F',v,_,_,i,(e₁.trans (e₂.trans e₃)).trans e',hv,k _ _ q⟩
theorem bind_varN {fd : FuncData} {a : V} {args : List V} {p r : Str} (hz : args.length ≤ 1000) (h : ∀ (x : Value) (xs : List Value),xs.length = args.length → bindArgs fd ⟨x :: xs,[]⟩ = newTuple xs >>= fun t => pure [(p,x),(r,t)]) : Binds W fd (a :: args) [] [p,r] [a,.tup args] μ :=
  fun A s F xs ks G I hx hk => by
    cases hk;cases hx with
    | @cons _ x _ vs ha hl =>
      rw [show ((([] : List (Str × V)).map (·.1)).zip ([] : List Value)) = [] from rfl,h x vs hl.length];refine wpAny_bind (wpAny_newTuple (wpAny_pure ?_) (by rw [hl.length,sizeLine_eq]; (exact Nat.le_trans (by assumption) (by decide))));have fr := get_fresh s.heap;have e : ∀ b o,s.heap.get? b = some o → (s.heap.push { cls := .type "tuple",data := .seq vs.toArray }).get? b = some o := fun b o q => Heap.get?_push_of_some _ q
      have ex : Ext F s.heap (Frz F s.heap.objs.size) (s.heap.push { cls := .type "tuple",data := .seq vs.toArray }) := ⟨fun u_ z => .inl z,fun a x u_ q => e a x q⟩
      have nw : (s.heap.push { cls := .type "tuple",data := .seq vs.toArray }).get? s.heap.objs.size = some { cls := .type "tuple",data := .seq vs.toArray } := Heap.get?_push_size _ rfl;refine ⟨Frz F s.heap.objs.size,[x,.ref s.heap.objs.size],rfl,⟨I.gens,I.os,fun b o q => e b o (I.base b o q),fun p hp => ?_,I.nodup,fun b fb => ?_,fun b o q => .inl (I.frozBase b o q)⟩,⟨fun b o q u_ => e b o q,fun b q => .inl q,fun b q => ?_,fun b q => .inl q⟩,.cons (ha.ext ex) (.cons (is_tup hl) .nil)⟩
      · apply gG;intro nG
        obtain ⟨o,ho,hc⟩ := I.mu p hp;apply nG;clear nG;exact ⟨o,e _ _ ho,hc.ext ex⟩
      · rcases fb with fb | rfl
        · apply gG;intro nG
          obtain ⟨⟨o,ho⟩,na⟩ := I.froz b fb;apply nG;clear nG;exact ⟨⟨o,e _ _ ho⟩,na⟩
        · exact ⟨⟨_,nw⟩,fun z => by obtain ⟨o,ho⟩ := I.mu_alive z; rw [fr] at ho; cases ho⟩
      · rcases q with q | rfl
        · exact .inl q
        · exact .inr (.inr fr)
end
section
variable {W : Wd} (hK : Kn W.K)
include hK
theorem startObject_spec {a ba : Addr} {cv oe vt : V} {fin : Bool} {ma : Int} {vne : Option V} {pre tail : List UInt8} (hz : pre.length + tail.length ≤ 4096) :
    Spec W 2 (.ref 328) [.val (.ref a),.int 3] [] (bB a ba cv fin pre tail ma false oe vne vt) (fun v μ' => ∃ c,μ' = [bI a ba (.val (.ref c)) fin (pre.length : Nat) ma true (.int (tail.length : Nat)) vne vt,(ba,.ba (pre ++ tail)),(c,.rlist [.int 0,.int 0,.int 0])]) := by
  refine spec_fn hK (f_328 hK) ["self","numfields"] [] [] (fun u_ u_ u_ u_ u_ u_ u_ u_ => bind_pos (len2 fun u_ u_ => by kernel_rfl)) (fun Φ hn Q hQ => ?_);refine nl 0 ?_;refine mB hK (by repeat' constructor) (mB_assertNotNested hK) ?_;refine xl_eq (assertNotNested_spec hK) (by repeat' constructor) hn ?_;refine x_List ?_;refine va ?_;refine ⟨by decide,fun l0 => ?_⟩;refine nl 1 ?_;refine o_mul_list (by repeat' constructor) (by decide) (by decide) (by decide) (fun c => ?_);refine nl 0 ?_;refine put_current_vtable hK (by repeat' constructor) ?_;refine nl 0 ?_;refine mB hK (by repeat' constructor) (mB_Offset hK) ?_;refine xl_eq (offset_spec hK (b := pre ++ tail) (by rw [List.length_append]; (exact Nat.le_trans (by assumption) (by decide)))) (by repeat' constructor) hn ?_;rw [off_of (n := tail.length) (rfl)];refine nl 0 ?_;refine put_objectEnd hK (by repeat' constructor) ?_;refine nl 0 ?_;refine put_nested hK (by repeat' constructor) ?_;exact hQ _ _ _ _ (by repeat' constructor) ⟨c,rfl⟩
theorem slot_spec {a ba : Addr} {oe vt : V} {fin : Bool} {ma : Int} {vne : Option V} {pre tail : List UInt8} {c : Addr} {i : Nat} {l : List V} (hl : l.length ≤ 100) (hi : i < l.length) (hz : pre.length + tail.length ≤ 4096) :
    Spec W 2 (.ref 455) [.val (.ref a),.int i] [] [bI a ba (.val (.ref c)) fin (pre.length : Nat) ma true oe vne vt,(ba,.ba (pre ++ tail)),(c,.rlist l)] (fun v μ' => μ' = [bI a ba (.val (.ref c)) fin (pre.length : Nat) ma true oe vne vt,(ba,.ba (pre ++ tail)),(c,.rlist (l.set i (.int (tail.length : Nat))))]) := by
  refine spec_fn hK (f_455 hK) ["self","slotnum"] [] [] (fun u_ u_ u_ u_ u_ u_ u_ u_ => bind_pos (len2 fun u_ u_ => by kernel_rfl)) (fun Φ hn Q hQ => ?_);refine nl 0 ?_;refine mB hK (by repeat' constructor) (mB_assertNested hK) ?_;refine xl_eq (assertNested_spec hK) (by repeat' constructor) hn ?_;refine nl 0 ?_;refine mB hK (by repeat' constructor) (mB_Offset hK) ?_;refine xl_eq (offset_spec hK (b := pre ++ tail) (by rw [List.length_append]; (exact Nat.le_trans (by assumption) (by decide)))) (by repeat' constructor) hn ?_;rw [off_of (n := tail.length) (rfl)];refine nl 0 ?_;refine get_current_vtable hK (by repeat' constructor) rfl ?_;refine nl 1 ?_;refine p_rlist (l := l) (by (first | with_reducible exact Int.natCast_nonneg _ | with_reducible exact nn31 | lia)) (by exact q290 hi) (by exact Nat.le_trans (by assumption) (by decide)) (by repeat' constructor) ?_;exact hQ _ _ _ _ (by repeat' constructor) rfl
theorem pslot_int {a ba : Addr} {oe vt : V} {fin : Bool} {vne : Option V} {pre tail : List UInt8} {c : Addr} {i : Nat} {l : List V} {C : Addr} {f : Fm} {lo hi x : Int} (hI : FlagI W.K C lo hi) (hF : FlagF W.K C f) (h0 : lo ≤ x) (h1 : x ≤ hi) (l0 : lo ≤ 0) (l1 : 0 ≤ hi) (hv : f.fits (.int x)) (hl : l.length ≤ 100) (hi2 : i < l.length) (hz : pre.length + tail.length ≤ 4096) (hr : tail.length ≤ 1980) :
    Spec W 4 (.ref 493) [.val (.ref a),.val (.ref C),.int i,.int x,.int 0] [] [bI a ba (.val (.ref c)) fin (pre.length : Nat) 4 true oe vne vt,(ba,.ba (pre ++ tail)),(c,.rlist l)] (fun u_ μ' => ((x = 0 ∧ μ' = [bI a ba (.val (.ref c)) fin (pre.length : Nat) 4 true oe vne vt,(ba,.ba (pre ++ tail)),(c,.rlist l)]) ∨ (¬ x = 0 ∧ ∃ ba' pre',μ' = [bI a ba' (.val (.ref c)) fin (pre'.length : Nat) 4 true oe vne vt,(ba',.ba (pre' ++ (f.enc (.int x) ++ (padT f.n 0 tail)))),(c,.rlist (l.set i (.int ((f.n + (padT f.n 0 tail).length : Nat) : Int))))] ∧ pre'.length + f.n + (padT f.n 0 tail).length ≤ 4096))) := by
  have hle : (f.enc (.int x)).length = f.n := Fm.enc_length (f := f) (v := .int x) hv;have hL : (f.enc (.int x) ++ (padT f.n 0 tail)).length = f.n + (padT f.n 0 tail).length := by rw [List.length_append,hle]
  have h4 : f.n ≤ 4 := by cases f <;> decide
  refine spec_fn hK (f_493 hK) ["self","flags","o","x","d"] [] [("enforce_number",.ref 167)] (fun u_ u_ u_ u_ u_ u_ u_ u_ => bind_pos (len5 fun u_ u_ u_ u_ u_ => by kernel_rfl)) (fun Φ hn Q hQ => ?_);refine nl 3 ?_;refine if_t (by rfl) ?_;refine ng_ 0 ?_;refine kf (kp_167 hK) ?_;refine nl 3 ?_;refine nl 1 ?_;refine xl_eq (enf_int hK hI h0 h1) (by repeat' constructor) hn ?_;refine nl 4 ?_;refine if_t (by rfl) ?_;refine ng_ 0 ?_;refine kf (kp_167 hK) ?_;refine nl 4 ?_;refine nl 1 ?_;refine xl_eq (enf_int hK hI l0 l1) (by repeat' constructor) hn ?_;refine nl 3 ?_;refine nl 4 ?_;refine if_s (fun hc => ?_) (fun hc => ?_)
  · refine if_t rfl ?_;refine nl 0 ?_;refine mB hK (by repeat' constructor) (mB_Prepend hK) ?_;refine nl 1 ?_;refine nl 3 ?_;refine xl_use (prepend_spec hK (pre := pre) (tail := tail) (f := f) (enf_int hK hI h0 h1) hF hv hz (by exact Nat.le_trans (by assumption) (by decide))) (by repeat' constructor) hn ?_;rintro v _ xC2_; apply gG;intro nG;obtain ⟨b2,p2,rfl,z2⟩ := xC2_
    apply nG;clear nG;rw [mx_4 (by exact q291 h4)];refine nl 0 ?_;refine mB hK (by repeat' constructor) (mB_Slot hK) ?_;refine nl 2 ?_;refine xl_use (slot_spec hK (pre := p2) (tail := f.enc (.int x) ++ (padT f.n 0 tail)) (c := c) (i := i) (l := l) hl hi2 (by rw [hL]; exact q66 z2)) (by repeat' constructor) hn ?_;rintro v _ rfl;rw [hL];exact hQ _ _ _ _ (by repeat' constructor) (.inr ⟨(fun q => by subst q; cases hc),b2,p2,rfl,z2⟩)
  · refine nl 0 ?_;refine get_forceDefaults hK (by repeat' constructor) ?_;refine if_f rfl ?_;refine if_f rfl ?_;refine if_f rfl ?_;exact hQ _ _ _ _ (by repeat' constructor) (.inl ⟨(by simpa using hc),rfl⟩)
theorem pslot_Bool {a ba : Addr} {oe vt : V} {fin : Bool} {vne : Option V} {pre tail : List UInt8} {c : Addr} {i : Nat} {l : List V} {x : Bool} (hl : l.length ≤ 100) (hi : i < l.length) (hz : pre.length + tail.length ≤ 4096) (hr : tail.length ≤ 1980) :
    Spec W 4 (.ref 493) [.val (.ref a),.val (.ref 64),.int i,.bool x,.bool false] [] [bI a ba (.val (.ref c)) fin (pre.length : Nat) 4 true oe vne vt,(ba,.ba (pre ++ tail)),(c,.rlist l)] (fun u_ μ' => ((x = false ∧ μ' = [bI a ba (.val (.ref c)) fin (pre.length : Nat) 4 true oe vne vt,(ba,.ba (pre ++ tail)),(c,.rlist l)]) ∨ (¬ x = false ∧ ∃ ba' pre',μ' = [bI a ba' (.val (.ref c)) fin (pre'.length : Nat) 4 true oe vne vt,(ba',.ba (pre' ++ (Fm.enc .q (.bool x) ++ (padT 1 0 tail)))),(c,.rlist (l.set i (.int ((1 + (padT 1 0 tail).length : Nat) : Int))))] ∧ pre'.length + 1 + (padT 1 0 tail).length ≤ 4096))) := by
  have hle : (Fm.enc .q (.bool x)).length = 1 := Fm.enc_length (f := .q) (v := .bool x) trivial;have hL : (Fm.enc .q (.bool x) ++ (padT 1 0 tail)).length = 1 + (padT 1 0 tail).length := by rw [List.length_append,hle]
  refine spec_fn hK (f_493 hK) ["self","flags","o","x","d"] [] [("enforce_number",.ref 167)] (fun u_ u_ u_ u_ u_ u_ u_ u_ => bind_pos (len5 fun u_ u_ u_ u_ u_ => by kernel_rfl)) (fun Φ hn Q hQ => ?_);refine nl 3 ?_;refine if_t (by rfl) ?_;refine ng_ 0 ?_;refine kf (kp_167 hK) ?_;refine nl 3 ?_;refine nl 1 ?_;refine xl_eq (enf_Bool hK) (by repeat' constructor) hn ?_;refine nl 4 ?_;refine if_t (by rfl) ?_;refine ng_ 0 ?_;refine kf (kp_167 hK) ?_;refine nl 4 ?_;refine nl 1 ?_;refine xl_eq (enf_Bool hK) (by repeat' constructor) hn ?_;refine nl 3 ?_;refine nl 4 ?_;refine c_ne_bool ?_;refine if_s (fun hc => ?_) (fun hc => ?_)
  · refine if_t rfl ?_;refine nl 0 ?_;refine mB hK (by repeat' constructor) (mB_Prepend hK) ?_;refine nl 1 ?_;refine nl 3 ?_;refine xl_use (prepend_spec hK (pre := pre) (tail := tail) (f := .q) (enf_Bool hK) (ff_Bool hK) trivial hz (by exact Nat.le_trans (by assumption) (by decide))) (by repeat' constructor) hn ?_;rintro v _ xC2_; apply gG;intro nG;obtain ⟨b2,p2,rfl,z2⟩ := xC2_
    apply nG;clear nG;rw [mx_4 (by decide)];replace z2 : p2.length + 1 + (padT 1 0 tail).length ≤ 4096 := z2;refine nl 0 ?_;refine mB hK (by repeat' constructor) (mB_Slot hK) ?_;refine nl 2 ?_;refine xl_use (slot_spec hK (pre := p2) (tail := Fm.enc .q (.bool x) ++ (padT 1 0 tail)) (c := c) (i := i) (l := l) hl hi (by rw [hL]; exact q292 z2)) (by repeat' constructor) hn ?_;rintro v _ rfl;rw [hL];exact hQ _ _ _ _ (by repeat' constructor) (.inr ⟨(fun q => by subst q; cases hc),b2,p2,rfl,z2⟩)
  · refine nl 0 ?_;refine get_forceDefaults hK (by repeat' constructor) ?_;refine if_f rfl ?_;refine if_f rfl ?_;refine if_f rfl ?_;exact hQ _ _ _ _ (by repeat' constructor) (.inl ⟨(by cases x <;> first | rfl | cases hc),rfl⟩)
theorem slot_Bool {a ba : Addr} {oe vt : V} {fin : Bool} {vne : Option V} {pre tail : List UInt8} {c : Addr} {i : Nat} {l : List V} {x : Bool} (hl : l.length ≤ 100) (hi : i < l.length) (hz : pre.length + tail.length ≤ 4096) (hr : tail.length ≤ 1980) :
    Spec W 5 (.ref 500) [.val (.ref a),.int i,.bool x,.bool false] [] [bI a ba (.val (.ref c)) fin (pre.length : Nat) 4 true oe vne vt,(ba,.ba (pre ++ tail)),(c,.rlist l)] (fun u_ μ' => ((x = false ∧ μ' = [bI a ba (.val (.ref c)) fin (pre.length : Nat) 4 true oe vne vt,(ba,.ba (pre ++ tail)),(c,.rlist l)]) ∨ (¬ x = false ∧ ∃ ba' pre',μ' = [bI a ba' (.val (.ref c)) fin (pre'.length : Nat) 4 true oe vne vt,(ba',.ba (pre' ++ (Fm.enc .q (.bool x) ++ (padT 1 0 tail)))),(c,.rlist (l.set i (.int ((1 + (padT 1 0 tail).length : Nat) : Int))))] ∧ pre'.length + 1 + (padT 1 0 tail).length ≤ 4096))) := by
  refine spec_fn hK (f_500 hK) ["self","args"] [] [("BoolFlags",.ref 64)] (fun u_ u_ u_ u_ u_ u_ u_ u_ => bind_varN (by simp) (fun x => len3 fun y z u => by kernel_rfl)) (fun Φ hn Q hQ => ?_);refine x_mstar ?_;refine nl 0 ?_;refine ⟨_,_,_,_,rfl,by repeat' constructor,kB hK,⟨mB_PrependSlot hK,bd_PrependSlot hK⟩,?_⟩;refine xargs_cons ?_;refine ng_ 0 ?_;refine xargs_star ?_;refine nl 1 ?_;refine ⟨_,rfl,by simp,?_⟩;refine xargs_nil ?_;refine ⟨_,_,_,_,pslot_Bool hK (pre := pre) (tail := tail) (c := c) (i := i) (l := l) hl hi hz hr,by repeat' constructor,by exact q293 hn,?_⟩;rintro v μ' hq;exact hQ _ _ μ' [] (by rw [List.append_nil]; exact Sel.all _) hq
theorem slot_I32 {a ba : Addr} {oe vt : V} {fin : Bool} {vne : Option V} {pre tail : List UInt8} {c : Addr} {i : Nat} {l : List V} {x : Int} (h0 : -(2 ^ 31) ≤ x) (h1 : x < 2 ^ 31) (hl : l.length ≤ 100) (hi2 : i < l.length) (hz : pre.length + tail.length ≤ 4096) (hr : tail.length ≤ 1980) :
    Spec W 5 (.ref 556) [.val (.ref a),.int i,.int x,.int 0] [] [bI a ba (.val (.ref c)) fin (pre.length : Nat) 4 true oe vne vt,(ba,.ba (pre ++ tail)),(c,.rlist l)] (fun u_ μ' => ((x = 0 ∧ μ' = [bI a ba (.val (.ref c)) fin (pre.length : Nat) 4 true oe vne vt,(ba,.ba (pre ++ tail)),(c,.rlist l)]) ∨ (¬ x = 0 ∧ ∃ ba' pre',μ' = [bI a ba' (.val (.ref c)) fin (pre'.length : Nat) 4 true oe vne vt,(ba',.ba (pre' ++ (Fm.enc .i (.int x) ++ (padT 4 0 tail)))),(c,.rlist (l.set i (.int ((4 + (padT 4 0 tail).length : Nat) : Int))))] ∧ pre'.length + 4 + (padT 4 0 tail).length ≤ 4096))) := by
  refine spec_fn hK (f_556 hK) ["self","args"] [] [("Int32Flags",.ref 120)] (fun u_ u_ u_ u_ u_ u_ u_ u_ => bind_varN (by simp) (fun x => len3 fun y z u => by kernel_rfl)) (fun Φ hn Q hQ => ?_);refine x_mstar ?_;refine nl 0 ?_;refine ⟨_,_,_,_,rfl,by repeat' constructor,kB hK,⟨mB_PrependSlot hK,bd_PrependSlot hK⟩,?_⟩;refine xargs_cons ?_;refine ng_ 0 ?_;refine xargs_star ?_;refine nl 1 ?_;refine ⟨_,rfl,by simp,?_⟩;refine xargs_nil ?_;refine ⟨_,_,_,_,pslot_int hK (pre := pre) (tail := tail) (c := c) (i := i) (l := l) (f := .i) (fi_I32 hK) (ff_I32 hK) h0 (by exact q246 h1) (by decide) (by decide) ⟨h0,h1⟩ hl hi2 hz hr,by repeat' constructor,by exact q293 hn,?_⟩;rintro v μ' hq;exact hQ _ _ μ' [] (by rw [List.append_nil]; exact Sel.all _) hq
theorem slot_U8 {a ba : Addr} {oe vt : V} {fin : Bool} {vne : Option V} {pre tail : List UInt8} {c : Addr} {i : Nat} {l : List V} {x : Int} (h0 : 0 ≤ x) (h1 : x < 2 ^ 8) (hl : l.length ≤ 100) (hi2 : i < l.length) (hz : pre.length + tail.length ≤ 4096) (hr : tail.length ≤ 1980) :
    Spec W 5 (.ref 514) [.val (.ref a),.int i,.int x,.int 0] [] [bI a ba (.val (.ref c)) fin (pre.length : Nat) 4 true oe vne vt,(ba,.ba (pre ++ tail)),(c,.rlist l)] (fun u_ μ' => ((x = 0 ∧ μ' = [bI a ba (.val (.ref c)) fin (pre.length : Nat) 4 true oe vne vt,(ba,.ba (pre ++ tail)),(c,.rlist l)]) ∨ (¬ x = 0 ∧ ∃ ba' pre',μ' = [bI a ba' (.val (.ref c)) fin (pre'.length : Nat) 4 true oe vne vt,(ba',.ba (pre' ++ (Fm.enc .B (.int x) ++ (padT 1 0 tail)))),(c,.rlist (l.set i (.int ((1 + (padT 1 0 tail).length : Nat) : Int))))] ∧ pre'.length + 1 + (padT 1 0 tail).length ≤ 4096))) := by
  refine spec_fn hK (f_514 hK) ["self","args"] [] [("Uint8Flags",.ref 78)] (fun u_ u_ u_ u_ u_ u_ u_ u_ => bind_varN (by simp) (fun x => len3 fun y z u => by kernel_rfl)) (fun Φ hn Q hQ => ?_);refine x_mstar ?_;refine nl 0 ?_;refine ⟨_,_,_,_,rfl,by repeat' constructor,kB hK,⟨mB_PrependSlot hK,bd_PrependSlot hK⟩,?_⟩;refine xargs_cons ?_;refine ng_ 0 ?_;refine xargs_star ?_;refine nl 1 ?_;refine ⟨_,rfl,by simp,?_⟩;refine xargs_nil ?_;refine ⟨_,_,_,_,pslot_int hK (pre := pre) (tail := tail) (c := c) (i := i) (l := l) (f := .B) (fi_U8 hK) (ff_U8 hK) h0 (by exact q294 h1) (by decide) (by decide) ⟨h0,h1⟩ hl hi2 hz hr,by repeat' constructor,by exact q293 hn,?_⟩;rintro v μ' hq;exact hQ _ _ μ' [] (by rw [List.append_nil]; exact Sel.all _) hq
theorem slot_UO {a ba : Addr} {oe vt : V} {fin : Bool} {vne : Option V} {pre tail : List UInt8} {c : Addr} {i x : Nat} {l : List V} (hx : 0 < x) (hx1 : x ≤ tail.length) (hl : l.length ≤ 100) (hi : i < l.length) (hz : pre.length + tail.length ≤ 4096) (hr : tail.length ≤ 1980) :
    Spec W 4 (.ref 570) [.val (.ref a),.int i,.int x,.int 0] [] [bI a ba (.val (.ref c)) fin (pre.length : Nat) 4 true oe vne vt,(ba,.ba (pre ++ tail)),(c,.rlist l)] (fun u_ μ' => ∃ ba' pre',μ' = [bI a ba' (.val (.ref c)) fin (pre'.length : Nat) 4 true oe vne vt,(ba',.ba (pre' ++ (Fm.enc .I (.int (((padT 4 0 tail).length - x + 4 : Nat) : Int)) ++ (padT 4 0 tail)))),(c,.rlist (l.set i (.int ((4 + (padT 4 0 tail).length : Nat) : Int))))] ∧ pre'.length + 4 + (padT 4 0 tail).length ≤ 4096) := by
  have hp := padT_le (k := 0) (tail := tail) (size := 4) (by decide);have hg := padT_ge (k := 0) (tail := tail) (size := 4);have hle : (Fm.enc .I (.int (((padT 4 0 tail).length - x + 4 : Nat) : Int))).length = 4 := Fm.enc_length (f := .I) (v := .int _) ⟨by (first | with_reducible exact Int.natCast_nonneg _ | with_reducible exact nn31 | lia),by exact q295 hr hp⟩;have hL : (Fm.enc .I (.int (((padT 4 0 tail).length - x + 4 : Nat) : Int)) ++ (padT 4 0 tail)).length = 4 + (padT 4 0 tail).length := by rw [List.length_append,hle]
  refine spec_fn hK (f_570 hK) ["self","o","x","d"] [] [] (fun u_ u_ u_ u_ u_ u_ u_ u_ => bind_pos (len4 fun u_ u_ u_ u_ => by kernel_rfl)) (fun Φ hn Q hQ => ?_);refine nl 2 ?_;refine nl 3 ?_;refine if_t (by simp; exact q296 hx) ?_;refine if_t (by rfl) ?_;refine nl 0 ?_;refine mB hK (by repeat' constructor) (mB_PrependUOffsetTRelative hK) ?_;refine nl 2 ?_;refine xl_use (prepUO hK (pre := pre) (tail := tail) (off := x) hz (by exact q297 hr) (by exact Nat.le_trans (by assumption) (by assumption))) (by repeat' constructor) hn ?_;rintro v _ xC2_; apply gG;intro nG;obtain ⟨b2,p2,rfl,z2⟩ := xC2_
  apply nG;clear nG;rw [mx_4 (by decide)];refine nl 0 ?_;refine mB hK (by repeat' constructor) (mB_Slot hK) ?_;refine nl 1 ?_;refine xl_use (slot_spec hK (pre := p2) (tail := Fm.enc .I (.int (((padT 4 0 tail).length - x + 4 : Nat) : Int)) ++ (padT 4 0 tail)) (c := c) (i := i) (l := l) hl hi (by rw [hL]; exact q298 z2)) (by repeat' constructor) hn ?_;rintro v _ rfl;rw [hL];exact hQ _ _ _ _ (by repeat' constructor) ⟨b2,p2,rfl,z2⟩
end
end
section
open PySem PySem.W PyProof.Rows PySem.Calls
set_option backward.match.sparseCases false
noncomputable def offV (O u : Nat) : Int := if u = 0 then 0 else (O : Int) - u
noncomputable def trimZ : List Nat → List Nat
  | [] => []
  | u :: r => if trimZ r = [] ∧ u = 0 then [] else u :: trimZ r
theorem trimZ_nil : trimZ [] = [] := rfl
theorem trimZ_cons {u : Nat} {r : List Nat} : trimZ (u :: r) = if trimZ r = [] ∧ u = 0 then [] else u :: trimZ r := rfl
noncomputable def vtEnc (O : Nat) (us : List Nat) : List UInt8 := us.flatMap fun u => Fm.enc .H (.int (offV O u))
theorem offV_fits {O u : Nat} (h : u ≤ O) (hO : O < 3000) : 0 ≤ offV O u ∧ offV O u < 2 ^ 16 := by unfold offV; split <;> lia
theorem patch {p v h t e : List UInt8} (hh : h.length = 4) : (p ++ (v ++ (h ++ t))).take (p.length + v.length) ++ e ++ (p ++ (v ++ (h ++ t))).drop (p.length + v.length + 4) = p ++ (v ++ (e ++ t)) := by
  have e1 : p ++ (v ++ (h ++ t)) = (p ++ v) ++ (h ++ t) := by rw [List.append_assoc]
  have e2 : p.length + v.length = (p ++ v).length := by rw [List.length_append]
  rw [e1,e2,List.take_left',← List.drop_drop,List.drop_left',← hh,List.drop_left',List.append_assoc,List.append_assoc] <;> rfl
theorem vtEnc_cons {O u : Nat} {r : List Nat} : vtEnc O (u :: r) = Fm.enc .H (.int (offV O u)) ++ vtEnc O r := rfl
theorem vtEnc_length {O : Nat} (hO : O < 3000) : ∀ {us : List Nat},(∀ u ∈ us,u ≤ O) → (vtEnc O us).length = 2 * us.length
  | [],_ => rfl
  | u :: r,h => by
    have h1 : (Fm.enc .H (.int (offV O u))).length = 2 := Fm.enc_length (f := .H) (v := .int _) (offV_fits (h u (.head _)) hO);have h2 : (vtEnc O r).length = 2 * r.length := vtEnc_length hO fun x hx => h x (.tail _ hx)
    unfold vtEnc at *;rw [List.flatMap_cons,List.length_append,h1,h2,List.length_cons]; exact q301
theorem trimZ_sub : ∀ {us : List Nat} {u : Nat},u ∈ trimZ us → u ∈ us
  | w :: r,u,h => by
    rw [trimZ_cons] at h
    by_cases hz : trimZ r = [] ∧ w = 0
    · rw [if_pos hz] at h; cases h
    · rw [if_neg hz] at h;rcases List.mem_cons.mp h with rfl | h
      · exact .head _
      · exact .tail _ (trimZ_sub h)
theorem trimZ_length : ∀ (us : List Nat),(trimZ us).length ≤ us.length
  | [] => Nat.le_refl _
  | w :: r => by
    rw [trimZ_cons]
    by_cases hz : trimZ r = [] ∧ w = 0
    · rw [if_pos hz]; exact Nat.zero_le _
    · rw [if_neg hz]; exact Nat.succ_le_succ (trimZ_length r)
noncomputable def vtab (O oe : Nat) (us : List Nat) : List UInt8 := Fm.enc .H (.int ((2 * ((trimZ us).length + 2) : Nat) : Int)) ++ (Fm.enc .H (.int ((O - oe : Nat) : Int)) ++ vtEnc O (trimZ us))
noncomputable def ifB : List Stmt → List Stmt
  | .If _ b _ _ :: _ => b
  | _ => []
noncomputable abbrev usV (us : List Nat) : List V := us.map fun u : Nat => V.int u
noncomputable abbrev wvS (a b c D : Addr) (fin ne : Bool) (oe : Nat) (vne : Option V) (us : List Nat) (p t : List UInt8) : Mu :=
  [bI a b (.val (.ref c)) fin (p.length : Nat) 4 ne (.int (oe : Nat)) vne (.val (.ref D)),(b,.ba (p ++ t)),(c,.rlist (usV us)),(D,.dict [])]
theorem encH {z : Int} (h0 : 0 ≤ z) (h1 : z < 2 ^ 16) : (Fm.enc .H (.int z)).length = 2 := Fm.enc_length (f := .H) (v := .int z) ⟨h0,h1⟩
theorem enci {z : Int} (h0 : -(2 ^ 31) ≤ z) (h1 : z < 2 ^ 31) : (Fm.enc .i (.int z)).length = 4 := Fm.enc_length (f := .i) (v := .int z) ⟨h0,h1⟩
theorem encI {z : Int} (h0 : 0 ≤ z) (h1 : z < 2 ^ 32) : (Fm.enc .I (.int z)).length = 4 := Fm.enc_length (f := .I) (v := .int z) ⟨h0,h1⟩
theorem padT_no {s : Nat} {t : List UInt8} (h : padOf s t.length = 0) : padT s 0 t = t := by
  show List.replicate (padOf s (t.length + 0)) 0 ++ t = t;rw [Nat.add_zero,h]; rfl
theorem vtab_length {O oe : Nat} {us : List Nat} (hO : O < 3000) (hul : us.length ≤ 3) (hu : ∀ u ∈ us,u ≤ O) : (vtab O oe us).length = 4 + 2 * (trimZ us).length := by
  have := trimZ_length us;unfold vtab;rw [List.length_append,List.length_append,encH (by (first | with_reducible exact Int.natCast_nonneg _ | with_reducible exact nn31 | lia)) (by exact q302 hul this),encH (by (first | with_reducible exact Int.natCast_nonneg _ | with_reducible exact nn31 | lia)) (by exact q303 hO),vtEnc_length hO (fun u h => hu u (trimZ_sub h))]; exact q304
noncomputable abbrev wvN : List Str := ["self","objectOffset","vtKey","trim","elem","objectSize","vt2Offset","i","trailing","off","vBytes","objectStart"]
noncomputable abbrev wvG : List (Str × Value) := [("reversed",.type "reversed"),("UOffsetTFlags",.ref 146),("tuple",.type "tuple"),("len",.builtin "len"),("VtableMetadataFields",.int 2 749),("VOffsetTFlags",.ref 158),("SOffsetTFlags",.ref 134),("Write",.ref 181),("soffset",.ref 54)]
inductive WvJ (a c D : Addr) (fin ne : Bool) (oe : Nat) (vne : Option V) (us : List Nat) (h0 t0 : List UInt8) (O : Nat) (ks : List Int) (m : Nat) (μ : Mu) (ℓ : Loc) : Prop
  | mk (b : Addr) (p : List UInt8) (o1 o2 : Option V) (zz0 : m ≤ us.length) (zz1 : μ = wvS a b c D fin ne oe vne us p (vtEnc O (trimZ (us.drop m)) ++ (h0 ++ t0))) (zz2 : ℓ = [some (.val (.ref a)),some (.int (O : Nat)),some (.tup (ks.map V.int)),some (.bool (decide (trimZ (us.drop m) = []))),o1,some (.int ((O - oe : Nat) : Int)),some .none,some (.int ((m : Int) - 1)),some (.int ((us.length - m - (trimZ (us.drop m)).length : Nat) : Int)),o2,none,none]) (zz3 : p.length + (vtEnc O (trimZ (us.drop m)) ++ (h0 ++ t0)).length ≤ 4096) : WvJ a c D fin ne oe vne us h0 t0 O ks m μ ℓ
inductive WvK (a b2 c D kk : Addr) (fin ne : Bool) (oe : Nat) (vne : Option V) (us : List Nat) (h0 t0 p2 : List UInt8) (O : Nat) (i : Nat) (μ : Mu) (ℓ : Loc) : Prop
  | mk (ks : List Int) (tr : Bool) (oel : Option V) (zz0 : μ = [(kk,Ce.list ((ks : List Int).map V.int)),bI a b2 (.val (.ref c)) fin (p2.length : Nat) 4 ne (.int (oe : Nat)) vne (.val (.ref D)),(b2,Ce.ba (p2 ++ (h0 ++ t0))),(c,Ce.rlist (usV us)),(D,Ce.dict [])]) (zz1 : ℓ = [some (V.val (.ref a)),some (V.int (O : Nat)),some (V.val (.ref kk)),some (V.bool tr),oel,none,none,none,none,none,none,none]) (zz2 : ks.length ≤ i) : WvK a b2 c D kk fin ne oe vne us h0 t0 p2 O i μ ℓ
section
variable {W : Wd} (hK : Kn W.K)
include hK
theorem wv_end {Φ : Fx} {k : Nat} {a b c D : Addr} {fin ne : Bool} {vne : Option V} {p t0 h0 : List UInt8} {us : List Nat} {oe O : Nat} {Q : Fl → Mu → Loc → Prop} {ks : List Int} {o1 o2 o3 o4 : Option V} {z : Int}
    (hn : Φ.n = 4) (hul : us.length ≤ 3) (hu : ∀ u ∈ us,u ≤ O) (hle : h0.length = 4) (hO : O = 4 + t0.length) (hO1 : O ≤ 1980) (hO2 : O % 2 = 0) (hz : p.length + (vtEnc O (trimZ us) ++ (h0 ++ t0)).length ≤ 4096) (hzz : z = ((us.length - (trimZ us).length : Nat) : Int))
    (hQ : ∀ b p ℓ D',p.length + (vtab O oe us).length + O ≤ 4096 → ℓ[0]? = some (some (.val (.ref a))) → ℓ[1]? = some (some (.int (O : Nat))) → Q .next [bI a b (.val (.ref c)) fin (p.length : Nat) 4 ne (.int (oe : Nat)) vne (.val (.ref D)),(b,.ba (p ++ (vtab O oe us ++ (Fm.enc .i (.int ((vtab O oe us).length : Nat)) ++ t0)))),(c,.rlist (usV us)),(D,D')] ℓ) :
    vg W Φ wvN wvG (k + 60) (.s ((ifB ((fB (mAt 40 7)).drop 9)).drop 4) Q) (wvS a b c D fin ne oe vne us p (vtEnc O (trimZ us) ++ (h0 ++ t0))) [some (.val (.ref a)),some (.int (O : Nat)),some (.tup (ks.map V.int)),o1,o2,some (.int ((O - oe : Nat) : Int)),some .none,o3,some (.int z),o4,none,none] := by
  have htl := trimZ_length us;have hve := vtEnc_length (us := trimZ us) (O := O) (by exact Nat.lt_of_le_of_lt (by assumption) (by decide)) (fun u h => hu u (trimZ_sub h));have hvl := vtab_length (O := O) (oe := oe) (by exact q305 hO1) hul hu;have hT : (vtEnc O (trimZ us) ++ (h0 ++ t0)).length = 2 * (trimZ us).length + O := by rw [List.length_append,List.length_append,hve,hle]; exact q306 hO
  have hp3 : padOf 2 (vtEnc O (trimZ us) ++ (h0 ++ t0)).length = 0 := by rw [hT]; unfold padOf; (exact q307 hO2)
  have hT5 : (Fm.enc .H (.int ((O - oe : Nat) : Int)) ++ (vtEnc O (trimZ us) ++ (h0 ++ t0))).length = 2 + (2 * (trimZ us).length + O) := by rw [List.length_append,hT,encH (by (first | with_reducible exact Int.natCast_nonneg _ | with_reducible exact nn31 | lia)) (by (exact q308 hO1))]
  have hp5 : padOf 2 (Fm.enc .H (.int ((O - oe : Nat) : Int)) ++ (vtEnc O (trimZ us) ++ (h0 ++ t0))).length = 0 := by rw [hT5]; unfold padOf; (exact q309 hO2)
  have hvt : Fm.enc .H (.int ((2 * ((trimZ us).length + 2) : Nat) : Int)) ++ (Fm.enc .H (.int ((O - oe : Nat) : Int)) ++ (vtEnc O (trimZ us) ++ (h0 ++ t0))) = vtab O oe us ++ (h0 ++ t0) := by rw [vtab,List.append_assoc,List.append_assoc]
  have hV : ((us.length : Nat) : Int) - z + 2 = (((trimZ us).length + 2 : Nat) : Int) := by exact q310 hzz htl
  have hle2 : (Fm.enc .i (.int ((vtab O oe us).length : Nat))).length = 4 := enci (by (first | with_reducible exact Int.natCast_nonneg _ | with_reducible exact nn31 | (clear hvl hV; lia))) (by (exact q311 hul hzz hvl hV));have hL1 : (vtab O oe us ++ (h0 ++ t0)).length = (vtab O oe us).length + O := by rw [List.length_append,List.length_append,hle]; exact q312 hO
  have hL2 : (vtab O oe us ++ (Fm.enc .i (.int ((vtab O oe us).length : Nat)) ++ t0)).length = (vtab O oe us).length + O := by rw [List.length_append,List.length_append,hle2]; exact q312 hO
  refine nl 0 ?_;refine mB hK (by repeat' constructor) (mB_PrependVOffsetT hK) ?_;refine ng_ 5 ?_;refine m_typ (kF_VO hK) (aF_VO_py_type hK) int_typ ?_;refine ⟨.inr rfl,?_⟩;refine nl 5 ?_;refine l_int ?_;refine xl_use (one_VO hK (x := ((O - oe : Nat) : Int)) (pre := p) (tail := vtEnc O (trimZ us) ++ (h0 ++ t0)) (by (first | with_reducible exact Int.natCast_nonneg _ | with_reducible exact nn31 | omega)) (by exact q308 hO1) hz (by (exact q313 hul hO1 hzz hT hV))) (by repeat' constructor) hn ?_;rintro v _ xC2_; apply gG;intro nG;obtain ⟨b5,p5,rfl,z5⟩ := xC2_
  apply nG;clear nG;rw [padT_no hp3] at z5 ⊢;rw [mx_4 (by decide)];refine ng_ 3 ?_;refine kb ?_;refine nl 0 ?_;refine get_current_vtable hK (by repeat' constructor) rfl ?_;refine l_len_rlist (l := usV us) (by repeat' constructor) (by rw [List.length_map]; (exact Nat.le_trans (by assumption) (by decide))) ?_;rw [List.length_map];refine nl 8 ?_;refine ngi 4 ?_;refine st_ 10 ?_;refine gt_ 10 ?_;refine ng_ 5 ?_;refine g_cls (kF_VO hK) (aF_VO_bytewidth hK) (fun u_ u_ => .int) ?_;refine i_mul (by exact (by decide)) ?_;refine st_ 10 ?_;refine nl 0 ?_;refine mB hK (by repeat' constructor) (mB_PrependVOffsetT hK) ?_;refine ng_ 5 ?_;refine m_typ (kF_VO hK) (aF_VO_py_type hK) int_typ ?_;refine ⟨.inr rfl,?_⟩;refine nl 10 ?_;refine l_int ?_;rw [hV,show ((((trimZ us).length + 2 : Nat) : Int)) * 2 = ((2 * ((trimZ us).length + 2) : Nat) : Int) by push_cast; exact q314];refine xl_use (one_VO hK (x := ((2 * ((trimZ us).length + 2) : Nat) : Int)) (pre := p5) (tail := (Fm.enc .H (.int ((O - oe : Nat) : Int)) ++ (vtEnc O (trimZ us) ++ (h0 ++ t0)))) (by (first | with_reducible exact Int.natCast_nonneg _ | with_reducible exact nn31 | (clear hV; lia))) (by (exact q315 hul hzz hV)) (by (exact q316 hT hT5 z5)) (by (exact q317 hul hO1 hzz hT5 hV))) (by repeat' constructor) hn ?_;rintro v _ xC2_; apply gG;intro nG;obtain ⟨b6,p6,rfl,z6⟩ := xC2_
  apply nG;clear nG;rw [padT_no hp5] at z6 ⊢;rw [mx_4 (by decide),hvt];refine ng_ 6 ?_;refine m_typ (kF_SO hK) (aF_SO_py_type hK) int_typ ?_;refine ⟨.inr rfl,?_⟩;refine ng_ 3 ?_;refine kb ?_;refine nl 0 ?_;refine get_Bytes hK (by repeat' constructor) ?_;refine l_len_ba (by repeat' constructor) (by (first | assumption | omega | (simp only [List.length_append,List.length_replicate]; (exact q318 hle hO hvl hT5 z6)) | (simp; (first | lia | omega)))) ?_;refine nl 1 ?_;refine l_int ?_;refine st_ 11 ?_;refine ng_ 7 ?_;refine kf (kp_181 hK) ?_;refine ng_ 8 ?_;refine nl 0 ?_;refine get_Bytes hK (by repeat' constructor) ?_;refine nl 11 ?_;refine ng_ 6 ?_;refine m_typ (kF_SO hK) (aF_SO_py_type hK) int_typ ?_;refine ⟨.inr rfl,?_⟩;refine nl 0 ?_;refine mB hK (by repeat' constructor) (mB_Offset hK) ?_;refine xl_eq (offset_spec hK (b := p6 ++ (vtab O oe us ++ (h0 ++ t0))) (by rw [List.length_append,hL1]; (exact q319 hvl hT5 z6))) (by repeat' constructor) hn ?_;rw [off_of (n := (vtab O oe us).length + O) hL1];refine nl 1 ?_;refine l_int ?_;rw [show (((p6 ++ (vtab O oe us ++ (h0 ++ t0))).length : Nat) : Int) - (O : Nat) = ((p6.length + (vtab O oe us).length : Nat) : Int) by rw [List.length_append,hL1]; exact q320,show (((vtab O oe us).length + O : Nat) : Int) - (O : Nat) = ((vtab O oe us).length : Nat) by exact q321];refine xl_use (write_spec hK (f := .i) (b := p6 ++ (vtab O oe us ++ (h0 ++ t0))) (off := p6.length + (vtab O oe us).length) (v := .int ((vtab O oe us).length : Nat)) (st_i hK) ⟨by (first | with_reducible exact Int.natCast_nonneg _ | with_reducible exact nn31 | (clear hvl hV; lia)),by (exact q311 hul hzz hvl hV)⟩ (by rw [List.length_append,hL1]; show _ + 4 ≤ _; (exact q322 hO)) (by rw [List.length_append,hL1]; (exact q323 hvl hT5 z6))) (by repeat' constructor) hn ?_;rintro v _ rfl;rw [show Fm.i.n = 4 from rfl,patch hle];refine nl 0 ?_;refine mB hK (by repeat' constructor) (mB_Offset hK) ?_;refine xl_eq (offset_spec hK (b := p6 ++ (vtab O oe us ++ (Fm.enc .i (.int ((vtab O oe us).length : Nat)) ++ t0))) (by rw [List.length_append,hL2]; exact q319 hvl hT5 z6)) (by repeat' constructor) hn ?_
  refine nl 0 ?_;refine get_vtables hK (by repeat' constructor) rfl ?_;refine nl 2 ?_;refine p_dict (l := []) (by decide) (by repeat' constructor) ?_;exact hQ b6 p6 _ _ (by (exact q324 hvl hT5 z6)) rfl rfl
theorem wv_mid {Φ : Fx} {k : Nat} {a b c D kk : Addr} {fin ne : Bool} {vne : Option V} {p t0 h0 : List UInt8} {us : List Nat} {oe O : Nat} {Q : Fl → Mu → Loc → Prop} {ks : List Int} {l : List V} {tr : V} {oel : Option V}
    (hn : Φ.n = 4) (hul : us.length ≤ 3) (hu : ∀ u ∈ us,u ≤ O) (hle : h0.length = 4) (hO : O = 4 + t0.length) (hO1 : O ≤ 1970) (hO2 : O % 2 = 0) (hz : p.length + (h0 ++ t0).length ≤ 4096)
    (hQ : ∀ b p ℓ D',p.length + (vtab O oe us).length + O ≤ 4096 → ℓ[0]? = some (some (.val (.ref a))) → ℓ[1]? = some (some (.int (O : Nat))) → Q .next [bI a b (.val (.ref c)) fin (p.length : Nat) 4 ne (.int (oe : Nat)) vne (.val (.ref D)),(b,.ba (p ++ (vtab O oe us ++ (Fm.enc .i (.int ((vtab O oe us).length : Nat)) ++ t0)))),(c,.rlist (usV us)),(D,D')] ℓ) :
    vg W Φ wvN wvG (k + 70) (.s (ifB ((fB (mAt 40 7)).drop 9)) Q) ((kk,.list l) :: wvS a b c D fin ne oe vne us p (h0 ++ t0)) [some (.val (.ref a)),some (.int (O : Nat)),some (.tup (ks.map V.int)),some tr,oel,some (.int ((O - oe : Nat) : Int)),some .none,none,none,none,none,none] := by
  have hL : (h0 ++ t0).length = O := by rw [List.length_append,hle]; exact q325 hO
  refine ng_ 3 ?_;refine kb ?_;refine nl 0 ?_;refine get_current_vtable hK (by repeat' constructor) rfl ?_;refine l_len_rlist (l := usV us) (by repeat' constructor) (by rw [List.length_map]; (exact Nat.le_trans (by assumption) (by decide))) ?_;rw [List.length_map];refine st_ 7 ?_;refine st_ 8 ?_;refine st_ 3 ?_;refine x_less (List.sublist_cons_self _ _) ?_;refine vw (WvJ a c D fin ne oe vne us h0 t0 O ks) us.length ⟨b,p,oel,none,Nat.le_refl _,by rw [List.drop_length]; rfl,by rw [List.drop_length,trimZ_nil]; simp,by rw [List.drop_length]; exact hz⟩ ?_;rintro m _ _ xC3_; apply gG;intro nG;obtain ⟨b3,p3,o1,o2,hm,rfl,rfl,z3⟩ := xC3_
  apply nG;clear nG;have hlen : (trimZ (us.drop m)).length ≤ us.length - m := by have := trimZ_length (us.drop m); rwa [List.length_drop] at this
  have hTl : (vtEnc O (trimZ (us.drop m)) ++ (h0 ++ t0)).length = 2 * (trimZ (us.drop m)).length + O := by rw [List.length_append,hL,vtEnc_length (by exact Nat.lt_of_le_of_lt (by assumption) (by decide)) (fun u h => hu u (List.mem_of_mem_drop (trimZ_sub h)))]
  have hpd : padOf 2 (vtEnc O (trimZ (us.drop m)) ++ (h0 ++ t0)).length = 0 := by rw [hTl]; unfold padOf; (exact q307 hO2)
  refine nl 7 ?_;refine if_s (fun hc => ?_) (fun hc => ?_)
  ·
    refine st_ 9 ?_;refine nl 0 ?_;refine get_current_vtable hK (by repeat' constructor) rfl ?_;refine nl 7 ?_;have hc' := of_decide_eq_true hc;have hm1 : m - 1 < us.length := by (exact q326 hm hc)
    have hdr : us.drop (m - 1) = us[m - 1] :: us.drop m := by rw [List.drop_eq_getElem_cons hm1,show m - 1 + 1 = m by (exact q327 hc)]
    have huO : us[m - 1] ≤ O := hu _ (List.getElem_mem hm1);have hu1 : (usV us)[((m : Int) - 1).toNat]? = some (.int (us[m - 1] : Nat)) := by rw [List.getElem?_map,show ((m : Int) - 1).toNat = m - 1 by (exact q328),List.getElem?_eq_getElem hm1]; rfl
    generalize hu0 : us[m - 1] = u at hdr huO hu1;refine ⟨.rlist (b := usV us) (by repeat' constructor),?_⟩;refine s_rlist (l := usV us) (v := .int u) (by repeat' constructor) (by exact q329 hc) (by exact q330 hul hm) hu1 ?_;refine st_ 4 ?_;refine gt_ 7 ?_;refine st_ 7 ?_;refine nl 4 ?_;refine if_s (fun hc1 => ?_) (fun hc1 => ?_)
    ·
      refine nl 3 ?_;refine if_s (fun hd => ?_) (fun hd => ?_)
      ·
        refine gt_ 8 ?_;refine st_ 8 ?_;have h0' : u = 0 := by simpa using hc1
        have e0 : trimZ (us.drop m) = [] := of_decide_eq_true hd;have e1 : trimZ (us.drop (m - 1)) = [] := by rw [hdr,trimZ_cons,if_pos ⟨e0,h0'⟩]
        exact ⟨m - 1,by (exact q331 hc),b3,p3,_,_,by (exact Nat.le_of_lt (by assumption)),by rw [e1,e0],by rw [e1,e0,show ((m - 1 : Nat) : Int) = (m : Int) - 1 by (exact q332 hc),show ((us.length - (m - 1) - ([] : List Nat).length : Nat) : Int) = ((us.length - m - ([] : List Nat).length : Nat) : Int) + 1 by simp only [List.length_nil]; (exact q333 hm hc)]; rfl,by rw [e1]; rw [e0] at z3; exact z3⟩
      ·
        refine nl 0 ?_;refine mB hK (by repeat' constructor) (mB_PrependVOffsetT hK) ?_;refine nl 9 ?_;refine xl_use (one_VO hK (x := 0) (pre := p3) (tail := (vtEnc O (trimZ (us.drop m)) ++ (h0 ++ t0))) (by decide) (by decide) z3 (by (exact q334 hul hO1 hlen hTl))) (by repeat' constructor) hn ?_;rintro v _ xC2_; apply gG;intro nG;obtain ⟨b4,p4,rfl,z4⟩ := xC2_
        apply nG;clear nG;rw [padT_no hpd] at z4 ⊢;rw [mx_4 (by decide)];have h0' : u = 0 := by simpa using hc1
        have e0 : trimZ (us.drop m) ≠ [] := of_decide_eq_false hd;have e1 : trimZ (us.drop (m - 1)) = u :: trimZ (us.drop m) := by rw [hdr,trimZ_cons,if_neg (fun z => e0 z.1)]
        have e2 : vtEnc O (trimZ (us.drop (m - 1))) ++ (h0 ++ t0) = Fm.enc .H (.int 0) ++ (vtEnc O (trimZ (us.drop m)) ++ (h0 ++ t0)) := by rw [e1,vtEnc_cons,offV,if_pos h0',List.append_assoc]
        exact ⟨m - 1,by (exact q331 hc),b4,p4,_,_,by (exact Nat.le_of_lt (by assumption)),by rw [e2]; rfl,by rw [e1,hd,show ((m - 1 : Nat) : Int) = (m : Int) - 1 by (exact q332 hc),List.length_cons,show us.length - (m - 1) - ((trimZ (us.drop m)).length + 1) = us.length - m - (trimZ (us.drop m)).length by exact q335 hc]; rfl,by rw [e2,List.length_append,encH (by exact (by decide)) (by exact (by decide))]; (exact q336 z4)⟩
    ·
      refine nl 1 ?_;refine nl 4 ?_;refine st_ 9 ?_;refine st_ 3 ?_;refine nl 0 ?_;refine mB hK (by repeat' constructor) (mB_PrependVOffsetT hK) ?_;refine nl 9 ?_;have h0' : u ≠ 0 := by simpa using hc1
      have e1 : trimZ (us.drop (m - 1)) = u :: trimZ (us.drop m) := by rw [hdr,trimZ_cons,if_neg (fun z => h0' z.2)]
      refine xl_use (one_VO hK (x := (O : Int) - u) (pre := p3) (tail := (vtEnc O (trimZ (us.drop m)) ++ (h0 ++ t0))) (by (exact q337 huO)) (by (exact q338 hO1)) z3 (by (exact q334 hul hO1 hlen hTl))) (by repeat' constructor) hn ?_;rintro v _ xC2_; apply gG;intro nG;obtain ⟨b4,p4,rfl,z4⟩ := xC2_
      apply nG;clear nG;rw [padT_no hpd] at z4 ⊢;rw [mx_4 (by decide)];have e2 : vtEnc O (trimZ (us.drop (m - 1))) ++ (h0 ++ t0) = Fm.enc .H (.int ((O : Int) - u)) ++ (vtEnc O (trimZ (us.drop m)) ++ (h0 ++ t0)) := by rw [e1,vtEnc_cons,offV,if_neg h0',List.append_assoc]
      exact ⟨m - 1,by (exact q331 hc),b4,p4,_,_,by (exact Nat.le_of_lt (by assumption)),by rw [e2]; rfl,by rw [e1,show ((m - 1 : Nat) : Int) = (m : Int) - 1 by (exact q332 hc),List.length_cons,show us.length - (m - 1) - ((trimZ (us.drop m)).length + 1) = us.length - m - (trimZ (us.drop m)).length by (exact q335 hc)]; rfl,by rw [e2,List.length_append,encH (by (exact q337 huO)) (by (exact q338 hO1))]; exact q336 z4⟩
  ·
    have hc' := of_decide_eq_false hc;obtain rfl : m = 0 := by exact q339 hc
    rw [List.drop_zero] at hlen hTl hpd z3;simp only [List.drop_zero];exact wv_end hK hn hul hu hle hO (by exact Nat.le_trans (by assumption) (by decide)) hO2 z3 rfl hQ
theorem writeVtable_spec {a ba : Addr} {fin ne : Bool} {vne : Option V} {pre tail : List UInt8} {c D : Addr} {oe : Nat} {us : List Nat} {O : Nat} (hO : O = 4 + (padT 4 0 tail).length) (hD : (D == sysModules) = false) (hul : us.length ≤ 3) (hu : ∀ u ∈ us,u ≤ tail.length) (hoe : oe ≤ tail.length) (hz : pre.length + tail.length ≤ 4096) (hr : tail.length ≤ 1960) :
    Spec W 5 (.ref 335) [.val (.ref a)] [] [bI a ba (.val (.ref c)) fin (pre.length : Nat) 4 ne (.int (oe : Nat)) vne (.val (.ref D)),(ba,.ba (pre ++ tail)),(c,.rlist (usV us)),(D,.dict [])] (fun v μ' => ∃ ba' pre',v = .int (O : Nat) ∧ μ' = (bB a ba' .none fin pre' (vtab O oe us ++ (Fm.enc .i (.int ((vtab O oe us).length : Nat)) ++ (padT 4 0 tail))) 4 ne (.int (oe : Nat)) vne (.val (.ref D))) ∧ pre'.length + (vtab O oe us).length + O ≤ 4096) := by
  have hp := padT_le (k := 0) (tail := tail) (size := 4) (by decide);have hg := padT_ge (k := 0) (tail := tail) (size := 4);have h4 : ((padT 4 0 tail)).length % 4 = 0 := by have := padOf_add (s := 4) (t := tail.length) (x := 0) (.inr (.inr rfl)); rw [padT_len]; exact q340 this
  refine spec_fn hK (f_335 hK) ["self"] ["objectOffset","vtKey","trim","elem","objectSize","vt2Offset","i","trailing","off","vBytes","objectStart"] [("reversed",.type "reversed"),("UOffsetTFlags",.ref 146),("tuple",.type "tuple"),("len",.builtin "len"),("VtableMetadataFields",.int 2 749),("VOffsetTFlags",.ref 158),("SOffsetTFlags",.ref 134),("Write",.ref 181),("soffset",.ref 54)] (fun u_ u_ u_ u_ u_ u_ u_ u_ => bind_pos (len1 fun u_ => by kernel_rfl)) (fun Φ hn Q hQ => ?_);refine nl 0 ?_;refine mB hK (by repeat' constructor) (mB_PrependSOffsetTRelative hK) ?_;refine xl_use (prepSO hK (pre := pre) (tail := tail) (off := 0) hz (by exact q341 hr) (by exact Nat.zero_le _)) (by repeat' constructor) hn ?_;rintro v _ xC2_; apply gG;intro nG;obtain ⟨b2,p2,rfl,z2⟩ := xC2_
  apply nG;clear nG;rw [mx_4 (by decide),Nat.sub_zero];have hle : (Fm.enc .i (.int (((padT 4 0 tail).length + 4 : Nat) : Int))).length = 4 := enci (by (first | with_reducible exact Int.natCast_nonneg _ | with_reducible exact nn31 | (clear h4; lia))) (by (exact q342 hr hp));generalize hh0 : Fm.enc .i (.int (((padT 4 0 tail).length + 4 : Nat) : Int)) = h0 at hle ⊢;generalize ht0 : (padT 4 0 tail) = t0 at *;have hL : (h0 ++ t0).length = O := by rw [List.length_append,hle,hO]
  refine nl 0 ?_;refine mB hK (by repeat' constructor) (mB_Offset hK) ?_;refine xl_eq (offset_spec hK (b := p2 ++ (h0 ++ t0)) (by rw [List.length_append,hL]; (exact q343 hO z2))) (by repeat' constructor) hn ?_;rw [off_of (n := O) (hL)];refine st_ 1 ?_;refine x_List ?_;refine va ?_;refine ⟨by decide,fun kk => ?_⟩;refine st_ 2 ?_;refine st_ 3 ?_;refine vfr c (usV us) (WvK a b2 c D kk fin ne oe vne us h0 t0 p2 O) ?_ ?_ ?_ ?_
  ·
    refine ng_ 0 ?_;refine kb ?_;refine nl 0 ?_;refine get_current_vtable hK (by repeat' constructor) rfl ?_;refine l_reversed (l := usV us) (by repeat' constructor) (fun I => ?_);exact ⟨I,_,rfl,.refl _,[],true,none,rfl,rfl,Nat.le_refl _⟩
  ·
    rintro i _ _ xC3_; apply gG;intro nG;obtain ⟨ks,tr,oel,rfl,rfl,hk⟩ := xC3_
    apply nG;clear nG
    repeat' constructor
  ·
    rintro i v I ob _ _ hv xC7_; apply gG;intro nG;obtain ⟨ks,tr,oel,rfl,rfl,hk⟩ := xC7_
    rw [← List.map_reverse,List.getElem?_map] at hv;obtain ⟨u,hu1,rfl⟩ := Option.map_eq_some_iff.mp hv;apply nG;clear nG;have hi3 := (List.getElem?_eq_some_iff.mp hu1).1;rw [List.length_reverse] at hi3;refine a_name (.there (.there (.there (.there .here)))) ?_;refine nl 4 ?_;refine if_s (fun hc => ?_) (fun hc => ?_)
    ·
      refine nl 3 ?_;refine if_s (fun hd => ?_) (fun hd => ?_)
      ·
        exact ⟨_,.refl _,ks,tr,_,rfl,rfl,by (exact q174 hk)⟩
      ·
        refine nl 2 ?_;refine m_append (l := ks.map V.int) (by repeat' constructor) ?_;refine ⟨.inr rfl,?_⟩;refine nl 4 ?_;refine l_append (l := ks.map V.int) (by rw [List.length_map]; exact q344 hul hk hi3) (by repeat' constructor) ?_;exact ⟨_,.refl _,ks ++ [(u : Int)],tr,_,by rw [List.map_append]; rfl,rfl,by rw [List.length_append]; exact Nat.succ_le_succ hk⟩
    ·
      refine nl 1 ?_;refine nl 4 ?_;refine st_ 4 ?_;refine st_ 3 ?_;refine nl 2 ?_;refine m_append (l := ks.map V.int) (by repeat' constructor) ?_;refine ⟨.inr rfl,?_⟩;refine nl 4 ?_;refine l_append (l := ks.map V.int) (by rw [List.length_map]; exact q344 hul hk hi3) (by repeat' constructor) ?_;exact ⟨_,.refl _,ks ++ [(O : Int) - u],false,_,by rw [List.map_append]; rfl,rfl,by rw [List.length_append]; exact Nat.succ_le_succ hk⟩
  ·
    rintro _ _ xC2_; apply gG;intro nG;obtain ⟨ks,tr,oel,rfl,rfl,hk⟩ := xC2_
    apply nG;clear nG;rw [List.length_map] at hk;refine ng_ 1 ?_;refine m_typ (kF_UO hK) (aF_UO_py_type hK) int_typ ?_;refine ⟨.inr rfl,?_⟩;refine nl 1 ?_;refine nl 0 ?_;refine get_objectEnd hK (by repeat' constructor) rfl ?_;refine l_int ?_;refine st_ 5 ?_;refine nl 2 ?_;have e5 : ((O : Nat) : Int) - (oe : Nat) = ((O - oe : Nat) : Int) := by (exact q345 hoe hO hg)
    rw [e5];refine m_append (l := ks.map V.int) (by repeat' constructor) ?_;refine ⟨.inr rfl,?_⟩;refine nl 5 ?_;refine l_append (l := ks.map V.int) (by rw [List.length_map]; exact q346 hul hk) (by repeat' constructor) ?_;rw [show List.map V.int ks ++ [V.int ((O - oe : Nat) : Int)] = List.map V.int (ks ++ [((O - oe : Nat) : Int)]) by rw [List.map_append]; rfl];refine ng_ 2 ?_;refine kb ?_;refine nl 2 ?_;refine l_tuple_list (.list (by repeat' constructor)) (by rw [List.length_map,List.length_append,List.length_singleton]; exact q347 hul hk) ?_;refine st_ 2 ?_;refine x_mcall ?_;refine ve ?_;refine nl 0 ?_;refine get_vtables hK (by repeat' constructor) rfl ?_;refine m_dget (l := []) (by repeat' constructor) ?_;refine ⟨.inr rfl,?_⟩;refine va ?_;refine nl 2 ?_;refine l_dget (l := []) hD (by repeat' constructor) ?_;refine st_ 6 ?_;refine nl 6 ?_;refine if_t (by rfl) ?_;refine wv_mid hK hn hul (fun u h => Nat.le_trans (hu u h) (by (exact q348 hO hg))) hle hO (by (exact q349 hr hO hp)) (by exact q350 hO h4) (by rw [hL]; (exact q351 hO z2)) ?_;intro b p ℓ D' z3 e0 e1;refine nl 0 ?_ rfl e0;refine put_current_vtable hK (by repeat' constructor) ?_;refine nl 1 ?_ rfl e1;exact hQ _ _ _ _ (by repeat' constructor) ⟨b,p,rfl,rfl,z3⟩
theorem endObject_spec {a ba : Addr} {fin : Bool} {vne : Option V} {pre tail : List UInt8} {c D : Addr} {oe : Nat} {us : List Nat} {O : Nat} (hO : O = 4 + (padT 4 0 tail).length) (hD : (D == sysModules) = false) (hul : us.length ≤ 3) (hu : ∀ u ∈ us,u ≤ tail.length) (hoe : oe ≤ tail.length) (hz : pre.length + tail.length ≤ 4096) (hr : tail.length ≤ 1960) :
    Spec W 6 (.ref 342) [.val (.ref a)] [] [bI a ba (.val (.ref c)) fin (pre.length : Nat) 4 true (.int (oe : Nat)) vne (.val (.ref D)),(ba,.ba (pre ++ tail)),(c,.rlist (usV us)),(D,.dict [])] (fun v μ' => ∃ ba' pre',v = .int (O : Nat) ∧ μ' = (bB a ba' .none fin pre' (vtab O oe us ++ (Fm.enc .i (.int ((vtab O oe us).length : Nat)) ++ (padT 4 0 tail))) 4 false (.int (oe : Nat)) vne (.val (.ref D))) ∧ pre'.length + (vtab O oe us).length + O ≤ 4096) := by
  refine spec_fn hK (f_342 hK) ["self"] [] [] (fun u_ u_ u_ u_ u_ u_ u_ u_ => bind_pos (len1 fun u_ => by kernel_rfl)) (fun Φ hn Q hQ => ?_);refine nl 0 ?_;refine mB hK (by repeat' constructor) (mB_assertNested hK) ?_;refine xl_eq (assertNested_spec hK) (by repeat' constructor) hn ?_;refine nl 0 ?_;refine put_nested hK (by repeat' constructor) ?_;refine nl 0 ?_;refine mB hK (by repeat' constructor) (mB_WriteVtable hK) ?_;refine xl_use (writeVtable_spec hK (pre := pre) (tail := tail) (us := us) hO hD hul hu hoe hz hr) (by repeat' constructor) hn ?_;rintro v _ xC2_; apply gG;intro nG;obtain ⟨b2,p2,rfl,rfl,z2⟩ := xC2_
  apply nG;clear nG;exact hQ _ _ _ _ (by repeat' constructor) ⟨b2,p2,rfl,rfl,z2⟩
end
end
section
open PySem PySem.W PyProof.Rows PySem.Calls
theorem encB (x : UInt8) : Fm.enc .B (.int (x.toNat : Nat)) = [x] := by
  have h := x.toNat_lt;show leB 1 ((x.toNat : Int) % 2 ^ (8 * 1)).toNat = _;have e0 : ((x.toNat : Int) % 2 ^ (8 * 1)).toNat = x.toNat := by exact q352 h
  rw [e0];have e : x.toNat / 256 ^ 0 % 256 = x.toNat := by rw [Nat.pow_zero,Nat.div_one]; assumption
  show [Nat.toUInt8 (x.toNat / 256 ^ 0 % 256)] = [x];rw [e];exact congrArg (fun y => [y]) UInt8.ofNat_toNat
noncomputable def fin4 (as t : List UInt8) (root : Nat) : List UInt8 :=
  Fm.enc .i (.int ((4 + (as ++ t).length : Nat) : Int)) ++ (Fm.enc .I (.int (((as ++ t).length - root + 4 : Nat) : Int)) ++ (as ++ t))
theorem padT_no' {s k : Nat} {t : List UInt8} (h : padOf s (t.length + k) = 0) : padT s k t = t := by
  show List.replicate (padOf s (t.length + k)) 0 ++ t = t;rw [h]; rfl
theorem pad4 {n : Nat} (h : n % 4 = 0) : padOf 4 n = 0 := by unfold padOf; exact q353 h
inductive FnJ (a b3 : Addr) (oe : V) (vne : Option V) (vt : V) (root : Nat) (a0 a1 a2 a3 : UInt8) (t2 p3 : List UInt8) (i : Nat) (μ : Mu) (ℓ : Loc) : Prop
  | mk (p : List UInt8) (o : Option V) (r : Addr) (t u w : Tok) (h0 : μ = [(r,Ce.raw (rangeObj 3 (-1) (-1) t u w)),bI a b3 .none fin (p.length : Nat) 4 false oe vne vt,(b3,.ba (p ++ ([a0,a1,a2,a3].drop (4 - i) ++ t2)))]) (h1 : ℓ = [some (V.val (.ref a)),some (V.int root),some (V.bool true),some (V.tup ([a0,a1,a2,a3].map fun x : UInt8 => V.int x.toNat)),some (V.int 12),o,none]) (h2 : p.length + i = p3.length) : FnJ a b3 oe vne vt root a0 a1 a2 a3 t2 p3 i μ ℓ
section
variable {W : Wd} (hK : Kn W.K)
include hK
theorem fin_spec {a ba : Addr} {oe vt : V} {fin : Bool} {vne : Option V} {pre tail : List UInt8} {root : Nat} {a0 a1 a2 a3 : UInt8} (hroot : root ≤ tail.length) (hz : pre.length + tail.length ≤ 4096) (hr : tail.length ≤ 1950) :
    Spec W 5 (.ref 463) [.val (.ref a),.int root,.bool true] [("file_identifier",.bytes [a0,a1,a2,a3])] (bB a ba .none fin pre tail 4 false oe vne vt) (fun v μ' => ∃ ba' pre',μ' = (bB a ba' .none true pre' (fin4 [a0,a1,a2,a3] (padT 4 12 tail) root) 4 false oe vne vt) ∧ pre'.length + (fin4 [a0,a1,a2,a3] (padT 4 12 tail) root).length ≤ 4096) := by
  have hp := padT_le (k := 12) (tail := tail) (size := 4) (by decide);have hg := padT_ge (k := 12) (tail := tail) (size := 4);have h4 : (padT 4 12 tail).length % 4 = 0 := by have := padOf_add (s := 4) (t := tail.length) (x := 12) (.inr (.inr rfl)); rw [padT_len]; exact q354 this
  refine spec_fn hK (f_463 hK) ["self","rootTable","sizePrefix","file_identifier"] ["prepSize","i","size"] [("UOffsetTFlags",.ref 146),("enforce_number",.ref 167),("Int32Flags",.ref 120),("FILE_IDENTIFIER_LENGTH",.int 4 576),("unpack",.builtin "_struct.unpack"),("range",.type "range"),("Uint8Flags",.ref 78),("len",.builtin "len")] (fun u_ u_ u_ u_ u_ u_ u_ u_ => bind_gen (args := [.val (.ref a),.int root,.bool true]) (kw := [("file_identifier",.bytes [a0,a1,a2,a3])]) (dV := []) (used := []) (ta_456 hK) rfl (fun u_ u_ => .nil) (len3 fun u_ u_ u_ => len1 fun u_ => ⟨_,rfl,rfl⟩)) (fun Φ hn Q hQ => ?_);refine ng_ 1 ?_;refine kf (kp_167 hK) ?_;refine nl 1 ?_;refine ng_ 0 ?_;refine xl_eq (enf_int hK (fi_UO hK) (i := (root : Nat)) (by (first | with_reducible exact Int.natCast_nonneg _ | with_reducible exact nn31 | lia)) (by exact q355 hroot hr)) (by repeat' constructor) hn ?_;refine ng_ 0 ?_;refine g_cls (kF_UO hK) (aF_UO_bytewidth hK) (fun u_ u_ => .int) ?_;refine st_ 4 ?_;refine nl 3 ?_;refine if_t (by rfl) ?_;refine gt_ 4 ?_;refine ng_ 2 ?_;refine g_cls (kF_I32 hK) (aF_I32_bytewidth hK) (fun u_ u_ => .int) ?_;refine st_ 4 ?_;refine nl 2 ?_;refine if_t (by rfl) ?_;refine gt_ 4 ?_;refine ng_ 2 ?_;refine g_cls (kF_I32 hK) (aF_I32_bytewidth hK) (fun u_ u_ => .int) ?_;refine st_ 4 ?_;refine nl 0 ?_;refine mB hK (by repeat' constructor) (mB_Prep hK) ?_;refine nl 0 ?_;refine get_minalign hK (by repeat' constructor) ?_;refine nl 4 ?_;rw [show (4 : Int) + 4 + 4 = 12 from rfl];refine xl_use (prep_spec hK (pre := pre) (tail := tail) (size := 4) (add := 12) (by decide) hz (by exact q356 hr)) (by repeat' constructor) hn ?_;rintro v _ xC2_; apply gG;intro nG;obtain ⟨b2,p2,rfl,rfl,g2,z2⟩ := xC2_
  apply nG;clear nG;rw [mx_4 (by decide)];generalize ht2 : padT 4 12 tail = t2 at *;refine nl 3 ?_;refine if_t (by rfl) ?_;refine nl 0 ?_;refine mB hK (by repeat' constructor) (mB_Prep hK) ?_;refine ng_ 0 ?_;refine g_cls (kF_UO hK) (aF_UO_bytewidth hK) (fun u_ u_ => .int) ?_;refine ngi 3 ?_;refine xl_use (prep_spec hK (pre := p2) (tail := t2) (size := 4) (add := 4) (by decide) (by exact q253 z2) (by (exact q357 hr hp))) (by repeat' constructor) hn ?_;rintro v _ xC2_; apply gG;intro nG;obtain ⟨b3,p3,rfl,rfl,g3,z3⟩ := xC2_
  apply nG;clear nG;rw [padT_no' (pad4 (by exact q358 h4))] at z3 ⊢;rw [mx_4 (by decide)];refine ng_ 4 ?_;refine kb ?_;refine nl 3 ?_;refine l_unpack4 ?_;refine st_ 3 ?_;refine vf ((List.range 4).map fun i : Nat => V.int ((3 : Int) + (i : Int) * (-1))) (FnJ a b3 oe vne vt root a0 a1 a2 a3 t2 p3) ?_ ?_ ?_
  ·
    refine ng_ 5 ?_;refine kb ?_;refine ngi 3 ?_;refine l_range3 (by decide) (by decide) (fun r t u w => ?_);exact ⟨it_range (n := 4) (.head _) (by decide) (by decide),p3,none,r,t,u,w,rfl,rfl,rfl⟩
  ·
    rintro i v I ob _ _ hv xC7_; apply gG;intro nG;obtain ⟨p,o,r,t,u,w,rfl,rfl,hp3⟩ := xC7_
    apply nG;clear nG;have hi : i < 4 := by have := (List.getElem?_eq_some_iff.mp hv).1; rwa [List.length_map,List.length_range] at this
    rw [List.getElem?_map,List.getElem?_range hi] at hv;cases hv;refine a_name (.there (.there (.there (.there (.there .here))))) ?_;refine nl 0 ?_;refine mB hK (by repeat' constructor) (mB_Place hK) ?_;refine nl 3 ?_;refine nl 5 ?_;have hix : (3 : Int) + (i : Int) * (-1) = ((3 - i : Nat) : Int) := by exact q359 hi
    have hlt : 3 - i < [a0,a1,a2,a3].length := by show 3 - i < 4; exact q360
    have hdr : [a0,a1,a2,a3].drop (4 - (i + 1)) = [a0,a1,a2,a3][3 - i] :: [a0,a1,a2,a3].drop (4 - i) := by rw [show 4 - (i + 1) = 3 - i by exact q361,List.drop_eq_getElem_cons hlt,show 3 - i + 1 = 4 - i by exact q362 hix]
    generalize hx : [a0,a1,a2,a3][3 - i] = x at hdr;have hxl := x.toNat_lt;refine ⟨.tup,?_⟩;refine s_tup (v := .int x.toNat) (by exact q363 hi) (by exact q364) (by rw [hix,Int.toNat_natCast,List.getElem?_map,List.getElem?_eq_getElem hlt,hx]; rfl) ?_;refine ng_ 6 ?_;refine xl_use (place_spec hK (pre := p) (tail := [a0,a1,a2,a3].drop (4 - i) ++ t2) (f := .B) (x := .int x.toNat) (enf_int hK (fi_U8 hK) (by (first | with_reducible exact Int.natCast_nonneg _ | with_reducible exact nn31 | lia)) (by exact q365 hxl)) (ff_U8 hK) ⟨by (first | with_reducible exact Int.natCast_nonneg _ | with_reducible exact nn31 | omega),by exact q366 hxl⟩ (by rw [List.length_append,List.length_drop]; show p.length + (4 - (4 - i) + t2.length) ≤ 1000000; (exact q367 z3 hp3)) (by show 1 ≤ _; exact q368 g3 hp3 hi)) (by repeat' constructor) hn ?_;rintro v _ xC2_; apply gG;intro nG;obtain ⟨p4,rfl,e4⟩ := xC2_
    apply nG;clear nG;replace e4 : p4.length + 1 = p.length := e4;rw [encB];exact ⟨[(r,_),(a,_),(b3,_)],Sel.perm (ν := []) (.cons (by repeat' constructor) (.cons (by repeat' constructor) (.cons (by repeat' constructor) (.cons (by repeat' constructor) .nil)))),p4,_,r,t,u,w,by rw [hdr]; rfl,rfl,by exact q369 hp3 e4⟩
  ·
    rintro _ _ xC2_; apply gG;intro nG;obtain ⟨p,o,r,t,u,w,rfl,rfl,hp3⟩ := xC2_
    apply nG;clear nG;rw [List.length_map,List.length_range] at hp3 ⊢;simp only [show (4 - 4 : Nat) = 0 from rfl,List.drop_zero];have hm : ([a0,a1,a2,a3] ++ t2).length = 4 + t2.length := by rw [List.length_append]; rfl
    generalize hm0 : [a0,a1,a2,a3] ++ t2 = m at hm ⊢;refine nl 0 ?_;refine mB hK (by repeat' constructor) (mB_PrependUOffsetTRelative hK) ?_;refine nl 1 ?_;refine xl_use (prepUO hK (pre := p) (tail := m) (off := root) (by (exact q370 z3 hp3 hm)) (by (exact q371 hr hp hm)) (by rw [padT_no (pad4 (by exact q372 h4 hm))]; (exact q373 hroot hg hm))) (by repeat' constructor) hn ?_;rintro v _ xC2_; apply gG;intro nG;obtain ⟨b4,p4,rfl,z4⟩ := xC2_
    apply nG;clear nG;rw [padT_no (pad4 (by exact q372 h4 hm))] at z4 ⊢;rw [mx_4 (by decide)];have hl : (Fm.enc .I (.int ((m.length - root + 4 : Nat) : Int)) ++ m).length = 4 + m.length := by rw [List.length_append,encI (by (first | with_reducible exact Int.natCast_nonneg _ | with_reducible exact nn31 | lia)) (by (exact q374 hr hp hm))]
    generalize hr0 : Fm.enc .I (.int ((m.length - root + 4 : Nat) : Int)) ++ m = r0 at hl ⊢;refine nl 2 ?_;refine if_t (by rfl) ?_;refine ng_ 7 ?_;refine kb ?_;refine nl 0 ?_;refine get_Bytes hK (by repeat' constructor) ?_;refine l_len_ba (by repeat' constructor) (by (first | assumption | omega | (simp only [List.length_append,List.length_replicate]; (exact q375 z4 hl)) | (simp; (first | lia | omega)))) ?_;refine nl 0 ?_;refine get_head hK (by repeat' constructor) ?_;refine st_ 6 ?_;refine ng_ 1 ?_;refine kf (kp_167 hK) ?_;refine nl 6 ?_;refine ng_ 2 ?_;rw [off_of (n := 4 + m.length) hl];refine xl_eq (enf_int hK (fi_I32 hK) (i := ((4 + m.length : Nat) : Int)) (by (first | with_reducible exact Int.natCast_nonneg _ | with_reducible exact nn31 | (clear hm; lia))) (by (exact q376 hr hp hm))) (by repeat' constructor) hn ?_;refine nl 0 ?_;refine mB hK (by repeat' constructor) (mB_PrependInt32 hK) ?_;refine nl 6 ?_;refine xl_use (one_I32 hK (x := ((4 + m.length : Nat) : Int)) (pre := p4) (tail := r0) (by (first | with_reducible exact Int.natCast_nonneg _ | with_reducible exact nn31 | omega)) (by (exact q377 hr hp hm)) (by (exact q80 z4 hl)) (by (exact q378 hr hp hm hl))) (by repeat' constructor) hn ?_;rintro v _ xC2_; apply gG;intro nG;obtain ⟨b5,p5,rfl,z5⟩ := xC2_
    apply nG;clear nG;rw [padT_no (pad4 (by exact q379 h4 hm hl))] at z5 ⊢;rw [mx_4 (by decide)];refine nl 0 ?_;refine put_finished hK (by repeat' constructor) ?_;refine nl 0 ?_;refine get_head hK (by repeat' constructor) ?_;have hf : Fm.enc .i (.int ((4 + m.length : Nat) : Int)) ++ r0 = fin4 [a0,a1,a2,a3] t2 root := by rw [← hr0,← hm0]; rfl
    have hfl : (fin4 [a0,a1,a2,a3] t2 root).length = 4 + r0.length := by rw [← hf,List.length_append,enci (by (first | with_reducible exact Int.natCast_nonneg _ | with_reducible exact nn31 | (clear hm; lia))) (by (exact q377 hr hp hm))]
    rw [hf];exact hQ _ _ _ _ (by repeat' constructor) ⟨b5,p5,rfl,by (exact q80 z5 hfl)⟩
theorem finish_spec {a ba : Addr} {oe vt : V} {fin : Bool} {vne : Option V} {pre tail : List UInt8} {root : Nat} {a0 a1 a2 a3 : UInt8} (hroot : root ≤ tail.length) (hz : pre.length + tail.length ≤ 4096) (hr : tail.length ≤ 1950) :
    Spec W 6 (.ref 479) [.val (.ref a),.int root,.bytes [a0,a1,a2,a3]] [] (bB a ba .none fin pre tail 4 false oe vne vt) (fun v μ' => ∃ ba' pre',μ' = (bB a ba' .none true pre' (fin4 [a0,a1,a2,a3] (padT 4 12 tail) root) 4 false oe vne vt) ∧ pre'.length + (fin4 [a0,a1,a2,a3] (padT 4 12 tail) root).length ≤ 4096) := by
  refine spec_fn hK (f_479 hK) ["self","rootTable","file_identifier"] [] [] (fun u_ u_ u_ u_ u_ u_ u_ u_ => bind_gen (args := [.val (.ref a),.int root,.bytes [a0,a1,a2,a3]]) (kw := []) (dV := []) (used := []) (ta_472 hK) rfl (fun u_ u_ => .nil) (len3 fun u_ u_ u_ => len0 ⟨_,rfl,rfl⟩)) (fun Φ hn Q hQ => ?_);refine x_mcallK (names := ["file_identifier"]) ?_;refine ve ?_;refine nl 0 ?_;refine mB hK (by repeat' constructor) (mB_Builder__Finish hK) ?_;refine va ?_;refine nl 1 ?_;refine xkw_cons ?_;refine nl 2 ?_;refine xkw_nil ?_;refine xk_use (kw := [("file_identifier",.bytes [a0,a1,a2,a3])]) (fin_spec hK hroot hz hr) (by repeat' constructor) hn ?_;rintro v _ xC2_; apply gG;intro nG;obtain ⟨b2,p2,rfl,z2⟩ := xC2_
  apply nG;clear nG;exact hQ _ _ _ _ (by repeat' constructor) ⟨b2,p2,rfl,z2⟩
end
end
section
open PySem PySem.W PyProof.Rows PySem.Calls Builtin
section
variable {prog : Program} {w : World} {A : Around} {C : Addr} {R : Result → Shared → Prop} {h : Heap} {g : Array GenState} {d : Drawn} {t : Nat} {os : OsState}
theorem make_N {rest : List Value} {kw : List (Str × Value)} {init : Value} (Y : Makes (model prog w) h C) (hi : Looks (model prog w) h (typeLookup (.ref C) "__init__") (some init))
    (hb : ∀ self,Looks (model prog w) h (bindSpecial init self) (init,[self])) (hne : (some init != some (Value.builtin "object.__init__")) = true)
    (hq : cN (model prog w) (A.under (.builtin "type.__call__" ⟨.ref C :: rest,kw⟩)) (.call init ⟨.ref (h.objs.size + 1) :: rest,kw⟩) (fun r s' => r = .ok (.ret .none) ∧ R (.ok (.ret (.ref (h.objs.size + 1)))) s') ⟨(h.push emptyDict).push (instObj C h.objs.size),g,d,t,os⟩) :
    cN (model prog w) A (.call (.ref C) ⟨rest,kw⟩) R ⟨h,g,d,t,os⟩ := by
  have Y' := Y;apply gG;intro nG
  obtain ⟨⟨oc,od,cd,sl,hC,e1,e2,e4⟩,made,base,self,top,cal,typ⟩ := Y;apply nG;clear nG;refine cN.tree rfl ?_;show wN _ _ (callAny (.ref C) _) _ _ _;unfold callAny;refine .bind (.of (wpAny_load hC ?_));show wN _ _ (callAny.viaDunder (.ref C) _) _ _ _;unfold callAny.viaDunder;refine .bind (.of (cal.here ?_));dsimp only;rw [tc_bind];refine .bind (.pure (.bind (.pure ?_)));refine wN.pure (a := Fin.again (.call (.builtin "type.__call__") ⟨.ref C :: rest,kw⟩)) ⟨rfl,?_⟩;refine cN.tree rfl ?_;show wN _ A.in1 (checkBuiltinCall "type.__call__" ⟨.ref C :: rest,kw⟩ >>= fun u_ => again (Code.builtin "type.__call__" ⟨.ref C :: rest,kw⟩)) _ _ _;refine .bind (.of (check_slot tc_kind tc_split typ (tc_args _ _ _) ?_));refine .pure ⟨Code.quiet_builtin _ (by decide +kernel),cN.bi entry_typeCall (calm_of (by decide +kernel)) ?_⟩;unfold Builtin.«type.__call__»;have hm : Looks (model prog w) h (mroOf (.ref C)) cd.mro := ((Looks.ld (part := none) hC).andThen .now).andThen .now;dsimp only;rw [if_neg (show ¬ ((Value.ref C == Value.type "type") = true) from fun q => by cases beq_iff_eq.mp q)];refine .bind (.of (hm.here ?_));rw [e4,if_neg Bool.false_ne_true];refine .bind (.of (made.here ?_));dsimp only;refine .bind (.pure ?_);refine .bind (.holding (.of (wpAny_call (new_K Y' hi (.inl hne) ?_))));have k : ∀ b o,h.get? b = some o → ((h.push emptyDict).push (instObj C h.objs.size)).get? b = some o := fun b o e => Heap.get?_push_of_some _ (Heap.get?_push_of_some _ e)
  have hx : ((h.push emptyDict).push (instObj C h.objs.size)).get? (h.objs.size + 1) = some (instObj C h.objs.size) := by heap_get
  have t1 : Looks (model prog w) ((h.push emptyDict).push (instObj C h.objs.size)) (typeOf (.ref (h.objs.size + 1))) (.ref C) := (Looks.ld hx).andThen .now;refine .bind (.of (wpAny_bind (t1.here ((self.keeps k).here ?_))));rw [if_neg (show ¬ ((!true) = true) from Bool.false_ne_true)];refine .bind (.holding ?_);unfold callSpecial? specialOf;refine .bind (.of (wpAny_bind (t1.here ((hi.keeps k).here ?_))));dsimp only;refine .holding (.bind (.of (((hb (.ref (h.objs.size + 1))).keeps k).here ?_)));refine .bind (.call (cN.mono hq fun r s' z => ?_));obtain ⟨rfl,z⟩ := z;exact .pure (.pure z)
end
section
variable {W : Wd} {Φ : Fx} {ns : List Str} {gs : List (Str × Value)} {μ μ' : Mu} {ℓ : Loc} {F : Addr → Prop} {s : Shared}
theorem Room.under {A : Around} {n : Nat} (r : Room A (n + 1)) (C : Addr) (rest : List Value) (kw : List (Str × Value)) : Room (A.under (.builtin "type.__call__" ⟨.ref C :: rest,kw⟩)) n := by
  have c1 : (Code.builtin "type.__call__" ⟨.ref C :: rest,kw⟩).weight = 1 := by kernel_rfl
  have c2 : (Code.builtin "type.__call__" ⟨.ref C :: rest,kw⟩).cUnits = 1 := by kernel_rfl
  have c3 : (Code.builtin "type.__call__" ⟨.ref C :: rest,kw⟩).guards = [] := by kernel_rfl
  refine ⟨?_,?_,r.handled,?_⟩
  · have := r.depth; show A.depth + (Code.builtin "type.__call__" ⟨.ref C :: rest,kw⟩).weight + 3 * n < 900; rw [c1]; exact q2 this
  · have := r.units; show A.units + (Code.builtin "type.__call__" ⟨.ref C :: rest,kw⟩).cUnits + 30 * n < 9000; rw [c2]; exact q469 this
  · show pushGuards (Code.builtin "type.__call__" ⟨.ref C :: rest,kw⟩).guards A.guards = _; rw [c3]; exact r.guards
end
end
section
open PySem PySem.W PyProof.Rows PySem.Calls Builtin
theorem bytes_has_bytes : typeLookup (.type "bytes") "__bytes__" = pure (some (.builtin "bytes.__bytes__")) := by rw [typeLookup_type,builtinLookup_eq_fast]; kernel_rfl
section
variable {prog : Program} {w : World} {A : Around} {E : Value → Shared → Prop} {s : Shared}
theorem by_new_bytes {b : Array UInt8} {tb : Tok} {Q : Value → Shared → Prop} (h : Q (.bytes b tb) s) :
    codeAny (model prog w) A (.call (.builtin "bytes.__new__") ⟨[.type "bytes",.bytes b tb],[]⟩) (wants Q E) s := by
  refine codeAny_of_tree ?_;show wpAny _ A.in1 (do checkBuiltinCall "bytes.__new__" ⟨[.type "bytes",.bytes b tb],[]⟩; again (.builtin "bytes.__new__" ⟨[.type "bytes",.bytes b tb],[]⟩)) _ _ s;refine wpAny_bind (wpAny_of_eq (F.bm_newCall _) (wpAny_pure ⟨plainId_quiet F.bm_plain _,codeAny_builtin F.bm_entry ?_⟩));rw [Around.under_plainId F.bm_plain _];apply gG;intro nG
  obtain ⟨hh,g,dr,t,os⟩ := s;apply nG;clear nG;have L0 : Looks (model prog w) hh (specialOf (.bytes b tb) (Str.ofString "__bytes__")) (some (.builtin "bytes.__bytes__")) := (Looks.of_pure (by rfl) : Looks (model prog w) hh (typeOf (.bytes b tb)) (.type "bytes")).andThen (Looks.of_pure bytes_has_bytes);have L1 : Looks (model prog w) hh (typeOf (.bytes b tb)) (.type "bytes") := Looks.of_pure rfl;have L4 : Looks (model prog w) hh (isSubtype (.type "bytes") (.type "bytes")) true := Looks.of_pure sub_bytes_bytes;unfold Builtin.«bytes.__new__»;dsimp only;refine wpAny_bind (wpAny_of_eq (a := true) rfl ?_);rw [if_neg (by decide)];refine wpAny_bind (L4.here ?_);rw [if_neg (by decide),F.bm_bind];refine wpAny_bind (wpAny_pure ?_);dsimp only;refine wpAny_bind (wpAny_pure ?_);refine wpAny_bind (wpAny_pure ?_);rw [if_neg (by decide)];refine wpAny_bind (L0.here ?_);refine wpAny_bind (wpAny_rule ?_);refine wpAny_bind (L1.here ?_);rw [if_pos (by rfl)];show wpAny _ _ (if (Value.type "bytes" == Value.type "bytes") = true then _ else _) _ _ _;refine bm_if_true (by decide) ?_
  first
    | exact wpAny_pure h
    | exact wpAny_bind (wpAny_pure (wpAny_pure h))
theorem by_make_bytes {b : Array UInt8} {tb : Tok} {Q : Value → Shared → Prop} (h : Q (.bytes b tb) s) :
    wpAny (model prog w) A (call (.type "bytes") [.bytes b tb]) Q E s := by
  refine callType_codes (Q₁ := fun obj s₁ => s₁.TypeIs obj "bytes" ∧ Q obj s₁) F.bm_called (F.bm_typeCall _) F.entry_object_init
    (by_new_bytes ⟨PySem.W.typeIs_bytes _ _ _,h⟩) fun obj s₁ h₁ => ?_
  exact ⟨h₁.1,F.args_object_init_2 obj _,object_init_meets F.bm_called.init.lookup F.bm_called.made (by decide) prog w A.in1 _ s₁ ⟨h₁.1,rfl,h₁.2⟩⟩
end
section
variable {W : Wd} {Φ : Fx} {ns : List Str} {gs : List (Str × Value)} {μ μ' : Mu} {ℓ : Loc} {F : Addr → Prop} {s : Shared}
theorem l_bytes {b : List UInt8} {Q : V → Mu → Loc → Prop} (q : Q (.bytes b) μ ℓ) : XL W RV Φ ns gs μ ℓ [.bytes b] (fun xs => call (.type "bytes") xs) Q := by
  intro s F xs G O I hx;apply gG;intro nG
  obtain ⟨x,rfl,ha⟩ := isL1 hx;obtain ⟨_,rfl⟩ := ha.inv;apply nG;clear nG;refine .of ?_;refine by_make_bytes ?_;exact res_here I .bytes q
theorem l_bytes_ba {a : Addr} {b : List UInt8} {Q : V → Mu → Loc → Prop} (hm : (a,Ce.ba b) ∈ μ) (hz : b.length ≤ 16777216) (q : Q (.bytes b) μ ℓ) : XL W RV Φ ns gs μ ℓ [.val (.ref a)] (fun xs => call (.type "bytes") xs) Q := by
  intro s F xs G O I hx;apply gG;intro nG
  obtain ⟨x,rfl,ha⟩ := isL1 hx;apply nG;clear nG;cases ha;apply gG;intro nG
  obtain ⟨o,ho,hc⟩ := I.cell hm;apply nG;clear nG;cases hc;refine .of ?_;refine by_make_ba ho (by rw [List.size_toArray]; exact hz) fun t k => ?_
  exact ⟨F,_,_,_,I.tok,.refl,.bytes,q⟩
theorem g_tabB {C p : Addr} {b : List UInt8} {pos : Int} {Q : V → Mu → Loc → Prop} (hk : classOk W.K C = true) (hp : slotAt W.K C "Bytes" p 0 = true) {k : Bool} (q : Q (.bytes b) μ ℓ) :
    X1 W RV Φ ns gs μ ℓ (.tab C b pos) (fun x => getAttr x "Bytes" k) Q := by
  intro s F x G O I hx;cases hx with
  | tab hF hd ho hdo h0 h1 =>
  simp only [slotAt,Bool.and_eq_true,beq_iff_eq] at hp;simp only [classOk,Bool.and_eq_true] at hk;apply gG;intro nG
  obtain ⟨⟨⟨h3,ht⟩,h6⟩,_⟩ := hp;obtain ⟨⟨⟨e1,e2⟩,_⟩,_⟩ := hk;obtain ⟨h4,h5⟩ := md_special ht;apply nG;clear nG;have J : InstAt s.heap _ _ C (some emptyDict) := ⟨ho,rfl,rfl,hdo⟩
  exact .of <| get_bind (I.K G) J (plainGet_of e1).1 (findObj_data e2 h3 h4 h5) (plainGet_of e1).2
    (wpAny_call (slot_get (s := { s with toks := s.toks + 1 }) (I.tok1.K G) J h6 h0 (handed_on rfl (res_tok I .bytes q))))
theorem g_tabP {C p : Addr} {b : List UInt8} {pos : Int} {Q : V → Mu → Loc → Prop} (hk : classOk W.K C = true) (hp : slotAt W.K C "Pos" p 1 = true) {k : Bool} (q : Q (.int pos) μ ℓ) :
    X1 W RV Φ ns gs μ ℓ (.tab C b pos) (fun x => getAttr x "Pos" k) Q := by
  intro s F x G O I hx;cases hx with
  | tab hF hd ho hdo h0 h1 =>
  simp only [slotAt,Bool.and_eq_true,beq_iff_eq] at hp;simp only [classOk,Bool.and_eq_true] at hk;apply gG;intro nG
  obtain ⟨⟨⟨h3,ht⟩,h6⟩,_⟩ := hp;obtain ⟨⟨⟨e1,e2⟩,_⟩,_⟩ := hk;obtain ⟨h4,h5⟩ := md_special ht;apply nG;clear nG;have J : InstAt s.heap _ _ C (some emptyDict) := ⟨ho,rfl,rfl,hdo⟩
  exact .of <| get_bind (I.K G) J (plainGet_of e1).1 (findObj_data e2 h3 h4 h5) (plainGet_of e1).2
    (wpAny_call (slot_get (s := { s with toks := s.toks + 1 }) (I.tok1.K G) J h6 h1 (handed_on rfl (res_tok I .int q))))
theorem m_tab {C f : Addr} {b : List UInt8} {pos : Int} {name : Str} {pl : Sem Bool} {Q : Value × List V → Mu → Loc → Prop} (hk : classOk W.K C = true) (hp : methAt W.K C name f = true) (q : Q (.ref f,[.tab C b pos]) μ ℓ) :
    X1 W RM Φ ns gs μ ℓ (.tab C b pos) (fun v => getMethod v name pl) fun fl μ ℓ => Keeps W fl.1 ∧ Q fl μ ℓ := by
  have kp := meth_keeps hp;intro s F x G O I hx;have hx' := hx;cases hx with
  | tab hF hd ho hdo h0 h1 =>
  simp only [methAt,Bool.and_eq_true,beq_iff_eq] at hp;simp only [classOk,Bool.and_eq_true] at hk;apply gG;intro nG
  obtain ⟨⟨h2,h3⟩,h4⟩ := hp;obtain ⟨⟨⟨h1,_⟩,_⟩,_⟩ := hk;apply nG;clear nG;have J : InstAt s.heap _ _ C (some emptyDict) := ⟨ho,rfl,rfl,hdo⟩
  exact .of <| method_fn (I.K G) J (plainGet_of h1).1 (plainGet_of h1).2 h2 h3 (by rfl) (res_here I ⟨rfl,.cons hx' .nil⟩ ⟨kp,q⟩)
theorem xl_tab {C : Addr} {vs : List V} {t : List Value → Sem Value} {b : List UInt8} {pos : Int} {Q : V → Mu → Loc → Prop}
    (h : XL W RV Φ ns gs μ ℓ vs t fun v μ ℓ => ∃ a ν,v = .val (.ref a) ∧ μ = (a,Ce.inst C [some (.bytes b),some (.int pos)]) :: ν ∧ Q (.tab C b pos) ν ℓ) : XL W RV Φ ns gs μ ℓ vs t Q := by
  intro s F xs G O I hx;refine wN.mono (h s F xs G O I hx) (fun x s' z => ?_) fun u_ u_ z => z
  apply gG;intro nG
  obtain ⟨F',v,μ₁,ℓ',J,e,hv,a,ν,rfl,rfl,q⟩ := z;obtain ⟨_,rfl⟩ := hv.inv;obtain ⟨o,ho,hc⟩ := J.cell (.head _);obtain ⟨dx,sl,rfl,fd,hd,hs⟩ := hc;obtain ⟨J',e'⟩ := J.freeze;obtain ⟨x0,hx0,y0⟩ := hs 0;obtain ⟨x1,hx1,y1⟩ := hs 1;apply nG;clear nG;cases y0; cases y1;exact ⟨_,_,_,_,J',e.trans e',.tab (.inr rfl) (.inl fd) ho hd hx0 hx1,q⟩
end
end
section
open PySem PySem.W PyProof.Rows PySem.Calls Builtin
section
variable {prog : Program} {w : World} {A : Around} {E : Value → Shared → Prop} {s : Shared}
theorem bytes_len : typeLookup (.type "bytes") "__len__" = pure (some (.builtin "bytes.__len__")) := by rw [typeLookup_type,builtinLookup_eq_fast]; kernel_rfl
theorem collect_bytes {b : Array UInt8} {tb : Tok} {Q : List Value → Shared → Prop} (hh : A.handled = none)
    (hQ : ∀ s' acc,(∀ b o,s.heap.get? b = some o → s'.heap.get? b = some o) → s'.gens = s.gens → s'.drawn = s.drawn → s'.os = s.os → ItemsOf (fun i v => ∃ c u,b[i]? = some c ∧ v = .int (c.toNat : Int) u) acc b.size → Q acc.toList s') (hn : b.size ≤ 16777216) :
    wpAny (model prog w) A (collect (.bytes b tb)) Q E s := by
  have hn' : b.size ≤ sizeLine := by rw [sizeLine_eq]; exact q516 hn
  unfold collect;refine wpAny_bind (wpAny_runValue (codeAny_builtin F.entry_proto_collect ?_));rw [Around.under_plainId F.plain_proto_collect _];show wpAny _ A.in1 (newList [] >>= fun l => again (.builtin "list.__iadd__" ⟨[l,.bytes b tb],[]⟩)) _ _ s;refine wpAny_bind (wpAny_newObj_type ?_);refine wpAny_pure ⟨plainId_quiet F.plain_list_iadd _,codeAny_builtin F.entry_list_iadd ?_⟩;rw [Around.under_plainId F.plain_list_iadd _];show wpAny _ A.in1 (Builtin.List.listExtendWith (.ref s.heap.objs.size) (.bytes b tb) (.ref s.heap.objs.size)) _ _ _;unfold Builtin.List.listExtendWith;refine wpAny_bind (wpAny_typeOf (T := "bytes") (v := .bytes b tb) rfl ?_);rw [if_neg (show ¬ ((Builtin.List.listSameRef (.ref s.heap.objs.size) (.bytes b tb) || (Value.type "bytes" == Value.type "list") || (Value.type "bytes" == Value.type "tuple")) = true) by rw [show Builtin.List.listSameRef (.ref s.heap.objs.size) (.bytes b tb) = false from rfl]; decide)];refine wpAny_bind (KBw.pyIter_bytes ?_);refine wpAny_bind (wpAny_holding ?_);unfold Builtin.List.listLengthHint;refine wpAny_bind (wpAny_specialOf (T := "bytes") (v := .bytes b tb) rfl bytes_len ?_)
  wp_delta
  refine wpAny_bind (wpAny_isInstance (T := "bytes") (v := .bytes b tb) (b := true) rfl (by rw [isSubtype_type]; kernel_rfl) ?_);refine wpAny_pure ?_;rw [if_neg (by decide)];generalize hH : s.heap.push { cls := .type "list",data := .seq ([] : List Value).toArray } = H;have hHs : H.objs.size = s.heap.objs.size + 1 := by rw [← hH,Heap.size_push]
  have hSf : s.heap.objs.size ∉ [H.objs.size] := fun hm => by rw [List.mem_singleton.mp hm] at hHs; exact absurd hHs (Nat.ne_of_lt (Nat.lt_succ_self _))
  have hS : ∀ o,(H.push o).get? s.heap.objs.size = some { cls := .type "list",data := .seq ([] : List Value).toArray } := fun o => Heap.get?_push_of_some _ (hH ▸ Heap.get?_push_size _ rfl)
  refine wpAny_pure ⟨plainId_quiet F.plain_extend_loop _,codeAny_extend_loopS ((KBw.walks (A := A.in1) hh H.objs.size b tb).toS) hn' _ hSf _ b.size 0 _ _ _ rfl (Nat.zero_le _) ⟨_,Heap.get?_push_size _ rfl,rfl,rfl⟩ (hS _) (ItemsOf.nil _) fun s' acc' c' hm hS' hacc => ?_⟩;show wpAny _ A (load s.heap.objs.size >>= _) _ _ s';refine wpAny_bind (wpAny_load hS' ?_);refine wpAny_pure (hQ s' acc' (fun b ob e => hm.heap b ob (fun hb => ?_) (Heap.get?_push_of_some _ (hH ▸ Heap.get?_push_of_some _ e))) hm.gens hm.drawn hm.os hacc);have hlt := Heap.lt_size e;rcases List.mem_cons.mp hb with h | h
  · exact absurd hlt (h ▸ Nat.lt_irrefl _)
  · rw [List.mem_singleton.mp h,hHs] at hlt; exact absurd hlt (Nat.not_lt.mpr (Nat.le_succ _))
theorem meets_tuple_bytes (b : Array UInt8) (tb : Tok) (hz : b.size ≤ 16777216) :
    Meets (Builtin.«tuple.__new__» ⟨[.type "tuple",.bytes b tb],[]⟩)
      (fun A R s => A.handled = none ∧ ∀ (s' : Shared) (acc : Array Value),(∀ b o,s.heap.get? b = some o → s'.heap.get? b = some o) → s'.gens = s.gens → s'.drawn = s.drawn → s'.os = s.os → ItemsOf (fun i v => ∃ c u,b[i]? = some c ∧ v = .int (c.toNat : Int) u) acc b.size →
        R (.ok (.ret (.ref s'.heap.objs.size))) { s' with heap := s'.heap.push { cls := .type "tuple",data := .seq acc } }) :=
  .of_wp fun prog w A R s h => by
    obtain ⟨hh,h⟩ := h;have hsub := sub_tuple_self;have hinit := init_tuple_lookup;have hmh := madeHere_tuple;have hT : s.TypeIs (.bytes b tb) "bytes" := rfl;have hh1 : A.in1.handled = none := hh
    wp_walk using wpAny_typeOf hT,collect_bytes (b := b) (tb := tb) (hn := hz) hh1
    intro s' acc hk hg hd hos hacc;show wpAny _ _ (Builtin.Tuple.tupleExact acc.toList.toArray >>= fun v => ret v) _ _ _;unfold Builtin.Tuple.tupleExact;refine wpAny_bind (wpAny_newObj_type ?_ (show acc.toList.toArray.size ≤ sizeLine by simp only [Array.toArray_toList]; rw [hacc.1,sizeLine_eq]; exact q516 hz));refine wpAny_pure ⟨_,rfl,?_⟩;have e : acc.toList.toArray = acc := by simp
    rw [e];exact h s' acc hk hg hd hos hacc
theorem call_tuple_bytes {b : Array UInt8} {tb : Tok} {Q : Value → Shared → Prop} (hh : A.handled = none) (hz : b.size ≤ 16777216)
    (h : ∀ (h' : Heap) (tk : Nat) (acc : Array Value),(∀ b o,s.heap.get? b = some o → h'.get? b = some o) → ItemsOf (fun i v => ∃ c u,b[i]? = some c ∧ v = .int (c.toNat : Int) u) acc b.size → Q (.ref h'.objs.size) { s with heap := h'.push { cls := .type "tuple",data := .seq acc },toks := tk }) :
    wpAny (model prog w) A (call (.type "tuple") [.bytes b tb]) Q E s := by
  refine callType_new F.called_tuple (by decide) (F.typeCall_tuple_1 _) (F.newCall_tuple_1 _) (fun obj => F.args_object_init_2 obj _) F.entry_tuple_new
    (meets_tuple_bytes b tb hz) ⟨hh,fun s' acc hk hg hd hos hacc => ⟨⟨_,Heap.get?_push_size _ rfl,rfl⟩,?_⟩⟩
  apply gG;intro nG
  obtain ⟨h',g',d',tk',os'⟩ := s';apply nG;clear nG;have e1 : g' = s.gens := hg;have e2 : d' = s.drawn := hd;have e3 : os' = s.os := hos;subst e1 e2 e3;exact h h' tk' acc hk hacc
theorem by_loop {R : Result → Shared → Prop} {I S : Addr} {fp wr : List Addr} {St : Nat → Heap → Prop} {ks : List Int} (Wk : Walks prog w A.in1 I fp wr ks.length (fun i v => ∃ k t,ks[i]? = some k ∧ v = .int k t) St) (hr : ∀ n ∈ ks,0 ≤ n ∧ n < 256) (hz : ks.length ≤ 16777216) (hS : S ∉ fp) :
    ∀ (k i : Nat) (s : Shared),ks.length - i = k → i ≤ ks.length → St i s.heap → s.heap.get? S = some { cls := .type "bytearray",data := .bytearray (byteArr (ks.take i)) } →
      (∀ h' t k',(∀ b o,b ∉ wr → b ≠ S → s.heap.get? b = some o → h'.get? b = some o) → R (.ok (.ret (.bytes (byteArr ks) t))) { s with heap := h',toks := k' }) →
      codeAny (model prog w) A (.builtin "bytes.__new__.loop" ⟨[.type "bytes",.ref I,.ref S],[]⟩) R s := by
  have hSw : S ∉ wr := fun h => hS (Wk.sub S h)
  intro k;induction k with
  | zero =>
    intro i s hk hle hst hB hR;have hin : i = ks.length := by exact q526 hk hle
    subst hin;refine codeAny_builtin F.bm_entry_loop ?_;rw [Around.under_plainId F.bm_plain_loop _];show wpAny _ A.in1 (pyNext (.ref I) >>= _) _ _ s;refine wpAny_bind (Wk.done s _ _ hst fun h' tk he => ?_);have hB' : h'.get? S = some { cls := .type "bytearray",data := .bytearray (byteArr (ks.take ks.length)) } := he S _ hSw hB;refine wpAny_bind ?_;unfold Builtin.Bytes.payload Builtin.Bytes.payload?;refine wpAny_bind (wpAny_bind (wpAny_load hB' ?_));refine wpAny_pure (wpAny_pure ?_);rw [List.take_length];refine wpAny_bind (wpAny_mkBytes ?_ (by rw [byteArr_size,sizeLine_eq]; exact q516 hz));show wpAny _ _ (if (Value.type "bytes" == Value.type "bytes") = true then _ else _) _ _ _;refine bm_if_true (by decide) ?_
    first
      | exact wpAny_pure (hR h' _ _ fun b o hb u_ e => he b o hb e)
      | exact wpAny_bind (wpAny_pure (wpAny_pure (hR h' _ _ fun b o hb u_ e => he b o hb e)))
  | succ k ih =>
    intro i s hk hle hst hB hR;have hlt : i < ks.length := by (exact q527 hk)
    refine codeAny_builtin F.bm_entry_loop ?_;rw [Around.under_plainId F.bm_plain_loop _];show wpAny _ A.in1 (pyNext (.ref I) >>= _) _ _ s;refine wpAny_bind (Wk.item i s _ _ hlt hst fun v h' tk hv hst' he => ?_);apply gG;intro nG
    obtain ⟨n,t,hn,rfl⟩ := hv;obtain ⟨h0,h1⟩ := hr n (List.mem_of_getElem? hn);apply nG;clear nG;have hB' := he S _ hSw hB;refine wpAny_bind (wpAny_holding (wpAny_of_eq (rfl : asIndex (.int n t) = pure n) ?_));refine wpAny_bind (wpAny_letGo ?_);refine bm_if_false (by simp only [Bool.or_eq_false_iff,decide_eq_false_iff_not]; exact q528 h0 h1) ?_;refine wpAny_bind ?_;show wpAny _ _ (updateBytearray S (·.push n.toNat.toUInt8)) _ _ _;unfold updateBytearray;refine wpAny_bind (wpAny_load hB' ?_);show wpAny _ _ (update S (Obj.mapBytearray (·.push n.toNat.toUInt8)) >>= fun u_ => lookBehind S) _ _ _;refine wpAny_bind (wpAny_update hB' ?_);have hB₂ : (h'.update S (Obj.mapBytearray (·.push n.toNat.toUInt8))).get? S = some { cls := .type "bytearray",data := .bytearray (byteArr (ks.take (i + 1))) } := by
      rw [byteArr_take hn];exact Heap.get?_update_self (Obj.mapBytearray (·.push n.toNat.toUInt8)) hB' rfl
    refine wpAny_lookBehind hB₂ ?_ ?_
    · show (if (byteArr (ks.take (i + 1))).size > sizeLine then some "bytearray:memory" else none) = none;rw [if_neg];rw [byteArr_size,List.length_take,sizeLine_eq];exact q529 hz
    · refine wpAny_pure ⟨plainId_quiet F.bm_plain_loop _,ih (i + 1) _ (by exact q530 hk) hlt (Wk.frame _ _ _ hst' fun b hb o e => (Heap.get?_update_other _ _ (fun q => hS (by rw [q]; exact hb))).trans e) hB₂ fun h3 t' k' hk3 => ?_⟩;exact hR h3 t' k' fun b o hb hbS e => hk3 b o hb hbS ((Heap.get?_update_other _ _ (Ne.symm hbS)).trans (he b o hb e))
theorem tup_no_bytes : typeLookup (.type "tuple") "__bytes__" = pure none := by rw [typeLookup_type,builtinLookup_eq_fast]; kernel_rfl
theorem tup_no_index : typeLookup (.type "tuple") "__index__" = pure none := by rw [typeLookup_type,builtinLookup_eq_fast]; kernel_rfl
theorem tup_no_buffer : typeLookup (.type "tuple") "__buffer__" = pure none := by rw [typeLookup_type,builtinLookup_eq_fast]; kernel_rfl
theorem tup_len : typeLookup (.type "tuple") "__len__" = pure (some (.builtin "tuple.__len__")) := by rw [typeLookup_type,builtinLookup_eq_fast]; kernel_rfl
theorem tup_split : splitId "tuple.__len__" = some ("tuple","__len__") := by decide +kernel
theorem by_new_tup {l : Addr} {vs : Array Value} {ks : List Int} {Q : Value → Shared → Prop} (hh : A.handled = none) (hl : s.heap.IsTuple l vs) (hi : ∀ (i : Nat) (v : Value),vs[i]? = some v → ∃ k t,ks[i]? = some k ∧ v = .int k t) (hle : vs.size = ks.length) (hr : ∀ n ∈ ks,0 ≤ n ∧ n < 256) (hz : ks.length ≤ 16777216)
    (hQ : ∀ h' t k,(∀ b o,s.heap.get? b = some o → h'.get? b = some o) → Q (.bytes (byteArr ks) t) { s with heap := h',toks := k }) :
    codeAny (model prog w) A (.call (.builtin "bytes.__new__") ⟨[.type "bytes",.ref l],[]⟩) (wants Q E) s := by
  refine codeAny_of_tree ?_;show wpAny _ A.in1 (do checkBuiltinCall "bytes.__new__" ⟨[.type "bytes",.ref l],[]⟩; again (.builtin "bytes.__new__" ⟨[.type "bytes",.ref l],[]⟩)) _ _ s;refine wpAny_bind (wpAny_of_eq (F.bm_newCall _) (wpAny_pure ⟨plainId_quiet F.bm_plain _,codeAny_builtin F.bm_entry ?_⟩));rw [Around.under_plainId F.bm_plain _];have hT : s.TypeIs (.ref l) "tuple" := hl.typeIs;apply gG;intro nG
  obtain ⟨ol,hol,hoc,nl,hod⟩ := id hl;apply nG;clear nG;unfold Builtin.«bytes.__new__»;refine wpAny_bind (wpAny_of_eq (a := true) rfl ?_);refine bm_if_false rfl ?_;refine wpAny_bind (wpAny_of_eq F.bm_sub ?_);refine bm_if_false rfl ?_;refine wpAny_bind (wpAny_of_eq (F.bm_bind _) ?_);refine wpAny_bind (wpAny_of_eq (a := ()) rfl ?_);refine wpAny_bind (wpAny_of_eq (a := ()) rfl ?_);refine bm_if_false rfl ?_;refine wpAny_bind (wpAny_specialOf hT tup_no_bytes ?_);refine wpAny_bind (wpAny_bind ?_);show wpAny _ _ (load l >>= _) _ _ _;refine wpAny_bind (wpAny_load hol ?_);rw [hod];refine wpAny_pure (wpAny_pure ?_);refine bm_if_false rfl ?_;refine wpAny_bind (wpAny_specialOf hT tup_no_index ?_);refine bm_if_true rfl ?_
  first
    | show wpAny _ _ (Builtin.Bytes.buffer? "bytes.__new__" (.ref l) true >>= _) _ _ _
    | (refine wpAny_bind ?_; show wpAny _ _ (Builtin.Bytes.buffer? "bytes.__new__" (.ref l) true >>= _) _ _ _)
  refine wpAny_bind ?_;unfold Builtin.Bytes.buffer?;refine wpAny_bind (wpAny_specialOf hT tup_no_buffer ?_);refine wpAny_bind (wpAny_specialOf hT tup_no_buffer ?_);refine wpAny_pure ?_;refine wpAny_bind (wpAny_tryCatch (wpAny_pyIter_tuple hl ?_));have hl₁ := hl.push { cls := .type "tuple_iterator",data := .fields #[.ref l,.int 0 0] };have hT₁ : ({ s with heap := s.heap.push { cls := .type "tuple_iterator",data := .fields #[.ref l,.int 0 0] } } : Shared).TypeIs (.ref l) "tuple" := Heap.IsTuple.typeIs (s := { s with heap := s.heap.push { cls := .type "tuple_iterator",data := .fields #[.ref l,.int 0 0] } }) hl₁;refine wpAny_bind (wpAny_holding ?_);unfold Builtin.Bytes.lengthHint;refine wpAny_bind (wpAny_specialOf hT₁ tup_len ?_);dsimp only;rw [tup_split];dsimp only;refine wpAny_bind (wpAny_isInstance (b := true) hT₁ (by rw [isSubtype_type]; kernel_rfl) ?_);refine bm_if_false rfl ?_;refine bm_if_true (by decide +kernel) ?_;refine wpAny_pure ?_;refine wpAny_bind ?_;unfold Builtin.Bytes.newBytearray;refine wpAny_newObj_type ?_ (Nat.zero_le _);have hlt : l < s.heap.objs.size := Heap.lt_size hol;have hsz : (s.heap.push { cls := .type "tuple_iterator",data := .fields #[.ref l,.int 0 0] }).objs.size = s.heap.objs.size + 1 := Heap.size_push _ _;have Wk : Walks prog w A.in1 s.heap.objs.size [s.heap.objs.size,l] [s.heap.objs.size] ks.length (fun i v => ∃ k t,ks[i]? = some k ∧ v = .int k t) (fun i h => h.IsTupleIter s.heap.objs.size l i ∧ h.IsTuple l vs) := by
    have W0 := Walks.tuple (prog := prog) (w := w) (A := A.in1) hh s.heap.objs.size l (Nat.ne_of_lt hlt) vs;rw [hle] at W0;exact ⟨W0.sub,W0.frame,fun i s Q E h st hQ => W0.item i s Q E h st fun v h' tk hv => hQ v h' tk (hi i v hv),W0.done,W0.self⟩
  have main := by_loop (R := wants Q E) (S := (s.heap.push { cls := .type "tuple_iterator",data := .fields #[.ref l,.int 0 0] }).objs.size) Wk hr hz (fun h => by
      rw [hsz] at h;rcases List.mem_cons.mp h with h | h
      · exact absurd h (Nat.succ_ne_self _)
      · have h := List.mem_singleton.mp h;exact absurd hlt (by rw [← h]; exact Nat.not_lt.mpr (Nat.le_succ _)))
    ks.length 0 { s with heap := (s.heap.push { cls := .type "tuple_iterator",data := .fields #[.ref l,.int 0 0] }).push { cls := .type "bytearray",data := .bytearray #[] } } rfl (Nat.zero_le _)
    ⟨⟨_,Heap.get?_push_of_some _ (Heap.get?_push_size _ rfl),rfl,rfl⟩,hl₁.push _⟩ (Heap.get?_push_size _ rfl)
    fun h' t k hk => hQ h' t k fun b o e => hk b o (fun h => by rw [List.mem_singleton.mp h] at e; exact absurd (Heap.lt_size e) (Nat.lt_irrefl _)) (fun h => by have q := Heap.lt_size e; rw [h,hsz] at q; exact absurd q (Nat.not_lt.mpr (Nat.le_succ _))) (Heap.get?_push_of_some _ (Heap.get?_push_of_some _ e))
  first
    | exact wpAny_pure ⟨plainId_quiet F.bm_plain_loop _,main⟩
    | exact wpAny_pure (wpAny_pure ⟨plainId_quiet F.bm_plain_loop _,main⟩)
theorem call_bytes_tup {l : Addr} {vs : Array Value} {ks : List Int} {Q : Value → Shared → Prop} (hh : A.handled = none) (hl : s.heap.IsTuple l vs) (hi : ∀ (i : Nat) (v : Value),vs[i]? = some v → ∃ k t,ks[i]? = some k ∧ v = .int k t) (hle : vs.size = ks.length) (hr : ∀ n ∈ ks,0 ≤ n ∧ n < 256) (hz : ks.length ≤ 16777216)
    (hQ : ∀ h' t k,(∀ b o,s.heap.get? b = some o → h'.get? b = some o) → Q (.bytes (byteArr ks) t) { s with heap := h',toks := k }) : wpAny (model prog w) A (call (.type "bytes") [.ref l]) Q E s := by
  refine callType_codes (Q₁ := fun obj s₁ => s₁.TypeIs obj "bytes" ∧ Q obj s₁) F.bm_called (F.bm_typeCall _) F.entry_object_init
    (by_new_tup hh hl hi hle hr hz fun h' t k hk => ⟨PySem.W.typeIs_bytes _ _ _,hQ h' t k hk⟩) fun obj s₁ h₁ => ?_
  exact ⟨h₁.1,F.args_object_init_2 obj _,object_init_meets F.bm_called.init.lookup F.bm_called.made (by decide) prog w A.in1 _ s₁ ⟨h₁.1,rfl,h₁.2⟩⟩
end
end
section
open PySem PySem.W PyProof.Rows PySem.Calls Builtin
section
variable {W : Wd} {Φ : Fx} {ns : List Str} {gs : List (Str × Value)} {μ μ' : Mu} {ℓ : Loc} {F : Addr → Prop} {s : Shared}
theorem isL_of_get {h : Heap} {F : Addr → Prop} {l : List V} {vs : List Value} (e : vs.length = l.length) (hx : ∀ (i : Nat) (v : V),l[i]? = some v → ∃ x,vs[i]? = some x ∧ Is h F v x) : IsL h F l vs := by
  induction l generalizing vs with
  | nil => rw [List.eq_nil_of_length_eq_zero e]; exact .nil
  | cons v l ih =>
    cases vs with
    | nil => cases e
    | cons x vs => exact .cons ((hx 0 v rfl).elim fun y w => Option.some.inj w.1 ▸ w.2) (ih (Nat.succ.inj e) fun i w hw => hx (i + 1) w hw)
theorem l_tuple_bytes {b : List UInt8} {Q : V → Mu → Loc → Prop} (hz : b.length ≤ 1000000) (q : Q (.tup (b.map fun c => V.int (c.toNat : Nat))) μ ℓ) : XL W RV Φ ns gs μ ℓ [.bytes b] (fun xs => call (.type "tuple") xs) Q := by
  intro s F xs G O I hx;apply gG;intro nG
  obtain ⟨x,rfl,ha⟩ := isL1 hx;apply nG;clear nG;cases ha;refine .of ?_;refine call_tuple_bytes O.room.handled (by rw [List.size_toArray]; (exact Nat.le_trans (by assumption) (by decide))) fun h' tk acc hk hacc => ?_
  obtain ⟨I',ex⟩ := I.more (k := tk) (h' := h') hk;have hL : IsL h' F (b.map fun c => V.int (c.toNat : Nat)) acc.toList := isL_of_get (by rw [Array.length_toList,hacc.1,List.size_toArray,List.length_map]) fun i v hv => by
    rw [List.getElem?_map] at hv;cases hb : b[i]? with
    | none => rw [hb] at hv; cases hv
    | some c =>
      rw [hb] at hv; cases hv;have hlt : i < acc.toList.length := by rw [Array.length_toList,hacc.1,List.size_toArray]; exact (List.getElem?_eq_some_iff.mp hb).1
      apply gG;intro nG
      obtain ⟨c',u,hc',e⟩ := hacc.2 i acc.toList[i] (by rw [← Array.getElem?_toList]; exact List.getElem?_eq_getElem hlt);apply nG;clear nG;rw [List.getElem?_toArray,hb] at hc';cases hc';exact ⟨_,List.getElem?_eq_getElem hlt,by rw [e]; exact .int⟩
  obtain ⟨I2,e2⟩ := I'.born (o := { cls := .type "tuple",data := .seq acc }) (k := tk) rfl;refine ⟨_,_,_,_,I2,ex.trans e2,.tup (vs := acc.toList) (n := 0) (.inr rfl) (Heap.get?_push_size _ rfl) rfl (by simp) (hL.ext e2),q⟩
theorem byteArr_nat {b : List UInt8} : byteArr (b.map fun c => ((c.toNat : Nat) : Int)) = b.toArray := by
  unfold byteArr;rw [List.map_map]
  congr 1
  induction b with
  | nil => rfl
  | cons c b ih => rw [List.map_cons,ih]; simp
theorem l_bytes_tup {b : List UInt8} {Q : V → Mu → Loc → Prop} (hz : b.length ≤ 1000000) (q : Q (.bytes b) μ ℓ) : XL W RV Φ ns gs μ ℓ [.tup (b.map fun c => V.int (c.toNat : Nat))] (fun xs => call (.type "bytes") xs) Q := by
  intro s F xs G O I hx;apply gG;intro nG
  obtain ⟨x,rfl,ha⟩ := isL1 hx;apply nG;clear nG;cases ha with
  | @tup _ a vs n o hF ho hc hd hl =>
  refine .of ?_;have hlen : vs.length = b.length := by rw [hl.length,List.length_map]
  refine call_bytes_tup (ks := b.map fun c => ((c.toNat : Nat) : Int)) O.room.handled ⟨_,ho,hc,_,hd⟩ (fun i v hv => ?_) (by rw [List.size_toArray,hlen,List.length_map]) (fun n hn => ?_) (by rw [List.length_map]; (exact q512 hz)) fun h' t k hk => ?_
  · rw [List.getElem?_toArray] at hv;have hlt : i < b.length := by rw [← hlen]; exact (List.getElem?_eq_some_iff.mp hv).1
    apply gG;intro nG
    obtain ⟨x,hx,hi⟩ := hl.at (i := i) (v := V.int (b[i].toNat : Nat)) (by rw [List.getElem?_map,List.getElem?_eq_getElem hlt]; rfl);apply nG;clear nG;rw [hx] at hv; cases hv;obtain ⟨_,rfl⟩ := hi.inv;exact ⟨_,_,by rw [List.getElem?_map,List.getElem?_eq_getElem hlt]; rfl,rfl⟩
  · apply gG;intro nG
    obtain ⟨c,_,rfl⟩ := List.mem_map.mp hn;apply nG;clear nG;have := c.toNat_lt; exact q531 this
  · obtain ⟨I',ex⟩ := I.more (k := k) (h' := h') hk;rw [byteArr_nat];exact ⟨F,_,_,_,I',ex,.bytes,q⟩
theorem x_Rev {st : Expr} {pos : Pos} {Q : V → Mu → Loc → Prop} (h : X W RV Φ ns gs μ ℓ (eval st Φ.env) fun v μ ℓ => v = .int (-1) ∧ Q .rev μ ℓ) :
    X W RV Φ ns gs μ ℓ (eval (.Slice none none (some st) pos) Φ.env) Q := by
  intro s F G O I;show wN _ _ (valueOrNone (evalOpt none Φ.env) >>= fun l => holding [l] (valueOrNone (evalOpt none Φ.env)) >>= fun u => holding [l,u] (valueOrNone (evalOpt (some st) Φ.env)) >>= fun st => newFields "slice" [l,u,st]) _ _ _;refine .bind (.pure (.bind (.holding (.pure (.bind (.holding ?_))))));refine wN.mono (h s F G O I) (fun x s' z => ?_) fun u_ u_ z => z
  apply gG;intro nG
  obtain ⟨F',v,μ₁,ℓ',J,e,hv,rfl,q⟩ := z;obtain ⟨_,rfl⟩ := hv.inv;apply nG;clear nG;refine .of (wpAny_mono (Q := Res W RV Φ ns F' s'.heap Q) (E := fun u_ u_ => False) ?_ (fun u_ u_ z => z.ext e) fun u_ u_ z => z);unfold newFields;refine wpAny_newObj_type (res_born (k := s'.toks) J rfl (.rev (.inr rfl) (Heap.get?_push_size _ rfl)) q)
theorem s_rev {v : V} {xs : List V} {Q : V → Mu → Loc → Prop} (hv : ListV μ v xs) (hz : xs.length ≤ 1000000)
    (q : ∀ a',Q (.val (.ref a')) ((a',.list xs.reverse) :: μ) ℓ) : X2 W RV Φ ns gs μ ℓ v .rev getItem Q := by
  intro s F x y G O I hx hy;apply gG;intro nG
  obtain ⟨a,vs,rfl,ho,hL⟩ := hv.is I hx;apply nG;clear nG;cases hy with
  | rev hF hp =>
    have e : vs.size = xs.length := by rw [← hL.length,Array.length_toList]
    refine .of (wpAny_getItem_list_slice ho ⟨_,hp,rfl,rfl⟩ .none .none (.int _ _) (by decide) ?_ (by rw [e,sizeLine_eq]; (exact Nat.le_trans (by assumption) (by decide))));rw [krv_pick];exact res_made (k := s.toks) I rfl (c := .list _) ⟨_,_,rfl,by simpa using hL.reverse⟩ .val (q _)
theorem xa_cons {t : Value → Sem Unit} {ts : List (Value → Sem Unit)} {v : V} {l : List V} {Q : Unit → Mu → Loc → Prop} (h : X1 W RU Φ ns gs μ ℓ v t fun u_ μ ℓ => XA W Φ ns gs μ ℓ l ts Q) : XA W Φ ns gs μ ℓ (v :: l) (t :: ts) Q := by
  intro s F xs G O I hx;cases hx with
  | cons hv hl =>
    show wN _ _ (holding _ (t _) >>= fun u_ => assignInOrder ts _) _ _ _;refine .bind (.holding ?_);refine stepQ (h s F _ G O I hv) fun s₁ F₁ x μ₁ ℓ₁ b i₁ e₁ u_ q₁ => ?_
    exact wN.mono (q₁ s₁ F₁ _ G O i₁ (hl.ext e₁)) (fun u_ u_ z => z.ext e₁) fun u_ u_ z => z
theorem o_add_str {x y : Str} {Q : V → Mu → Loc → Prop} (hz : x.length + y.length ≤ 1000) (q : Q (.str (x ++ y)) μ ℓ) : X2 W RV Φ ns gs μ ℓ (.str x) (.str y) (binaryOp .Add) Q := by
  intro s F a b G O I hx hy;obtain ⟨_,rfl⟩ := hx.inv; obtain ⟨_,rfl⟩ := hy.inv;refine .of (PyProof.Rows.add_str (fun t' k => ?_) (by rw [sizeLine_eq]; (exact Nat.le_trans (by assumption) (by decide))));exact ⟨F,_,_,_,I.tok,.refl,.str,q⟩
end
end
section
open PySem PySem.W PyProof.Rows PySem.Calls
section
variable {W : Wd} {Φ : Fx} {ns : List Str} {gs : List (Str × Value)} {μ μ' : Mu} {ℓ ℓ' : Loc}
theorem vfe {target iter : Expr} {body : List Stmt} {pos : Pos} {Q : Fl → Mu → Loc → Prop}
    (h : vg W Φ ns gs 99 (.e iter fun o μ ℓ => ∃ (l : List V) (J : Nat → Mu → Loc → Prop),Iters W Φ ns gs o l μ ℓ ∧ J 0 μ ℓ ∧
      (∀ i v I (ob : Ce) μ ℓ,l[i]? = some v → J i μ ℓ → X1 W RU Φ ns gs ((I,ob) :: μ) ℓ v (assign target Φ.env) fun u_ => vg W Φ ns gs 99 (.s body (lpF J i (I,ob) Q))) ∧
      (∀ μ ℓ,J l.length μ ℓ → Q .next μ ℓ)) μ ℓ)
    (hs : ∀ x,foldedSetIterable iter Φ.env x = pure x := by intro _; rfl) (ht : ∀ it v,letOwnedTupleGo target it v = pure () := by intro _ _; rfl) : X W RF Φ ns gs μ ℓ (exec (.For target iter body [] pos) Φ.env) Q :=
  xs_forE (x_mono (ve h) fun o μ ℓ ⟨l,J,a,b,turn,done⟩ => ⟨l,J,a.J b,fun i v I ob μ ℓ hv hj => x1_mono (turn i v I ob μ ℓ hv hj) fun u_ μ ℓ hb => vs hb,done⟩) hs ht
theorem an {x : Str} {pos : Pos} {v : V} {Q : Unit → Mu → Loc → Prop} (i : Nat) (q : Q () μ (ℓ.set i (some v))) (h1 : ns[i]? = some x := by rfl) (h2 : decide (i < ℓ.length) = true := by rfl) : X1 W RU Φ ns gs μ ℓ v (assign (.Name x pos) Φ.env) Q := a_name (lset_of h1 h2) q
theorem nf {x : Str} {pos : Pos} {a : Addr} {l : List V} {Q : V → Mu → Loc → Prop} (i : Nat) {μ' : Mu} (h : Take (a,Ce.list l) μ μ') (q : Q (.lst l) μ' ℓ) (h1 : ns[i]? = some x := by rfl) (h2 : ℓ[i]? = some (some (.val (.ref a))) := by rfl) : X W RV Φ ns gs μ ℓ (eval (.Name x pos) Φ.env) Q := x_froz (lget_of h1 h2) h.perm q
end
end
section
open PySem PySem.W PyProof.Rows PySem.Calls Builtin
section
variable {prog : Program} {w : World} {A : Around} {s : Shared}
structure CompOk (prog : Program) (w : World) (e target iter : Expr) (tail : Value → Value → Env → Sem Fin) : Prop where
  cl : ∃ ifs,clausesOf e = [⟨target,iter,ifs,0⟩]
  turn : ∀ it acc env,compTurn e 0 it acc env = (standAt iter.pos >>= fun u_ => pyNext it >>= fun r => match r with
      | none => pure (.done .next)
      | some v => letOwnedTupleGo target it v >>= fun u_ => assign target env v >>= fun u_ => tail it acc env)
  den1 : ∀ it acc env,(model prog w).den (.compLoop e 0 it acc env) = (compTurn e 0 it acc env).onRaise (fun x => do noteFrame x env; theTreesLotGoes x)
  den0 : ∀ it acc env,(model prog w).den (.compStart e 0 it acc env) = (PySem.compStart e 0 it acc env).onRaise (fun x => do noteFrame x env; standAt theWindowsPlace)
  und1 : ∀ A it acc env,Around.under A (.compLoop e 0 it acc env) = A
  und0 : ∀ A it acc env,Around.under A (.compStart e 0 it acc env) = A
  calm1 : ∀ it acc env,calm (.compLoop e 0 it acc env) = true
  calm0 : ∀ it acc env,calm (.compStart e 0 it acc env) = true
  quiet : ∀ it acc env,(Code.compLoop e 0 it acc env).quiet = true
  go : ∀ it v,letOwnedTupleGo target it v = pure ()
theorem cN.compLoop {e target iter : Expr} {it acc : Value} {env : Env} {tail : Value → Value → Env → Sem Fin} {R : Result → Shared → Prop} (K : CompOk prog w e target iter tail) (I : Nat → Shared → Prop)
    (turn : ∀ n s,I n s → wN (model prog w) A (pyNext it) (fun r s₁ => match r with
      | none => R (.ok .next) s₁
      | some v => wN (model prog w) A (assign target env v) (fun u_ s₂ => wN (model prog w) A (tail it acc env) (fun f s₃ => f = Fin.again (.compLoop e 0 it acc env) ∧ ∃ m,m < n ∧ I m s₃) (fun u_ u_ => False) s₂) (fun u_ u_ => False) s₁) (fun u_ u_ => False) s)
    (n : Nat) (h : I n s) : cN (model prog w) A (.compLoop e 0 it acc env) R s := by
  induction n using Nat.strongRecOn generalizing s with
  | ind n ih =>
    refine cN.tree (K.calm1 _ _ _) ?_;rw [K.den1,K.und1];refine .onRaise ?_;rw [K.turn];refine .stand (.bind (wN.mono (turn n s h) (fun r s₁ h₁ => ?_) fun u_ u_ z => z.elim));cases r with
    | none => exact .pure h₁
    | some v =>
      refine .bind (.of (wpAny_of_eq (K.go it v) ?_));refine .bind (wN.mono h₁ (fun u_ s₂ h₂ => wN.mono h₂ (fun f s₃ h₃ => ?_) fun u_ u_ z => z.elim) fun u_ u_ z => z.elim);apply gG;intro nG
      obtain ⟨rfl,m,hm,hI⟩ := h₃;apply nG;clear nG;exact ⟨K.quiet _ _ _,ih m hm hI⟩
theorem cN.compStart {e target iter : Expr} {it acc : Value} {env : Env} {tail : Value → Value → Env → Sem Fin} {R : Result → Shared → Prop} (K : CompOk prog w e target iter tail)
    (h : cN (model prog w) A (.compLoop e 0 it acc env) R s) (hself : wpAny (model prog w) A (pyIter it) (fun r s' => r = it ∧ s' = s) (fun u_ u_ => False) s) :
    cN (model prog w) A (.compStart e 0 it acc env) R s := by
  refine cN.tree (K.calm0 _ _ _) ?_;rw [K.den0,K.und0];refine .onRaise ?_;unfold PySem.compStart;obtain ⟨ifs,hcl⟩ := K.cl;rw [hcl];have e0 : ∀ l,((⟨target,iter,ifs,0⟩ :: l : List Comprehension)[0]?).elim false (·.is_async != 0) = false := fun l => rfl
  rw [e0,if_neg Bool.false_ne_true];refine .bind (.of (wpAny_askSetting ?_))
  split
  · first
      | exact .bind (.pure (.pure ⟨K.quiet _ _ _,h⟩))
      | exact .pure ⟨K.quiet _ _ _,h⟩
  · refine .bind (.of (wpAny_rule ?_));refine .stand (.bind (wN.mono (.of hself) (fun r s' z => ?_) fun u_ u_ z => z.elim));obtain ⟨rfl,rfl⟩ := z;exact .pure ⟨K.quiet _ _ _,h⟩
noncomputable def cmap (scope : Scope) (env : Env) : List (Str × NameKind) := scope.names.map fun (n,k) => if (k == .free && env.scope.kind == .function && env.kindOf n == some .cell) = true then (n,NameKind.cell) else (n,k)
noncomputable def cenvOf (scope : Scope) (env : Env) (clo : List (Str × Addr)) (L : Addr) : Env :=
  { scope := { scope with names := cmap scope env },locals := L,globals := env.globals,cells := clo,qual := env.qual,func := none,code := env.code,frame := env.frame,builtins := env.builtins }
noncomputable def CRun (prog : Program) (w : World) (A : Around) (e : Expr) (scope : Scope) (env : Env) (clo : List (Str × Addr)) (newAcc first : Sem Value) (R : Value → Shared → Shared → Prop) (s : Shared) : Prop :=
  wN (model prog w) A first (fun x s₁ => wN (model prog w) A (pyIter x) (fun it s₂ => wN (model prog w) A newAcc (fun acc s₃ =>
      ∀ h',h'.Ns s₃.heap.objs.size (fun u_ => none) → (∀ b o,s₃.heap.get? b = some o → h'.get? b = some o) →
        cN (model prog w) A (.compStart e 0 it acc (cenvOf scope env clo s₃.heap.objs.size)) (fun r s' => ∃ f,r = .ok f ∧ R acc s₃ s') { s₃ with heap := h' })
      (fun u_ u_ => False) s₂) (fun u_ u_ => False) s₁) (fun u_ u_ => False) s
theorem wN_comprehension {e target iter : Expr} {ifs : List Expr} {scope : Scope} {env : Env} {pos : Pos} {clo : List (Str × Addr)} {newAcc first : Sem Value} {Q : Value → Shared → Prop}
    (hcl : clausesOf e = [⟨target,iter,ifs,0⟩]) (hs : ∀ x,foldedSetIterable iter env x = pure x) (hclo : closureFor scope env = pure clo) (hnc : ∀ x ∈ scope.names,x.2 ≠ .cell) (hkind : scope.kind = .function)
    (hloc : ∀ x ∈ scope.names,x.2 = .local → (cmap scope env).lookup x.1 = some .local)
    (h : CRun prog w A e scope env clo newAcc first (fun acc s₃ s' => (∃ m,s'.heap.Ns s₃.heap.objs.size m) ∧ ∀ h'',Heap.SameBut s₃.heap.objs.size s'.heap h'' → Q acc { s' with heap := h'' }) s) :
    wN (model prog w) A (comprehension e scope env pos newAcc false first) Q (fun u_ u_ => False) s := by
  unfold comprehension;rw [hclo,hcl];refine .bind (wN.mono h (fun x s₁ h₁ => ?_) fun u_ u_ z => z.elim);refine .stand (.bind (.of (wpAny_of_eq (hs x) ?_)));refine .bind (.holding (wN.mono h₁ (fun it s₂ h₂ => ?_) fun u_ u_ z => z.elim));rw [if_neg (show ¬ ((none : Option (Value → Sem Unit)).isSome = true) from Bool.false_ne_true)];refine .bind (wN.mono h₂ (fun acc s₃ h₃ => ?_) fun u_ u_ z => z.elim);refine .bind (.pure (.bind (.of (wpAny_newFunctionEnv hnc (fun u_ hx => nomatch hx) (fun h' hns hsb => ?_) hkind))));have hkeep : ∀ b o,s₃.heap.get? b = some o → h'.get? b = some o := fun b o e => hsb.extBut b o (Nat.ne_of_lt (Heap.lt_size e)) (Heap.get?_push_of_some _ e)
  have hc := h₃ h' hns hkeep;dsimp only;have hv : ∀ x ∈ (scope.names.filter fun x => (x.2 == .local || x.2 == .cell) && x.1 != (".0" : Str)).reverse,x.2 = .local →
      Env.kindOf (cenvOf scope env clo s₃.heap.objs.size) x.1 = some .local := fun x hx hl => hloc x (List.mem_filter.mp (List.mem_reverse.mp hx)).1 hl
  refine .holding (.bind (.attempt (.holding (.run (cN.mono hc fun r s' hr => ?_)))));apply gG;intro nG
  obtain ⟨f,rfl,⟨m,hm⟩,hr⟩ := hr;apply nG;clear nG;refine .bind (.holding (.of (wpAny_comp_letGo (cenv := cenvOf scope env clo s₃.heap.objs.size) hkind _ s' m hv hm fun h' m' u_ hs' => ?_)));exact .pure (hr h' hs')
theorem wN_comprehensionU {u : Value → Sem Unit} {e target iter : Expr} {ifs : List Expr} {scope : Scope} {env : Env} {pos : Pos} {clo : List (Str × Addr)} {newAcc first : Sem Value} {Q : Value → Shared → Prop}
    (hcl : clausesOf e = [⟨target,iter,ifs,0⟩]) (hs : ∀ x,foldedSetIterable iter env x = pure x) (hclo : closureFor scope env = pure clo) (hnc : ∀ x ∈ scope.names,x.2 ≠ .cell) (hkind : scope.kind = .function)
    (hloc : ∀ x ∈ scope.names,x.2 = .local → (cmap scope env).lookup x.1 = some .local)
    (h : CRun prog w A e scope env clo newAcc first (fun acc s₃ s' => wN (model prog w) A (u acc) (fun u_ s'' => (∃ m,s''.heap.Ns s₃.heap.objs.size m) ∧ ∀ h'',Heap.SameBut s₃.heap.objs.size s''.heap h'' → Q .none { s'' with heap := h'' }) (fun u_ u_ => False) s') s) :
    wN (model prog w) A (comprehension e scope env pos newAcc false first (some u)) Q (fun u_ u_ => False) s := by
  unfold comprehension;rw [hclo,hcl];refine .bind (wN.mono h (fun x s₁ h₁ => ?_) fun u_ u_ z => z.elim);refine .stand (.bind (.of (wpAny_of_eq (hs x) ?_)));refine .bind (.holding (wN.mono h₁ (fun it s₂ h₂ => ?_) fun u_ u_ z => z.elim));rw [if_pos (show ((some u : Option (Value → Sem Unit)).isSome = true) from rfl)];refine .stand ?_;refine .bind (wN.mono h₂ (fun acc s₃ h₃ => ?_) fun u_ u_ z => z.elim);refine .bind (.pure (.bind (.of (wpAny_newFunctionEnv hnc (fun u_ hx => nomatch hx) (fun h' hns hsb => ?_) hkind))));have hkeep : ∀ b o,s₃.heap.get? b = some o → h'.get? b = some o := fun b o e => hsb.extBut b o (Nat.ne_of_lt (Heap.lt_size e)) (Heap.get?_push_of_some _ e)
  have hc := h₃ h' hns hkeep;dsimp only;have hv : ∀ x ∈ (scope.names.filter fun x => (x.2 == .local || x.2 == .cell) && x.1 != (".0" : Str)).reverse,x.2 = .local →
      Env.kindOf (cenvOf scope env clo s₃.heap.objs.size) x.1 = some .local := fun x hx hl => hloc x (List.mem_filter.mp (List.mem_reverse.mp hx)).1 hl
  refine .holding (.bind (.attempt (.holding (.run (cN.mono hc fun r s' hr => ?_)))));have hv' : ∀ x ∈ (scope.names.filter fun x => (x.2 == .local || x.2 == .cell) && x.1 != (".0" : Str)).reverse.drop 1 ++ (scope.names.filter fun x => (x.2 == .local || x.2 == .cell) && x.1 != (".0" : Str)).reverse.take 1,x.2 = .local →
      Env.kindOf (cenvOf scope env clo s₃.heap.objs.size) x.1 = some .local := fun x hx hl => (List.mem_append.mp hx).elim (fun h1 => hv x (List.mem_of_mem_drop h1) hl) fun h1 => hv x (List.mem_of_mem_take h1) hl
  apply gG;intro nG
  obtain ⟨f,rfl,hr⟩ := hr;apply nG;clear nG;refine .bind (.of (wpAny_rule ?_));refine .bind (.holding (wN.mono hr (fun u_ s'' z => ?_) fun u_ u_ z => z));apply gG;intro nG
  obtain ⟨⟨m,hm⟩,hr⟩ := z;apply nG;clear nG;refine .bind (.of (wpAny_comp_letGo (cenv := cenvOf scope env clo s₃.heap.objs.size) hkind _ s'' m hv' hm fun h' m' u_ hs' => ?_));exact .pure (hr h' hs')
end
section
variable {W : Wd} {Φ : Fx} {ns : List Str} {gs : List (Str × Value)} {μ μ' : Mu} {ℓ : Loc} {F : Addr → Prop} {s : Shared}
structure NextC (W : Wd) (F₀ : Addr → Prop) (h₀ : Heap) (I : Addr) (ob : Nat → Ce) (need : Mu) (l : List V) : Prop where
  next : ∀ (i : Nat) (Φ : Fx) (ns : List Str) (F : Addr → Prop) (μ : Mu) (ℓ : Loc) (s : Shared),Gd W → Φ.A.handled = none → (∀ p ∈ need,p ∈ μ) → i ≤ l.length → In W Φ ns F ((I,ob i) :: μ) ℓ s → Ext F₀ h₀ F s.heap →
    wpAny W.M Φ.A (pyNext (.ref I)) (fun r s' => match l[i]? with
      | some v => ∃ x F',r = some x ∧ In W Φ ns F' ((I,ob (i + 1)) :: μ) ℓ s' ∧ Ext F s.heap F' s'.heap ∧ Is s'.heap F' v x
      | none => r = none ∧ ∃ F',In W Φ ns F' μ ℓ s' ∧ Ext F s.heap F' s'.heap) (fun u_ u_ => False) s
  self : ∀ (Φ : Fx) (ns : List Str) (F : Addr → Prop) (μ : Mu) (ℓ : Loc) (s : Shared),In W Φ ns F ((I,ob 0) :: μ) ℓ s → wpAny W.M Φ.A (pyIter (.ref I)) (fun r s' => r = .ref I ∧ s' = s) (fun u_ u_ => False) s
noncomputable def ItersC (W : Wd) (Φ : Fx) (ns : List Str) (gs : List (Str × Value)) (o : V) (need : Mu) (l : List V) (μ : Mu) (ℓ : Loc) : Prop :=
  ∀ s F x,Gd W → FxOk W.H₀ Φ ns gs → In W Φ ns F μ ℓ s → Is s.heap F o x →
    wN W.M Φ.A (pyIter x) (fun it s' => ∃ I ob F',it = .ref I ∧ In W Φ ns F' ((I,ob 0) :: μ) ℓ s' ∧ Ext F s.heap F' s'.heap ∧ NextC W F' s'.heap I ob need l) (fun u_ u_ => False) s
theorem St.sameBut {L : Addr} {h' : Heap} (J : St W F μ s) (hs : Heap.SameBut L s.heap h') (n1 : L ∉ addrs μ) (n2 : ¬ F L) : St W F μ { s with heap := h' } := by
  have ex : Ext F s.heap F h' := ⟨fun u_ z => z,fun a o fa e => (hs.2 a (fun q => n2 (q ▸ fa))).trans e⟩
  refine ⟨J.gens,J.os,fun a o e => ?_,fun p hp => ?_,J.nodup,fun a fa => ?_,J.frozBase⟩
  · have := J.base a o e;exact (hs.2 a (fun q => n2 (q ▸ J.frozBase a o e))).trans this
  · apply gG;intro nG
    obtain ⟨o,ho,hc⟩ := J.mu p hp;apply nG;clear nG;exact ⟨o,(hs.2 p.1 (fun q => n1 (q ▸ List.mem_map_of_mem (f := Prod.fst) hp))).trans ho,hc.ext ex⟩
  · apply gG;intro nG
    obtain ⟨⟨o,ho⟩,na⟩ := J.froz a fa;apply nG;clear nG;exact ⟨⟨o,(hs.2 a (fun q => n2 (q ▸ fa))).trans ho⟩,na⟩
noncomputable def RA (c : Code) : Heap → (Addr → Prop) → Unit → PySem.Fin → Prop := fun u_ u_ u_ f => f = PySem.Fin.again c
inductive CoT (J : Addr → Nat → Mu → Prop) (a : Addr) (i : Nat) (p : Addr × Ce) (μ' : Mu) (ℓ' : Loc) : Prop
  | mk (μ'' : Mu) (pm : (p :: μ'').Perm μ') (j : J a i μ'') (o : Option V) (e : ℓ' = [o]) : CoT J a i p μ' ℓ'
inductive CoR (W : Wd) (Φ : Fx) (ns : List Str) (gs : List (Str × Value)) (e : Expr) (c0 : Ce) (tail : Value → Value → Env → Sem PySem.Fin) (x : Str) (gs' : List (Str × Value)) (Pa : Addr → Prop) (G' : Fx → Prop) (D : Addr → Mu → Loc → Prop) (o : V) (μ : Mu) (ℓ : Loc) : Prop
  | mk (need : Mu) (l : List V) (J : Addr → Nat → Mu → Prop) (it : ItersC W Φ ns gs o need l μ ℓ) (j0 : ∀ a,Pa a → J a 0 ((a,c0) :: μ)) (jn : ∀ a i μ,J a i μ → ∀ p ∈ need,p ∈ μ)
      (turn : ∀ a i v I (ob : Ce) μ (Φ' : Fx),l[i]? = some v → J a i μ → Φ'.n = Φ.n → G' Φ' → X W (RA (.compLoop e 0 (.ref I) (.ref a) Φ'.env)) Φ' [x] gs' ((I,ob) :: μ) [some v] (tail (.ref I) (.ref a) Φ'.env) fun u_ => CoT J a (i + 1) (I,ob))
      (done : ∀ a μ,J a l.length μ → D a μ ℓ) : CoR W Φ ns gs e c0 tail x gs' Pa G' D o μ ℓ
structure BlkOk (W : Wd) (Φ : Fx) (scope : Scope) (clo : List (Str × Addr)) (x : Str) (gs' : List (Str × Value)) (G' : Fx → Prop) : Prop where
  hclo : closureFor scope Φ.env = pure clo
  nc : ∀ y ∈ scope.names,y.2 ≠ .cell
  kind : scope.kind = .function
  loc : ∀ y ∈ scope.names,y.2 = .local → (cmap scope Φ.env).lookup y.1 = some .local
  hx : (cmap scope Φ.env).lookup x = some .local ∧ (x == ("__debug__" : Str)) = false
  gl : ∀ p ∈ gs',(cmap scope Φ.env).lookup p.1 = some .globalImplicit ∧ (p.1 == ("__debug__" : Str)) = false ∧ GlobVal W.H₀ p.1 p.2
  g : ∀ Φ' : Fx,Φ'.env.cells = clo → (∀ y,Φ'.env.kindOf y = (cmap scope Φ.env).lookup y) → G' Φ'
noncomputable abbrev cFx (Φ : Fx) (scope : Scope) (clo : List (Str × Addr)) (h : Heap) (F : Addr → Prop) (μ : Mu) : Fx := ⟨Φ.A,cenvOf scope Φ.env clo h.objs.size,h,F,addrs μ,Φ.n⟩
inductive CoI (W : Wd) (Φ : Fx) (x : Str) (n : Nat) (J : Addr → Nat → Mu → Prop) (b a : Addr) (ob : Nat → Ce) (F : Addr → Prop) (h : Heap) (k : Nat) (s' : Shared) : Prop
  | mk (i : Nat) (F' : Addr → Prop) (μ' : Mu) (o : Option V) (hk : k = n + 1 - i) (hi : i ≤ n) (ii : In W Φ [x] F' ((a,ob i) :: μ') [o] s') (e : Ext F h F' s'.heap) (j : J b i μ') : CoI W Φ x n J b a ob F h k s'
theorem not_here {F : Addr → Prop} {μ : Mu} {s : Shared} (I : St W F μ s) : s.heap.objs.size ∉ addrs μ ∧ ¬ F s.heap.objs.size := by
  have hL := get_fresh s.heap;refine ⟨fun hm => ?_,fun fa => ?_⟩
  · obtain ⟨o,ho⟩ := I.mu_alive hm;rw [hL] at ho; cases ho
  · apply gG;intro nG
    obtain ⟨⟨o,ho⟩,_⟩ := I.froz _ fa;apply nG;clear nG;rw [hL] at ho; cases ho
theorem comp_core {e target iter : Expr} {scope : Scope} {newAcc : Sem Value} {c0 : Ce} {tail : Value → Value → Env → Sem PySem.Fin} {clo : List (Str × Addr)} {x : Str} {tp : Pos} {gs' : List (Str × Value)} {Pa : Addr → Prop} {G' : Fx → Prop} {D : Addr → Mu → Loc → Prop}
    (K : CompOk W.prog W.w e target iter tail) (htg : target = .Name x tp) (B : BlkOk W Φ scope clo x gs' G')
    (hacc : ∀ {μ : Mu} {ℓ : Loc} {Q : V → Mu → Loc → Prop},(∀ a,Pa a → Q (.val (.ref a)) ((a,c0) :: μ) ℓ) → X W RV Φ ns gs μ ℓ newAcc Q)
    (h : X W RV Φ ns gs μ ℓ (eval iter Φ.env) (CoR W Φ ns gs e c0 tail x gs' Pa G' D)) {R : Value → Shared → Shared → Prop} (G : Gd W) (O : FxOk W.H₀ Φ ns gs) (I : In W Φ ns F μ ℓ s)
    (fin : ∀ b s₃ s₅ F₃ F₅ μ₃ μ₄ ℓ₁ o,Ext F s.heap F₃ s₃.heap → In W Φ ns F₃ μ₃ ℓ₁ s₃ → In W (cFx Φ scope clo s₃.heap F₃ μ₃) [x] F₅ μ₄ [o] s₅ → D b μ₄ ℓ₁ → R (.ref b) s₃ s₅) :
    CRun W.prog W.w Φ.A e scope Φ.env clo newAcc (eval iter Φ.env) R s := by
  refine wN.mono (h s F G O I) (fun y s₁ z => ?_) fun u_ u_ z => z
  apply gG;intro nG
  obtain ⟨F₁,o,μ₁,ℓ₁,I₁,e₁,hy,need,l,J,hit,j0,jn,turn,done⟩ := z;apply nG;clear nG;refine wN.mono (hit s₁ F₁ y G O I₁ hy) (fun it s₂ z => ?_) fun u_ u_ z => z
  apply gG;intro nG
  obtain ⟨a,ob,F₂,rfl,I₂,e₂,nx⟩ := z;apply nG;clear nG;refine wN.mono (hacc (Q := fun v μ ℓ => ∃ b,v = .val (.ref b) ∧ Pa b ∧ μ = (b,c0) :: (a,ob 0) :: μ₁ ∧ ℓ = ℓ₁) (fun b pb => ⟨b,rfl,pb,rfl,rfl⟩) s₂ F₂ G O I₂) (fun acc s₃ z => ?_) fun u_ u_ z => z
  apply gG;intro nG
  obtain ⟨F₃,va,μ₃,ℓ₃,I₃,e₃,hva,b,rfl,pb,rfl,rfl⟩ := z;apply nG;clear nG;cases hva;intro h' hns hkeep;have I₄ := I₃.perm (List.Perm.swap _ _ _);obtain ⟨nL,nF⟩ := not_here I₄.st;have O' : FxOk W.H₀ (cFx Φ scope clo s₃.heap F₃ ((a,ob 0) :: (b,c0) :: μ₁)) [x] gs' := ⟨B.kind,O.glob,O.bui,by simp,fun y hy => by rw [List.mem_singleton.mp hy]; exact B.hx,B.gl,⟨get_fresh _,nL⟩,O.room⟩
  have J' : In W (cFx Φ scope clo s₃.heap F₃ ((a,ob 0) :: (b,c0) :: μ₁)) [x] F₃ ((a,ob 0) :: (b,c0) :: μ₁) [none] { s₃ with heap := h' } :=
    ⟨I₄.st.more (k := s₃.toks) hkeep,⟨_,hns,⟨trivial,trivial⟩⟩,nL,nF,⟨fun c o e u_ => hkeep c o e,fun u_ z => z,fun u_ z => .inl z,fun c hc => .inl hc⟩⟩
  refine cN.compStart K ?_ (nx.self (cFx Φ scope clo s₃.heap F₃ ((a,ob 0) :: (b,c0) :: μ₁)) [x] F₃ _ _ _ J');refine cN.compLoop K (CoI W (cFx Φ scope clo s₃.heap F₃ ((a,ob 0) :: (b,c0) :: μ₁)) x l.length J b a ob F₂ s₂.heap) (fun k s₄ z => ?_) (l.length + 1)
    ⟨0,F₃,_,none,rfl,Nat.zero_le _,J',e₃.trans ⟨fun u_ z => z,fun c o u_ q => hkeep c o q⟩,j0 b pb⟩
  apply gG;intro nG
  obtain ⟨i,F₄,μ₄,o₄,hk,hi,i₄,e₄,j₄⟩ := z;apply nG;clear nG;refine wN.mono (.of (nx.next i (cFx Φ scope clo s₃.heap F₃ ((a,ob 0) :: (b,c0) :: μ₁)) [x] F₄ μ₄ [o₄] s₄ G O.room.handled (jn b i μ₄ j₄) hi i₄ e₄)) (fun r s₅ z => ?_) fun u_ u_ z => z
  cases hv : l[i]? with
  | none =>
    rw [hv] at z;apply gG;intro nG
    obtain ⟨rfl,F₅,i₅,e₅⟩ := z;apply nG;clear nG;exact ⟨_,rfl,fin b s₃ s₅ F₃ F₅ _ μ₄ ℓ₃ o₄ ((e₁.trans e₂).trans e₃) I₄ i₅ (done b μ₄ (Nat.le_antisymm hi (List.getElem?_eq_none_iff.mp hv) ▸ j₄))⟩
  | some v =>
    rw [hv] at z;apply gG;intro nG
    obtain ⟨y,F₅,rfl,i₅,e₅,hy⟩ := z;apply nG;clear nG;have hlt : i < l.length := (List.getElem?_eq_some_iff.mp hv).1;subst htg;refine stepQ (a_name (Q := fun u_ μ ℓ => μ = (a,ob (i + 1)) :: μ₄ ∧ ℓ = [some v]) (.here) ⟨rfl,rfl⟩ s₅ F₅ y G O' i₅ hy) fun s₆ F₆ u_ μ₆ ℓ₆ u_ i₆ e₆ u_ q₆ => ?_
    obtain ⟨rfl,rfl⟩ := q₆;refine stepQ (turn b i v a (ob (i + 1)) μ₄ (cFx Φ scope clo s₃.heap F₃ ((a,ob 0) :: (b,c0) :: μ₁)) hv j₄ rfl (B.g _ rfl fun u_ => rfl) s₆ F₆ G O' i₆) fun s₇ F₇ f μ₇ ℓ₇ u_ i₇ e₇ hf q₇ => ?_
    apply gG;intro nG
    obtain ⟨μ'',pm,j,o,rfl⟩ := q₇;apply nG;clear nG;exact ⟨hf,l.length - i,by (exact q507 hk hlt),i + 1,F₇,μ'',o,by exact q508,hlt,i₇.perm pm,((e₄.trans e₅).trans e₆).trans e₇,j⟩
theorem In.back {scope : Scope} {clo : List (Str × Addr)} {x : Str} {s₃ s₅ : Shared} {F₃ F₅ : Addr → Prop} {μ₃ μ₄ : Mu} {ℓ₁ ℓ₅ : Loc} {h : Heap} (O : FxOk W.H₀ Φ ns gs) (I₃ : In W Φ ns F₃ μ₃ ℓ₁ s₃) (i₅ : In W (cFx Φ scope clo s₃.heap F₃ μ₃) [x] F₅ μ₄ ℓ₅ s₅) (hs : Heap.SameBut s₃.heap.objs.size s₅.heap h) :
    In W Φ ns F₅ μ₄ ℓ₁ { s₅ with heap := h } ∧ Ext F₃ s₃.heap F₅ h := by
  have sp := In.spec (ν := []) (μ₁ := μ₃) O (by rw [List.append_nil]; exact I₃) (s' := { s₅ with heap := h })
    ⟨fun c o e hc => (hs.2 c (fun q => by rw [q,get_fresh] at e; cases e)).trans (i₅.grow.keep c o e hc),i₅.grow.mono,i₅.grow.froz,i₅.grow.new⟩ (i₅.st.sameBut hs i₅.apart i₅.nfroz)
  rwa [List.append_nil] at sp
theorem x_comp {e target iter : Expr} {ifs : List Expr} {scope : Scope} {pos : Pos} {newAcc : Sem Value} {c0 : Ce} {tail : Value → Value → Env → Sem PySem.Fin} {clo : List (Str × Addr)} {x : Str} {tp : Pos} {gs' : List (Str × Value)} {Pa : Addr → Prop} {G' : Fx → Prop} {Q : V → Mu → Loc → Prop}
    (K : CompOk W.prog W.w e target iter tail) (htg : target = .Name x tp) (hcl : clausesOf e = [⟨target,iter,ifs,0⟩]) (he : eval e Φ.env = comprehension e scope Φ.env pos newAcc false (eval iter Φ.env))
    (hs : ∀ y,foldedSetIterable iter Φ.env y = pure y) (B : FxOk W.H₀ Φ ns gs → BlkOk W Φ scope clo x gs' G')
    (hacc : ∀ {μ : Mu} {ℓ : Loc} {Q : V → Mu → Loc → Prop},(∀ a,Pa a → Q (.val (.ref a)) ((a,c0) :: μ) ℓ) → X W RV Φ ns gs μ ℓ newAcc Q)
    (h : X W RV Φ ns gs μ ℓ (eval iter Φ.env) (CoR W Φ ns gs e c0 tail x gs' Pa G' fun a => Q (.val (.ref a)))) : X W RV Φ ns gs μ ℓ (eval e Φ.env) Q := by
  intro s F G O I;rw [he];refine wN_comprehension hcl hs (B O).hclo (B O).nc (B O).kind (B O).loc (comp_core K htg (B O) hacc h G O I fun b s₃ s₅ F₃ F₅ μ₃ μ₄ ℓ₁ o ex I₃ i₅ q => ?_);apply gG;intro nG
  obtain ⟨m,hm,_⟩ := i₅.loc;apply nG;clear nG;refine ⟨⟨m,hm⟩,fun h'' hs'' => ?_⟩;obtain ⟨i6,e6⟩ := In.back O I₃ i₅ hs'';exact ⟨F₅,_,μ₄,_,i6,ex.trans e6,.val,q⟩
theorem x_compU {zn : Str} {zp spos : Pos} {e target iter : Expr} {ifs : List Expr} {scope : Scope} {pos : Pos} {newAcc : Sem Value} {c0 : Ce} {tail : Value → Value → Env → Sem PySem.Fin} {clo : List (Str × Addr)} {x : Str} {tp : Pos} {gs' : List (Str × Value)} {Pa : Addr → Prop} {G' : Fx → Prop} {Q : Fl → Mu → Loc → Prop}
    (K : CompOk W.prog W.w e target iter tail) (htg : target = .Name x tp) (hcl : clausesOf e = [⟨target,iter,ifs,0⟩]) (he : FxOk W.H₀ Φ ns gs → exec (.Assign [.Name zn zp] e spos) Φ.env = (do standAt spos; (do let _ ← comprehension e scope Φ.env pos newAcc false (eval iter Φ.env) (some (assign (.Name zn zp) Φ.env))); return .next))
    (hs : ∀ y,foldedSetIterable iter Φ.env y = pure y) (B : FxOk W.H₀ Φ ns gs → BlkOk W Φ scope clo x gs' G')
    (hacc : ∀ {μ : Mu} {ℓ : Loc} {Q : V → Mu → Loc → Prop},(∀ a,Pa a → Q (.val (.ref a)) ((a,c0) :: μ) ℓ) → X W RV Φ ns gs μ ℓ newAcc Q)
    (h : X W RV Φ ns gs μ ℓ (eval iter Φ.env) (CoR W Φ ns gs e c0 tail x gs' Pa G' fun a μ ℓ => ∃ ℓ',LocSet ns ℓ zn (.val (.ref a)) ℓ' ∧ Q .next μ ℓ')) : X W RF Φ ns gs μ ℓ (exec (.Assign [.Name zn zp] e spos) Φ.env) Q := by
  intro s F G O I;rw [he O];refine .stand (.bind (.bind (wN_comprehensionU (Q := fun u_ s' => Res W RF Φ ns F s.heap Q Flow.next s') hcl hs (B O).hclo (B O).nc (B O).kind (B O).loc (comp_core K htg (B O) hacc h G O I fun b s₃ s₅ F₃ F₅ μ₃ μ₄ ℓ₁ o ex I₃ i₅ q => ?_) |>.mono (fun u_ u_ z => .pure (.pure z)) fun u_ u_ z => z)));apply gG;intro nG
  obtain ⟨ℓ',gl,qn⟩ := q;obtain ⟨mL,hmL,_⟩ := i₅.loc;obtain ⟨i6,e6⟩ := In.back O I₃ i₅ ⟨rfl,fun u_ u_ => rfl⟩;obtain ⟨mO,hmO,hlO⟩ := i6.loc;apply nG;clear nG;have hne : s₃.heap.objs.size ≠ Φ.env.locals := fun q => by
    apply gG;intro nG
    obtain ⟨m3,hm3,_⟩ := I₃.loc;obtain ⟨ol,_,_,ho3,_⟩ := hm3;apply nG;clear nG;rw [← q,get_fresh] at ho3; cases ho3
  rw [PySem.assign_Name];refine .stand (.of fun Γ p hΓ => ?_);rw [Sem.wp_bindName];refine wpAny_storeName_local (Q := fun u_ s'' => (∃ m,s''.heap.Ns s₃.heap.objs.size m) ∧ ∀ h'',Heap.SameBut s₃.heap.objs.size s''.heap h'' → Res W RF Φ ns F s.heap Q Flow.next { s'' with heap := h'' }) (O.loc zn gl.mem).1 hmO (fun h₇ hn₇ hs₇ => ?_) (by rw [O.kind]; rfl) Γ p hΓ;obtain ⟨i7,e7⟩ := i6.store (k := s₅.toks + 1) O (v := .val (.ref b)) .val gl hlO hn₇ hs₇;refine ⟨⟨mL,hmL.sameBut hs₇ hne⟩,fun h'' hs'' => ?_⟩;have nf := i₅.nfroz;have ex8 : Ext F₅ h₇ F₅ h'' := ⟨fun u_ z => z,fun c o fc q => (hs''.2 c (fun q' => nf (show F₅ s₃.heap.objs.size from q' ▸ fc))).trans q⟩
  apply gG;intro nG
  obtain ⟨m8,hm8,hl8⟩ := i7.loc;apply nG;clear nG;exact ⟨F₅,.next,μ₄,ℓ',⟨i7.st.sameBut hs'' i₅.apart nf,⟨m8,hm8.sameBut hs'' hne.symm,hl8.ext ex8⟩,i7.apart,i7.nfroz,
    ⟨fun c o e hc => (hs''.2 c (fun q => by
      have := I₃.grow.keep c o e hc;rw [q,get_fresh] at this; cases this)).trans (i7.grow.keep c o e hc),i7.grow.mono,i7.grow.froz,i7.grow.new⟩⟩,((ex.trans e6).trans e7).trans ex8,.next,qn⟩
end
end
section
end
section
open PySem PySem.W PyProof.Rows PySem.Calls
noncomputable def tailL (elt : Expr) (ifs : List Expr) (e : Expr) (it acc : Value) (env : Env) : Sem PySem.Fin := do
  let mut ok := true
  for c in ifs do
    if ok then ok ← isTrue c env (eval c env)
  if ok then
    (do let _ ← call (.builtin "list.append") [acc,← eval elt env])
  again (.compLoop e 0 it acc env)
noncomputable def tailD (k v : Expr) (ifs : List Expr) (e : Expr) (it acc : Value) (env : Env) : Sem PySem.Fin := do
  let mut ok := true
  for c in ifs do
    if ok then ok ← isTrue c env (eval c env)
  if ok then
    (do
      let kv ← eval k env
      let vv ← holding [kv] (eval v env)
      match acc with
      | .ref d => do
        standAt { k.pos with endLine := v.pos.endLine,endCol := v.pos.endCol }
        holding [kv,vv] (dictSet d kv vv)
      | _ => unsupported "internal:dictcomp")
  again (.compLoop e 0 it acc env)
theorem compOk_list {prog : Program} {w : World} {elt iter : Expr} {x : Str} {tp : Pos} {ifs : List Expr} {scope : Scope} {pos : Pos} :
    CompOk prog w (.ListComp elt [⟨.Name x tp,iter,ifs,0⟩] scope pos) (.Name x tp) iter (tailL elt ifs (.ListComp elt [⟨.Name x tp,iter,ifs,0⟩] scope pos)) where
  cl := ⟨ifs,rfl⟩
  turn := fun u_ u_ u_ => rfl
  den1 := fun u_ u_ u_ => rfl
  den0 := fun u_ u_ u_ => rfl
  und1 := fun u_ u_ u_ u_ => rfl
  und0 := fun u_ u_ u_ u_ => rfl
  calm1 := fun u_ u_ u_ => rfl
  calm0 := fun u_ u_ u_ => rfl
  quiet := fun u_ u_ u_ => rfl
  go := fun u_ u_ => rfl
theorem compOk_dict {prog : Program} {w : World} {k v iter : Expr} {x : Str} {tp : Pos} {ifs : List Expr} {scope : Scope} {pos : Pos} :
    CompOk prog w (.DictComp k v [⟨.Name x tp,iter,ifs,0⟩] scope pos) (.Name x tp) iter (tailD k v ifs (.DictComp k v [⟨.Name x tp,iter,ifs,0⟩] scope pos)) where
  cl := ⟨ifs,rfl⟩
  turn := fun u_ u_ u_ => rfl
  den1 := fun u_ u_ u_ => rfl
  den0 := fun u_ u_ u_ => rfl
  und1 := fun u_ u_ u_ u_ => rfl
  und0 := fun u_ u_ u_ u_ => rfl
  calm1 := fun u_ u_ u_ => rfl
  calm0 := fun u_ u_ u_ => rfl
  quiet := fun u_ u_ u_ => rfl
  go := fun u_ u_ => rfl
section
variable {W : Wd} {Φ : Fx} {ns : List Str} {gs : List (Str × Value)} {μ μ' : Mu} {ℓ : Loc}
theorem emit_list {a : Addr} {elt : Expr} {c : Code} {Q : Unit → Mu → Loc → Prop} (h : X W RV Φ ns gs μ ℓ (eval elt Φ.env) fun v μ ℓ => ∃ l μ',l.length ≤ 1000000 ∧ UpdM μ a (.list l) (.list (l ++ [v])) μ' ∧ Q () μ' ℓ) :
    X W (RA c) Φ ns gs μ ℓ ((eval elt Φ.env >>= fun x => call (.builtin "list.append") [.ref a,x] >>= fun u_ => pure PUnit.unit) >>= fun u_ => again c) Q := by
  intro s F G O I;refine .bind (.bind (stepQ (h s F G O I) fun s₁ F₁ y μ₁ ℓ₁ v i₁ e₁ hv q₁ => ?_));apply gG;intro nG
  obtain ⟨l,μ',hz,U,q⟩ := q₁;apply nG;clear nG;refine .bind (stepQ (l_append hz U (Q := fun u_ => Q ()) q s₁ F₁ [.ref a,y] G O i₁ (.cons .val (.cons hv .nil))) fun s₂ F₂ z μ₂ ℓ₂ w i₂ e₂ u_ q₂ => ?_);exact .pure (.pure ⟨F₂,(),μ₂,ℓ₂,i₂,e₁.trans e₂,rfl,q₂⟩)
theorem tl_nil {a : Addr} {elt e : Expr} {it : Value} {Q : Unit → Mu → Loc → Prop} (h : X W RV Φ ns gs μ ℓ (eval elt Φ.env) fun v μ ℓ => ∃ l μ',l.length ≤ 1000000 ∧ UpdM μ a (.list l) (.list (l ++ [v])) μ' ∧ Q () μ' ℓ) :
    X W (RA (.compLoop e 0 it (.ref a) Φ.env)) Φ ns gs μ ℓ (tailL elt [] e it (.ref a) Φ.env) Q := emit_list h
theorem tl_one {a : Addr} {elt e c : Expr} {it : Value} {Q : Unit → Mu → Loc → Prop} (h : X W RB Φ ns gs μ ℓ (isTrue c Φ.env (eval c Φ.env)) fun b μ ℓ => wIf b (X W RV Φ ns gs μ ℓ (eval elt Φ.env) fun v μ ℓ => ∃ l μ',l.length ≤ 1000000 ∧ UpdM μ a (.list l) (.list (l ++ [v])) μ' ∧ Q () μ' ℓ) (Q () μ ℓ)) :
    X W (RA (.compLoop e 0 it (.ref a) Φ.env)) Φ ns gs μ ℓ (tailL elt [c] e it (.ref a) Φ.env) Q := by
  intro s F G O I;unfold tailL;refine .bind ?_;show wN _ _ (forIn [c] true _) _ _ _;rw [List.forIn_cons];refine .bind (.bind (stepQ (h s F G O I) fun s₁ F₁ y μ₁ ℓ₁ b i₁ e₁ hb q₁ => .pure ?_));subst hb;dsimp only;rw [List.forIn_nil];refine .pure ?_;cases b with
  | true => exact wN.mono (emit_list (wIf_t q₁) s₁ F₁ G O i₁) (fun u_ u_ z => z.ext e₁) fun u_ u_ z => z
  | false => exact .pure ⟨F₁,(),μ₁,ℓ₁,i₁,e₁,rfl,wIf_f q₁⟩
theorem room_key1 (O : FxOk W.H₀ Φ ns gs) : (kndT W).room Φ.A := by
  have := O.room.units;show Φ.A.units < cLine;unfold cLine;exact q4 this
theorem emit_dict {d : Addr} {k v : Expr} {c : Code} {Q : Unit → Mu → Loc → Prop}
    (h : X W RV Φ ns gs μ ℓ (eval k Φ.env) fun kv μ ℓ => X W RV Φ ns gs μ ℓ (eval v Φ.env) fun vv μ ℓ => ∃ ks l μ',kv = .tup (ks.map V.int) ∧ l.length ≤ 100000 ∧ UpdM μ d (.dict l) (.dict (dPut l ks vv)) μ' ∧ Q () μ' ℓ) :
    X W (RA c) Φ ns gs μ ℓ ((eval k Φ.env >>= fun kv => holding [kv] (eval v Φ.env) >>= fun vv => standAt { k.pos with endLine := v.pos.endLine,endCol := v.pos.endCol } >>= fun u_ => holding [kv,vv] (dictSet d kv vv)) >>= fun u_ => again c) Q := by
  intro s F G O I;refine .bind (.bind (stepQ (h s F G O I) fun s₁ F₁ y μ₁ ℓ₁ a i₁ e₁ hy q₁ => .bind (.holding ?_)));refine stepQ (q₁ s₁ F₁ G O i₁) fun s₂ F₂ z μ₂ ℓ₂ b i₂ e₂ hz q₂ => .stand (.holding ?_)
  apply gG;intro nG
  obtain ⟨ks,l,μ',rfl,hl,U,q⟩ := q₂;have hy := hy.ext e₂;obtain ⟨o,ho,hc⟩ := i₂.cell U.mem;obtain ⟨xs,hxs,hD⟩ := dict_of (W := W) ho hc;apply nG;clear nG;have na : d ∈ addrs μ₂ := List.mem_map_of_mem (f := Prod.fst) U.mem;cases hy with
  | tup hF ho' hc' hd' hl' =>
    have hk := Is.tup hF ho' hc' hd' hl';refine .of (wpAny_dictSet_heap (room_key1 O) (tupKey W hk) hD (fun h' hD' hs => ?_) (by rw [hxs.length,sizeLine_eq]; (exact Nat.le_trans (by assumption) (by decide))));have ex : Ext F₂ s₂.heap F₂ h' := ⟨fun u_ z => z,fun b x fb q => (hs.2 b fun e => (i₂.st.froz b fb).2 (e ▸ na)).trans q⟩
    apply gG;intro nG
    obtain ⟨o',ho',hc'⟩ := dict_back (W := W) hD' ((hxs.put hk hz).ext ex);obtain ⟨I',ex'⟩ := i₂.turned (k := s₂.toks + (kndT W).draws ks) U ho' (fun b x ne e => (hs.2 b ne).trans e) hc';apply nG;clear nG;exact wN.pure ⟨F₂,(),μ',ℓ₂,I',(e₁.trans e₂).trans ex',rfl,q⟩
theorem td_one {d : Addr} {k v e c : Expr} {it : Value} {Q : Unit → Mu → Loc → Prop}
    (h : X W RB Φ ns gs μ ℓ (isTrue c Φ.env (eval c Φ.env)) fun b μ ℓ => wIf b (X W RV Φ ns gs μ ℓ (eval k Φ.env) fun kv μ ℓ => X W RV Φ ns gs μ ℓ (eval v Φ.env) fun vv μ ℓ => ∃ ks l μ',kv = .tup (ks.map V.int) ∧ l.length ≤ 100000 ∧ UpdM μ d (.dict l) (.dict (dPut l ks vv)) μ' ∧ Q () μ' ℓ) (Q () μ ℓ)) :
    X W (RA (.compLoop e 0 it (.ref d) Φ.env)) Φ ns gs μ ℓ (tailD k v [c] e it (.ref d) Φ.env) Q := by
  intro s F G O I;unfold tailD;refine .bind ?_;show wN _ _ (forIn [c] true _) _ _ _;rw [List.forIn_cons];refine .bind (.bind (stepQ (h s F G O I) fun s₁ F₁ y μ₁ ℓ₁ b i₁ e₁ hb q₁ => .pure ?_));subst hb;dsimp only;rw [List.forIn_nil];refine .pure ?_;cases b with
  | true => exact wN.mono (emit_dict (wIf_t q₁) s₁ F₁ G O i₁) (fun u_ u_ z => z.ext e₁) fun u_ u_ z => z
  | false => exact .pure ⟨F₁,(),μ₁,ℓ₁,i₁,e₁,rfl,wIf_f q₁⟩
theorem closureFor_of {scope : Scope} {env : Env} {ca : Str → Addr} (hcf : ∀ p ∈ scope.names,p.2 = .free → env.cells.lookup p.1 = some (ca p.1)) : closureFor scope env = pure (((scope.names.filter fun p => p.2 == .free).map fun p => (p.1,ca p.1)).reverse) := by
  have key : ∀ (l : List (Str × NameKind)) (acc : List (Str × Addr)),(∀ p ∈ l,p.2 = .free → env.cells.lookup p.1 = some (ca p.1)) →
      (forIn l acc fun (x : Str × NameKind) r => if (x.2 == NameKind.free) = true then (do let a ← cellOf env x.1; pure (ForInStep.yield ((x.1,a) :: r))) else pure (ForInStep.yield r) : Sem (List (Str × Addr))) = pure (((l.filter fun p => p.2 == .free).map fun p => (p.1,ca p.1)).reverse ++ acc) := by
    intro l;induction l with
    | nil => intro acc _; rfl
    | cons p r ih =>
      intro acc h;rw [List.forIn_cons];cases e : p.2 == NameKind.free with
      | true =>
        have hc := h p (.head _) (beq_iff_eq.mp e);have : cellOf env p.1 = pure (ca p.1) := by unfold cellOf; rw [hc]
        rw [if_pos rfl,this];show (forIn r ((p.1,ca p.1) :: acc) _ : Sem (List (Str × Addr))) = _;rw [ih _ fun q hq => h q (.tail _ hq),List.filter_cons,e,if_pos rfl,List.map_cons,List.reverse_cons,List.append_assoc]
        rfl
      | false =>
        rw [if_neg Bool.false_ne_true];show (forIn r acc _ : Sem (List (Str × Addr))) = _;rw [ih _ fun q hq => h q (.tail _ hq),List.filter_cons,e,if_neg Bool.false_ne_true]
  have := key scope.names [] hcf;rw [List.append_nil] at this;unfold closureFor;show (forIn scope.names [] _ >>= fun cs => pure cs : Sem (List (Str × Addr))) = _;exact congrArg (fun t : Sem (List (Str × Addr)) => t >>= fun cs => pure cs) this
noncomputable def cmap' (scope : Scope) : List (Str × NameKind) := scope.names.map fun p => if p.2 == .free then (p.1,.cell) else p
theorem cmap_eq {scope : Scope} {env : Env} (hk : env.scope.kind = .function) (hc : ∀ p ∈ scope.names,p.2 = .free → env.kindOf p.1 = some .cell) : cmap scope env = cmap' scope := by
  unfold cmap cmap';refine List.map_congr_left fun p hp => ?_
  obtain ⟨n,k⟩ := p;show (if (k == NameKind.free && env.scope.kind == .function && env.kindOf n == some .cell) = true then (n,NameKind.cell) else (n,k)) = (if (k == .free) = true then (n,NameKind.cell) else (n,k));rw [hk];cases e : k == NameKind.free with
  | true =>
    have h : env.kindOf n = some .cell := hc (n,k) hp (beq_iff_eq.mp e);rw [h]; rfl
  | false => rfl
noncomputable def compScOk (scope : Scope) (x : Str) (gs gs' : List (Str × Value)) : Bool :=
  scope.names.all (fun p => p.2 != .cell && (p.2 != .local || (cmap' scope).lookup p.1 == some .local) && (p.2 != .free || ((cmap' scope).lookup p.1 == some .cell && (scope.names.filter fun q => q.2 == .free).all fun q => (p.1 == q.1) == (p == q)))) && (scope.kind == .function && ((cmap' scope).lookup x == some .local && (!(x == ("__debug__" : Str)) && (gs'.all fun p => (cmap' scope).lookup p.1 == some .globalImplicit && gs.any (· == p)))))
theorem lookup_pick {ca : Str → Addr} {x : Str} : ∀ {l : List (Str × NameKind)},(∃ k,(x,k) ∈ l) → (l.map fun p => (p.1,ca p.1)).lookup x = some (ca x)
  | [],⟨_,h⟩ => nomatch h
  | (n,k) :: r,⟨k',h⟩ => by
    rw [List.map_cons,List.lookup_cons];cases e : x == n with
    | true => rw [beq_iff_eq.mp e]
    | false =>
      rcases List.mem_cons.mp h with h | h
      · cases h; rw [beq_self_eq_true] at e; cases e
      · exact lookup_pick ⟨k',h⟩
noncomputable def cellsAre (scope : Scope) (ca : Str → Addr) (Φ : Fx) : Prop := ∀ p ∈ scope.names,p.2 = .free → Φ.env.kindOf p.1 = some .cell ∧ Φ.env.cells.lookup p.1 = some (ca p.1)
theorem blk_of {scope : Scope} {x : Str} {ca : Str → Addr} {gs' : List (Str × Value)} (hok : compScOk scope x gs gs' = true) (hcf : cellsAre scope ca Φ) (O : FxOk W.H₀ Φ ns gs) :
    BlkOk W Φ scope ((scope.names.filter fun p => p.2 == .free).map fun p => (p.1,ca p.1)).reverse x gs' (cellsAre scope ca) := by
  unfold compScOk at hok;simp only [Bool.and_eq_true,List.all_eq_true,Bool.or_eq_true,Bool.not_eq_true',beq_iff_eq,bne_iff_ne,ne_eq] at hok;apply gG;intro nG
  obtain ⟨hn,hkind,hx,hxd,hgs⟩ := hok;apply nG;clear nG;have cm := cmap_eq (scope := scope) O.kind fun p hp hf => (hcf p hp hf).1
  refine ⟨closureFor_of fun p hp hf => (hcf p hp hf).2,fun y hy => (hn y hy).1.1,hkind,fun y hy hl => ?_,⟨by rw [cm]; exact hx,hxd⟩,fun p hp => ?_,fun Φ' hc hk p hp hf => ?_⟩
  · rw [cm]; exact (hn y hy).1.2.resolve_left fun q => q hl
  · apply gG;intro nG
    obtain ⟨h1,h2⟩ := hgs p hp;obtain ⟨q,hq,e⟩ := List.any_eq_true.mp h2;apply nG;clear nG;rw [beq_iff_eq] at e;subst e;exact ⟨by rw [cm]; exact h1,(O.gl q hq).2⟩
  · obtain ⟨h1,h2⟩ := (hn p hp).2.resolve_left fun q => q hf
    refine ⟨by rw [hk,cm]; exact h1,?_⟩;rw [hc,← List.map_reverse];exact lookup_pick ⟨.free,List.mem_reverse.mpr (List.mem_filter.mpr ⟨by rw [← hf]; exact hp,rfl⟩)⟩
theorem x_compF {e iter : Expr} {ifs : List Expr} {scope : Scope} {pos tp : Pos} {newAcc : Sem Value} {c0 : Ce} {tail : Value → Value → Env → Sem PySem.Fin} {x : Str} {ca : Str → Addr} (gs' : List (Str × Value)) {Pa : Addr → Prop} {Q : V → Mu → Loc → Prop}
    (K : CompOk W.prog W.w e (.Name x tp) iter tail) (hcf : cellsAre scope ca Φ)
    (hacc : ∀ {μ : Mu} {ℓ : Loc} {Q : V → Mu → Loc → Prop},(∀ a,Pa a → Q (.val (.ref a)) ((a,c0) :: μ) ℓ) → X W RV Φ ns gs μ ℓ newAcc Q)
    (h : vg W Φ ns gs 99 (.e iter (CoR W Φ ns gs e c0 tail x gs' Pa (cellsAre scope ca) fun a => Q (.val (.ref a)))) μ ℓ)
    (hok : compScOk scope x gs gs' = true := by kernel_rfl) (hcl : clausesOf e = [⟨.Name x tp,iter,ifs,0⟩] := by rfl) (he : eval e Φ.env = comprehension e scope Φ.env pos newAcc false (eval iter Φ.env) := by rfl)
    (hs : ∀ y,foldedSetIterable iter Φ.env y = pure y := by intro _; rfl) : X W RV Φ ns gs μ ℓ (eval e Φ.env) Q := x_comp K rfl hcl he hs (blk_of hok hcf) hacc (ve h)
theorem x_compUF {zn : Str} {zp spos : Pos} {e iter : Expr} {ifs : List Expr} {scope : Scope} {pos tp : Pos} {newAcc : Sem Value} {c0 : Ce} {tail : Value → Value → Env → Sem PySem.Fin} {x : Str} {ca : Str → Addr} (gs' : List (Str × Value)) {Pa : Addr → Prop} {Q : Fl → Mu → Loc → Prop}
    (K : CompOk W.prog W.w e (.Name x tp) iter tail) (hcf : cellsAre scope ca Φ)
    (hacc : ∀ {μ : Mu} {ℓ : Loc} {Q : V → Mu → Loc → Prop},(∀ a,Pa a → Q (.val (.ref a)) ((a,c0) :: μ) ℓ) → X W RV Φ ns gs μ ℓ newAcc Q)
    (h : vg W Φ ns gs 99 (.e iter (CoR W Φ ns gs e c0 tail x gs' Pa (cellsAre scope ca) fun a μ ℓ => ∃ ℓ',LocSet ns ℓ zn (.val (.ref a)) ℓ' ∧ Q .next μ ℓ')) μ ℓ)
    (hz : ns.contains zn = true)
    (hsw : ∀ env : Env,env.scope.kind = .function → env.kindOf zn = some .local → swapsWith e (some (.Name zn zp)) spos.line env = pure true)
    (hok : compScOk scope x gs gs' = true := by kernel_rfl) (hcl : clausesOf e = [⟨.Name x tp,iter,ifs,0⟩] := by rfl) (he : ∀ u,evalThenUse e Φ.env u = (do let _ ← comprehension e scope Φ.env pos newAcc false (eval iter Φ.env) (some u)) := by intro _; rfl)
    (hs : ∀ y,foldedSetIterable iter Φ.env y = pure y := by intro _; rfl) : X W RF Φ ns gs μ ℓ (exec (.Assign [.Name zn zp] e spos) Φ.env) Q :=
  x_compU K rfl hcl (fun O => (exec_Assign_Name_used _ _ _ _ (hsw _ O.kind (O.loc zn (List.contains_iff_mem.mp hz)).1)).trans (by rw [he])) hs (blk_of hok hcf) hacc (ve h)
end
end
section
open PySem PySem.W PyProof.Rows PySem.Calls
section
variable {W : Wd} {Φ : Fx} {ns : List Str} {gs : List (Str × Value)} {μ μ' : Mu} {ℓ : Loc}
theorem acc_list {Q : V → Mu → Loc → Prop} (q : ∀ a,True → Q (.val (.ref a)) ((a,.list []) :: μ) ℓ) : X W RV Φ ns gs μ ℓ (newList []) Q := by
  intro s F G O I;refine .of (wpAny_newList ?_ (Nat.zero_le _));exact res_made (k := s.toks) I (o := { cls := .type "list",data := .seq ([] : List Value).toArray }) rfl (c := .list []) ⟨_,_,rfl,.nil⟩ .val (q _ trivial)
theorem acc_dict {Q : V → Mu → Loc → Prop} (q : ∀ a,(a == sysModules) = false → Q (.val (.ref a)) ((a,.dict []) :: μ) ℓ) : X W RV Φ ns gs μ ℓ newDict Q := by
  intro s F G O I;refine .of ?_;unfold newDict;refine wpAny_newObj_type ?_;apply gG;intro nG
  obtain ⟨mg,o,_,_,ho,_⟩ := G.g;apply nG;clear nG;have := Heap.lt_size (I.st.base _ _ ho);refine res_made (k := s.toks) I rfl (c := .dict []) ⟨#[],0,rfl,.nil,List.nodup_nil⟩ .val (q _ ?_);rw [beq_eq_false_iff_ne];intro e;rw [e] at this;exact absurd this (by decide)
theorem itC_lst {l : List V} : ItersC W Φ ns gs (.lst l) [] l μ ℓ := by
  intro s F x G O I hx;cases hx with
  | @lst _ a vs n o hF ho hc hd hl =>
    have hL : s.heap.IsList a vs.toArray := ⟨o,ho,hc,n,hd⟩
    refine .of (wpAny_pyIter_list hL ?_);obtain ⟨I',ex⟩ := I.made (k := s.toks) (c := .raz (.type "list_iterator") (.fields #[.ref a,.int ((0 : Nat) : Int) 0])) (o := { cls := .type "list_iterator",data := .fields #[.ref a,.int 0 0] }) rfl ⟨rfl,rfl⟩;refine ⟨_,fun i => .raz (.type "list_iterator") (.fields #[.ref a,.int (i : Int) 0]),F,rfl,I',ex,fun i Φ' ns' F' μ' ℓ' s' G' hh u_ u_ I'' e'' => ?_,fun Φ' ns' F' μ' ℓ' s' I'' => ?_⟩
    · apply gG;intro nG
      obtain ⟨ob,hob,hcl,hdt⟩ := I''.st.mu _ (.head _);apply nG;clear nG;have hit : s'.heap.IsListIter s.heap.objs.size a i := ⟨ob,hob,hcl,hdt⟩
      have ho' := e''.keep a o hF (ex.keep a o hF ho);have hL' : s'.heap.IsList a vs.toArray := ⟨o,ho',hc,n,hd⟩
      have hl' := (hl.ext ex).ext e'';cases hv : l[i]? with
      | some v =>
        apply gG;intro nG
        obtain ⟨y,hy,hi⟩ := hl'.at hv;apply nG;clear nG;refine wpAny_pyNext_list_item hit hL' (by simpa using hy) fun h₁ hit₁ hs₁ => ?_
        apply gG;intro nG
        obtain ⟨ob',hob',hcl',hdt'⟩ := hit₁;obtain ⟨J,ex'⟩ := I''.turned1 (k := s'.toks) (c' := .raz (.type "list_iterator") (.fields #[.ref a,.int ((i + 1 : Nat) : Int) 0])) hob' (fun b x ne e => (hs₁.2 b ne).trans e) ⟨hcl',hdt'⟩;apply nG;clear nG;exact ⟨y,F',rfl,J,ex',hi.ext ex'⟩
      | none =>
        refine wpAny_pyNext_list_end hh hit hL' ?_ fun h₁ he => ?_
        · have := List.getElem?_eq_none_iff.mp hv;rw [List.getElem?_toArray];exact List.getElem?_eq_none_iff.mpr (by rw [hl.length]; exact this)
        · obtain ⟨J,ex'⟩ := I''.ended1 (k := s'.toks) (h' := h₁) (fun b x ne e => he b x ne e);exact ⟨rfl,F',J,ex'⟩
    · apply gG;intro nG
      obtain ⟨ob,hob,hcl,hdt⟩ := I''.st.mu _ (.head _);apply nG;clear nG;exact wpAny_pyIter_listiter (i := 0) ⟨ob,hob,hcl,hdt⟩ ⟨rfl,rfl⟩
end
end
section
open PySem PySem.W PyProof.Rows PySem.Calls
section
variable {prog : Program} {w : World} {A : Around} {E : Value → Shared → Prop} {s : Shared}
theorem dk_iter {d : Addr} {od : Obj} {es : Array DictEntry} {ep : Nat} {Q : Value → Shared → Prop} (hd : (d == sysModules) = false) (ho : s.heap.get? d = some od) (hc : od.cls = .type "dict") (hdat : od.data = .dict es ep)
    (hQ : Q (.ref s.heap.objs.size) { s with heap := s.heap.push { cls := .type "dict_keyiterator",data := .fields #[.ref d,.int 0 0,.int es.size 0,.int ep 0] } }) :
    wpAny (model prog w) A (pyIter (.ref d)) Q E s := by
  have hT : s.TypeIs (.ref d) "dict" := ⟨_,ho,hc⟩
  refine wpAny_pyIter_slot hT F.slot_dict_iter (wpAny_call_entry F.slot_dict_iter hT F.entry_dict_iter ?_ (F.args_dict_iter_1 _));unfold Builtin.«dict.__iter__»;refine wpAny_bind ?_;unfold Builtin.Dict.dictSlotNone;refine wpAny_bind (wpAny_notOrdered_dict hT ?_);show wpAny _ _ (pure (Value.ref d)) _ _ s;refine wpAny_pure ?_;show wpAny _ _ (Builtin.Dict.showsAll d >>= _) _ _ s;unfold Builtin.Dict.showsAll;rw [if_neg (by rw [hd]; exact Bool.false_ne_true)];refine wpAny_bind (wpAny_pure ?_);refine wpAny_bind (wpAny_dictEntries ho hdat ?_);refine wpAny_bind (wpAny_dictEpoch ho hdat ?_);refine wpAny_bind (wpAny_newObj_type (wpAny_pure ⟨_,rfl,"dict_keyiterator",_,⟨_,Heap.get?_push_size _ rfl,rfl⟩,F.slot_dict_keyiterator_next.lookup,?_⟩))
  simpa [rawInt] using hQ
theorem dk_item {it d : Addr} {i ep : Nat} {od : Obj} {es : Array DictEntry} {y : DictEntry} {Q : Option Value → Shared → Prop} (hit : s.heap.IsKeyIter it d i es.size ep) (hod : s.heap.get? d = some od) (hdd : od.data = .dict es ep) (hx : es[i]? = some y)
    (hQ : ∀ h',h'.IsKeyIter it d (i + 1) es.size ep → Heap.SameBut it s.heap h' → Q (some y.key) { s with heap := h' }) : wpAny (model prog w) A (pyNext (.ref it)) Q E s := by
  apply gG;intro nG
  obtain ⟨o,ho,hc,hd⟩ := id hit;apply nG;clear nG;unfold pyNext;refine wpAny_bind (wpAny_attempt (wpAny_callSpecial?_slot (name := Str.ofString "__next__") hit.typeIs F.slot_dict_keyiterator_next
    (wpAny_call_entry F.slot_dict_keyiterator_next hit.typeIs F.entry_dict_keyiterator_next ?_ (F.args_dict_keyiterator_next_1 _))))
  refine wpAny_bind (wpAny_pure ?_);refine wpAny_bind ?_;refine wpAny_bind ?_
  first | refine wpAny_bind (wpAny_typeNameOfWhole_keyiter hit.typeIs (wpAny_pure ?_)) | refine wpAny_bind (wpAny_typeNameOf_keyiter hit.typeIs (wpAny_pure ?_))
  refine wpAny_bind (wpAny_fieldsOf ho hd ?_);have hown : Builtin.Dict_items.ownsTuple "dict_keyiterator" = false := by decide
  rw [hown];show wpAny _ _ (if (Value.ref d == Value.none) = true then _ else _) _ _ s;rw [if_neg (show ¬ ((Value.ref d == Value.none) = true) from Bool.false_ne_true)];refine wpAny_bind (wpAny_pure ?_);refine wpAny_bind (wpAny_dictEntries hod hdd ?_);rw [if_neg (by simp)];refine wpAny_bind (wpAny_pure ?_);refine wpAny_bind (wpAny_dictEpoch hod hdd ?_);rw [if_neg (by simp)];refine wpAny_pure ?_;dsimp only;rw [if_neg (show ¬ ((i : Int) < 0) from Int.not_lt.mpr (Int.natCast_nonneg i)),Int.toNat_natCast,hx];refine wpAny_bind ?_
  first | refine wpAny_bind (wpAny_typeNameOfWhole_keyiter hit.typeIs (wpAny_pure ?_)) | refine wpAny_bind (wpAny_typeNameOf_keyiter hit.typeIs (wpAny_pure ?_))
  refine wpAny_bind (wpAny_isOneOf_keyiter hit.typeIs ?_);show wpAny _ _ (setField (.ref it) 1 (rawInt ((i : Int) + 1)) >>= _) _ _ s;refine wpAny_bind (wpAny_setField ho hd (by simp) ?_);have hit' : (s.heap.update it (Obj.mapFields (·.setIfInBounds 1 (rawInt ((i : Int) + 1))))).IsKeyIter it d (i + 1) es.size ep :=
    ⟨_,Heap.get?_update_self _ ho (Obj.isFreed_of_fields (Obj.data_mapFields hd _)),(Obj.cls_mapFields ..).trans hc,by rw [Obj.data_mapFields hd]; simp [rawInt]⟩
  refine wpAny_bind (wpAny_holding ?_);refine wpAny_bind (wpAny_isOneOf_keyiter (s := { s with heap := s.heap.update it (Obj.mapFields (·.setIfInBounds 1 (rawInt ((i : Int) + 1)))) }) hit'.typeIs ?_);show wpAny _ _ (pure y.key) _ _ _;exact wpAny_pure (wpAny_pure ⟨_,rfl,wpAny_pure (hQ _ hit' (Heap.SameBut.update ..))⟩)
theorem dk_end {it d : Addr} {i ep : Nat} {od : Obj} {es : Array DictEntry} {Q : Option Value → Shared → Prop} (hh : A.handled = none) (hit : s.heap.IsKeyIter it d i es.size ep) (hod : s.heap.get? d = some od) (hdd : od.data = .dict es ep) (hx : es[i]? = none)
    (hQ : ∀ h',Heap.ExtBut it s.heap h' → Q none { s with heap := h' }) : wpAny (model prog w) A (pyNext (.ref it)) Q E s := by
  apply gG;intro nG
  obtain ⟨o,ho,hc,hd⟩ := id hit;apply nG;clear nG;unfold pyNext;refine wpAny_bind (wpAny_attempt (wpAny_callSpecial?_slot (name := Str.ofString "__next__") hit.typeIs F.slot_dict_keyiterator_next
    (wpAny_call_entry F.slot_dict_keyiterator_next hit.typeIs F.entry_dict_keyiterator_next ?_ (F.args_dict_keyiterator_next_1 _))))
  refine wpAny_bind (wpAny_pure ?_);refine wpAny_bind ?_;refine wpAny_bind ?_
  first | refine wpAny_bind (wpAny_typeNameOfWhole_keyiter hit.typeIs (wpAny_pure ?_)) | refine wpAny_bind (wpAny_typeNameOf_keyiter hit.typeIs (wpAny_pure ?_))
  refine wpAny_bind (wpAny_fieldsOf ho hd ?_);have hown : Builtin.Dict_items.ownsTuple "dict_keyiterator" = false := by decide
  rw [hown];show wpAny _ _ (if (Value.ref d == Value.none) = true then _ else _) _ _ s;rw [if_neg (show ¬ ((Value.ref d == Value.none) = true) from Bool.false_ne_true)];refine wpAny_bind (wpAny_pure ?_);refine wpAny_bind (wpAny_dictEntries hod hdd ?_);rw [if_neg (by simp)];refine wpAny_bind (wpAny_pure ?_);refine wpAny_bind (wpAny_dictEpoch hod hdd ?_);rw [if_neg (by simp)];refine wpAny_pure ?_;dsimp only;rw [if_neg (show ¬ ((i : Int) < 0) from Int.not_lt.mpr (Int.natCast_nonneg i)),Int.toNat_natCast,hx];refine wpAny_bind ?_
  first | refine wpAny_bind (wpAny_typeNameOfWhole_keyiter hit.typeIs (wpAny_pure ?_)) | refine wpAny_bind (wpAny_typeNameOf_keyiter hit.typeIs (wpAny_pure ?_))
  show wpAny _ _ (setField (.ref it) 0 .none >>= _) _ _ s;refine wpAny_bind (wpAny_setField ho hd (by simp) ?_);show wpAny _ _ (newExc (.type "StopIteration") [] >>= _) _ _ _;refine wpAny_bind ?_;simp only [newExc,newTuple];refine wpAny_bind (wpAny_newObj_type ?_ (by size_fits));refine wpAny_bind (m := firstArgMember _ _) (wpAny_of_eq (a := Value.none) (by first | rfl | (simp only [firstArgMember]; rfl)) ?_);refine wpAny_newObj_type ?_ (by size_fits);unfold raiseNew;dsimp only;refine wpAny_bind (wpAny_handled ?_);rw [show A.in1.handled = none from hh];refine wpAny_bind (wpAny_pure (wpAny_throw ?_));refine wpAny_bind (wpAny_isInstance (T := "StopIteration") (b := true) ⟨_,Heap.get?_push_size _ rfl,rfl⟩ isSubtype_stop ?_);exact wpAny_pure (hQ _ (((Heap.SameBut.update ..).extBut.push _).push _))
end
section
variable {W : Wd} {Φ : Fx} {ns : List Str} {gs : List (Str × Value)} {μ μ' : Mu} {ℓ : Loc}
theorem isE_at {h : Heap} {F : Addr → Prop} {l : List (List Int × V)} {es : List DictEntry} (H : IsE h F l es) {i : Nat} {p : List Int × V} : l[i]? = some p → ∃ y,es[i]? = some y ∧ Is h F (.tup (p.1.map V.int)) y.key := by
  induction H generalizing i with
  | nil => intro e; cases e
  | cons hh hk hv hl ih =>
    cases i with
    | zero => exact fun e => ⟨_,rfl,Option.some.inj e ▸ hk⟩
    | succ i => exact fun e => ih e
theorem isE_len {h : Heap} {F : Addr → Prop} {l : List (List Int × V)} {es : List DictEntry} (H : IsE h F l es) : es.length = l.length := H.rec rfl fun u_ u_ u_ u_ i => congrArg (· + 1) i
theorem In.pin {d : Addr} {l : List (List Int × V)} {F : Addr → Prop} {s : Shared} (I : In W Φ ns F ((d,.dict l) :: μ) ℓ s) : ∃ o,In W Φ ns F ((d,.dictX o l) :: μ) ℓ s := by
  apply gG;intro nG
  obtain ⟨o,ho,hc⟩ := I.cell (.head _);apply nG;clear nG;refine ⟨o,⟨I.st.gens,I.st.os,I.st.base,fun p hp => ?_,I.st.nodup,I.st.froz,I.st.frozBase⟩,I.loc,I.apart,I.nfroz,⟨I.grow.keep,I.grow.mono,I.grow.froz,I.grow.new⟩⟩;rcases List.mem_cons.mp hp with rfl | hp
  · exact ⟨o,ho,rfl,hc⟩
  · exact I.st.mu p (.tail _ hp)
theorem In.unpin {d : Addr} {o : Obj} {l : List (List Int × V)} {F : Addr → Prop} {s : Shared} (I : In W Φ ns F ((d,.dictX o l) :: μ) ℓ s) : In W Φ ns F ((d,.dict l) :: μ) ℓ s := by
  refine ⟨⟨I.st.gens,I.st.os,I.st.base,fun p hp => ?_,I.st.nodup,I.st.froz,I.st.frozBase⟩,I.loc,I.apart,I.nfroz,⟨I.grow.keep,I.grow.mono,I.grow.froz,I.grow.new⟩⟩;rcases List.mem_cons.mp hp with rfl | hp
  · apply gG;intro nG
    obtain ⟨o',ho,hc⟩ := I.cell (.head _);apply nG;clear nG;exact ⟨o',ho,hc.2⟩
  · exact I.st.mu p (.tail _ hp)
theorem x_pin {α β : Type} {R : Heap → (Addr → Prop) → β → α → Prop} {t : Sem α} {d : Addr} {l : List (List Int × V)} {Q : β → Mu → Loc → Prop} (h : Take (d,Ce.dict l) μ μ') (k : ∀ o,X W R Φ ns gs ((d,.dictX o l) :: μ') ℓ t fun b μ₁ ℓ => ∃ μ₂,Take (d,Ce.dictX o l) μ₁ μ₂ ∧ Q b ((d,.dict l) :: μ₂) ℓ) : X W R Φ ns gs μ ℓ t Q := by
  intro s F G O I;obtain ⟨o,I'⟩ := (I.perm h.perm).pin;refine wN.mono (k o s F G O I') (fun x s' z => ?_) fun u_ u_ z => z
  apply gG;intro nG
  obtain ⟨F',b,μ₁,ℓ',J,e,hr,μ₂,tk,q⟩ := z;apply nG;clear nG;exact ⟨F',b,_,ℓ',(J.perm tk.perm).unpin,e,hr,q⟩
theorem s_dictX {d : Addr} {ob : Obj} {l : List (List Int × V)} {ks : List Int} {v : V} {Q : V → Mu → Loc → Prop} (hm : (d,Ce.dictX ob l) ∈ μ) (hv : dGet l ks = some v) (q : Q v μ ℓ) :
    X2 W RV Φ ns gs μ ℓ (.val (.ref d)) (.tup (ks.map V.int)) getItem Q := by
  intro s F y x G O I hy hx;obtain ⟨_,rfl⟩ := hy.inv;obtain ⟨o,ho,_,hc⟩ := I.cell hm;obtain ⟨xs,hxs,hD⟩ := dict_of (l := l) ho hc;rcases hxs.get (ks := ks) with ⟨e,_⟩ | ⟨v',a,z,e1,e2,hz⟩
  · rw [hv] at e; cases e
  · rw [hv] at e1; cases e1;cases hx with
    | tup hF ho' hc' hd' hl => exact .of (wpAny_getItem_heap (room_key O) (tupKey W (.tup hF ho' hc' hd' hl)) hD e2 (res_tok I hz q))
theorem itC_dict {d : Addr} {o : Obj} {l : List (List Int × V)} (hd : (d == sysModules) = false) (hm : (d,Ce.dictX o l) ∈ μ) : ItersC W Φ ns gs (.val (.ref d)) [(d,.dictX o l)] (l.map fun p => V.tup (p.1.map V.int)) μ ℓ := by
  intro s F x G O I hx;apply gG;intro nG
  obtain ⟨_,rfl⟩ := hx.inv;obtain ⟨o',ho,rfl,es,ep,rfl,hE,nd⟩ := I.cell hm;apply nG;clear nG;refine .of (dk_iter hd ho rfl rfl ?_);obtain ⟨I',ex⟩ := I.made (k := s.toks) (c := .raz (.type "dict_keyiterator") (.fields #[.ref d,.int ((0 : Nat) : Int) 0,.int es.size 0,.int ep 0])) (o := { cls := .type "dict_keyiterator",data := .fields #[.ref d,.int 0 0,.int es.size 0,.int ep 0] }) rfl ⟨rfl,rfl⟩;refine ⟨_,fun i => .raz (.type "dict_keyiterator") (.fields #[.ref d,.int (i : Int) 0,.int es.size 0,.int ep 0]),F,rfl,I',ex,fun i Φ' ns' F' μ' ℓ' s' G' hh need hi I'' e'' => ?_,fun Φ' ns' F' μ' ℓ' s' I'' => ?_⟩
  · apply gG;intro nG
    obtain ⟨ob,hob,hcl,hdt⟩ := I''.st.mu _ (.head _);have hit : s'.heap.IsKeyIter s.heap.objs.size d i es.size ep := ⟨ob,hob,hcl,hdt⟩
    obtain ⟨o2,ho2,e2,es2,ep2,e3,hE2,_⟩ := I''.cell (.tail _ (need _ (.head _)));apply nG;clear nG;subst e2;cases e3;have hlen : es.size = l.length := by rw [← isE_len hE2,Array.length_toList]
    rw [List.getElem?_map];cases hv : l[i]? with
    | some p =>
      apply gG;intro nG
      obtain ⟨y,hy,hk⟩ := isE_at hE2 hv;apply nG;clear nG;refine dk_item hit ho2 rfl (by rw [← Array.getElem?_toList]; exact hy) fun h₁ hit₁ hs₁ => ?_
      apply gG;intro nG
      obtain ⟨ob',hob',hcl',hdt'⟩ := hit₁;obtain ⟨J,ex'⟩ := I''.turned1 (k := s'.toks) (c' := .raz (.type "dict_keyiterator") (.fields #[.ref d,.int ((i + 1 : Nat) : Int) 0,.int es.size 0,.int ep 0])) hob' (fun b x ne e => (hs₁.2 b ne).trans e) ⟨hcl',hdt'⟩;apply nG;clear nG;exact ⟨y.key,F',rfl,J,ex',hk.ext ex'⟩
    | none =>
      refine dk_end hh hit ho2 rfl ?_ fun h₁ he => ?_
      · have := List.getElem?_eq_none_iff.mp hv;exact Array.getElem?_eq_none (by rw [hlen]; exact this)
      · obtain ⟨J,ex'⟩ := I''.ended1 (k := s'.toks) (h' := h₁) (fun b x ne e => he b x ne e);exact ⟨rfl,F',J,ex'⟩
  · apply gG;intro nG
    obtain ⟨ob,hob,hcl,hdt⟩ := I''.st.mu _ (.head _);apply nG;clear nG;exact wpAny_pyIter_keyiter (i := 0) (n := es.size) (ep := ep) (d := d) ⟨ob,hob,hcl,hdt⟩ ⟨rfl,rfl⟩
end
end
section
open PySem PySem.W PyProof.Rows PySem.Calls
mutual
noncomputable def toV : PyData → V
  | .none => .none
  | .bool b => .bool b
  | .int i => .int i
  | .str s => .str s
  | .list xs => .lst (toVL xs)
  | .tuple xs => .tup (toVL xs)
  | .dict _ => .none
noncomputable def toVL : List PyData → List V
  | [] => []
  | x :: xs => toV x :: toVL xs
end
theorem toVL_map : ∀ xs : List PyData,toVL xs = xs.map toV
  | [] => rfl
  | x :: xs => congrArg (toV x :: ·) (toVL_map xs)
mutual
theorem is_reads {h : Heap} {F : Addr → Prop} : ∀ {d : PyData} {x : Value},d.canLay0 = true → Is h F (toV d) x → ∃ as,Reads h x d as
  | .none,x,_,hx => by obtain ⟨_,rfl⟩ := hx.inv; exact ⟨_,.none⟩
  | .bool b,x,_,hx => by obtain ⟨_,rfl⟩ := hx.inv; exact ⟨_,.bool _⟩
  | .int i,x,_,hx => by obtain ⟨_,rfl⟩ := hx.inv; exact ⟨_,.int _ _⟩
  | .str i,x,_,hx => by cases hx; exact ⟨_,.str _ _⟩
  | .list xs,x,hc,hx => by
    have hx : Is h F (.lst (toVL xs)) x := hx;cases hx with
    | lst hF ho hc' hd hl =>
      obtain ⟨as,r⟩ := is_readsAll (by rw [PyData.canLay0] at hc; exact hc) hl;exact ⟨_,.list ho hc' hd r⟩
  | .tuple xs,x,hc,hx => by
    have hx : Is h F (.tup (toVL xs)) x := hx;cases hx with
    | tup hF ho hc' hd hl =>
      obtain ⟨as,r⟩ := is_readsAll (by rw [PyData.canLay0] at hc; exact hc) hl;exact ⟨_,.tuple ho hc' hd r⟩
  | .dict _,x,hc,_ => by rw [PyData.canLay0] at hc; cases hc
theorem is_readsAll {h : Heap} {F : Addr → Prop} : ∀ {ds : List PyData} {xs : List Value},PyData.canLayAll0 ds = true → IsL h F (toVL ds) xs → ∃ as,ReadsAll h xs ds as
  | [],xs,_,hx => by cases hx; exact ⟨_,.nil⟩
  | d :: ds,xs,hc,hx => by
    have hx : IsL h F (toV d :: toVL ds) xs := hx;rw [PyData.canLayAll0,Bool.and_eq_true] at hc;cases hx with
    | cons hv hl =>
      apply gG;intro nG
      obtain ⟨as,r⟩ := is_reads hc.1 hv;obtain ⟨bs,q⟩ := is_readsAll hc.2 hl;apply nG;clear nG;exact ⟨_,.cons r q⟩
end
section
variable {W : Wd} {Φ : Fx} {ns : List Str} {gs : List (Str × Value)} {μ μ' : Mu} {ℓ : Loc}
theorem c_ne_dat {a b : V} {d e : PyData} {Q : V → Mu → Loc → Prop} (ha : a = toV d) (hb : b = toV e) (cd : d.canLay0 = true) (ce : e.canLay0 = true) (hd : d.depth ≤ 50) (q : Q (.bool (!PyData.eqv d e)) μ ℓ) : X2 W RV Φ ns gs μ ℓ a b (compareOp .NotEq) Q := by
  subst ha hb;intro s F x y G O I hx hy;apply gG;intro nG
  obtain ⟨as,ra⟩ := is_reads cd hx;obtain ⟨bs,rb⟩ := is_reads ce hy;apply nG;clear nG;refine .of (SeqAt.compareNe_reads ra rb cd ce ?_ (res_here I .bool q));have := O.room.units;have h2 := Nat.min_le_left d.depth e.depth;unfold cLine;exact q5 hd this
theorem c_eq_dat {a b : V} {d e : PyData} {Q : V → Mu → Loc → Prop} (ha : a = toV d) (hb : b = toV e) (cd : d.canLay0 = true) (ce : e.canLay0 = true) (hd : d.depth ≤ 50) (q : Q (.bool (PyData.eqv d e)) μ ℓ) : X2 W RV Φ ns gs μ ℓ a b (compareOp .Eq) Q := by
  subst ha hb;intro s F x y G O I hx hy;apply gG;intro nG
  obtain ⟨as,ra⟩ := is_reads cd hx;obtain ⟨bs,rb⟩ := is_reads ce hy;apply nG;clear nG;refine .of (SeqAt.compareEq_reads ra rb cd ce ?_ (res_here I .bool q));have := O.room.units;have h2 := Nat.min_le_left d.depth e.depth;unfold cLine;exact q5 hd this
theorem eqv_ints : ∀ (ks js : List Int),PyData.eqvAll (ks.map .int) (js.map .int) = decide (ks = js)
  | [],[] => rfl
  | [],_ :: _ => rfl
  | _ :: _,[] => rfl
  | k :: ks,j :: js => by
    rw [List.map_cons,List.map_cons,PyData.eqvAll,eqv_ints ks js];show (PyData.eqv (.int k) (.int j) && _) = _;have : PyData.eqv (.int k) (.int j) = (k == j) := rfl;rw [this]
    by_cases h1 : k = j
    · subst h1; by_cases h2 : ks = js
      · subst h2; simp
      · simp [h2]
    · simp [h1]
theorem c_ne_tup {ks js : List Int} {Q : V → Mu → Loc → Prop} (q : Q (.bool (!decide (ks = js))) μ ℓ) : X2 W RV Φ ns gs μ ℓ (.tup (ks.map V.int)) (.tup (js.map V.int)) (compareOp .NotEq) Q := by
  have e : ∀ l : List Int,V.tup (l.map V.int) = toV (.tuple (l.map .int)) := fun l => by show _ = V.tup (toVL _); rw [toVL_map,List.map_map]; rfl
  have c : ∀ l : List Int,PyData.canLayAll0 (l.map .int) = true := fun l => by
    induction l with
    | nil => rfl
    | cons x l ih => rw [List.map_cons,PyData.canLayAll0,ih]; rfl
  have dp : ∀ l : List Int,(PyData.tuple (l.map .int)).depth ≤ 50 := fun l => by
    have z : ∀ l : List Int,PyData.depthAll (l.map .int) = 0 := fun l => by
      induction l with
      | nil => rfl
      | cons x l ih => rw [List.map_cons,PyData.depthAll,ih]; rfl
    rw [PyData.depth,z]; decide
  refine c_ne_dat (e ks) (e js) (by rw [PyData.canLay0]; exact c _) (by rw [PyData.canLay0]; exact c _) (dp ks) ?_;rw [show PyData.eqv (.tuple (ks.map .int)) (.tuple (js.map .int)) = PyData.eqvAll (ks.map .int) (js.map .int) by rw [PyData.eqv],eqv_ints];exact q
end
end
section
open PySem PySem.W PyProof.Rows PySem.Calls
theorem cut_tail {pre tail : List UInt8} : cutL (pre ++ tail) (some (pre.length : Nat)) none = tail := by
  unfold cutL;rw [show (some ((pre.length : Nat) : Int)).elim 0 (clipAt (pre ++ tail).length) = pre.length by show clipAt _ _ = _; rw [clipAt_nat,List.length_append]; exact q98,List.drop_left];exact List.take_of_length_le (by show tail.length ≤ (pre ++ tail).length - _; rw [List.length_append]; exact q380)
section
variable {W : Wd} (hK : Kn W.K)
theorem g_ini {Φ : Fx} {ns : List Str} {gs : List (Str × Value)} {μ μ' : Mu} {ℓ : Loc} {a C p : Addr} {l : List (Option V)} {i n : Nat} {name : Str} {v : V} {Q : Unit → Mu → Loc → Prop} (hk : classOk W.K C = true) (hp : slotAt W.K C name p i = true) (hi : i < n) (U : UpdM μ a (.inst C l) (.inst C (l.set i (some v))) μ') (hl : l.length = n) (q : Q () μ' ℓ) :
    X2 W RU Φ ns gs μ ℓ (.val (.ref a)) v (fun x y => setAttr x name y) Q := g_put hk hp (by rw [hl]; exact hi) U q
theorem l_make {Φ : Fx} {ns : List Str} {gs : List (Str × Value)} {μ : Mu} {ℓ : Loc} {C init : Addr} {m k : Nat} {args : List V} {P : Addr → Mu → Prop} {Q : V → Mu → Loc → Prop} (hm : makesIn W.K C = true) (hi : methAt W.K C "__init__" init = true)
    (h : ∀ a,Spec W m (.ref init) (.val (.ref a) :: args) [] [(a,.inst C (List.replicate k none))] (fun v μ' => v = .none ∧ P a μ')) (hn : Φ.n = m + 1) (q : ∀ a μ',P a μ' → Q (.val (.ref a)) (μ' ++ μ) ℓ) :
    XL W RV Φ ns gs μ ℓ args (fun xs => call (.ref C) xs) Q := by
  intro s F xs G O I hx;have X := I.K G;unfold methAt at hi;apply gG;intro nG
  obtain ⟨hi,hk⟩ := Bool.and_eq_true_iff.mp hi;obtain ⟨hf,ht⟩ := Bool.and_eq_true_iff.mp hi;obtain ⟨I1,x1⟩ := I.born (o := emptyDict) (k := s.toks) rfl;apply nG;clear nG;have hdx : (s.heap.push emptyDict).get? s.heap.objs.size = some emptyDict := by heap_get
  have hc : CIs (s.heap.push emptyDict) (Frz F s.heap.objs.size) (.inst C (List.replicate k none)) (instObj C s.heap.objs.size) :=
    ⟨_,_,rfl,.inr rfl,hdx,fun i => by
      have e : ((List.replicate k (none : Option V))[i]?).join = none := by rw [List.getElem?_replicate]; split <;> rfl
      rw [e]; trivial⟩
  obtain ⟨I2,x2⟩ := I1.made (o := instObj C s.heap.objs.size) (k := s.toks) rfl hc;have ha : (s.heap.push emptyDict).objs.size = s.heap.objs.size + 1 := by simp [Heap.push]
  rw [ha] at I2;refine .call (make_N (init := .ref init) (makes_of X hm) (looks_findIn X (beq_iff_eq.mp hf)) (fun self => bind_fn X self (beq_iff_eq.mp ht)) rfl ?_);have ex := x1.trans x2;refine cN.mono (h (s.heap.objs.size + 1) _ _ _ (.ref (s.heap.objs.size + 1) :: xs) [] G (Room.under (O.room.le (by exact q381 hn)) C xs []) (I2.st.left (μ₁ := [(s.heap.objs.size + 1,_)]) (ν := μ)) (.cons .val (hx.ext ex)) .nil) fun r s' ⟨val,e,F',v,μ',J,g,hv,hv0,hp⟩ => ?_
  subst hv0;apply gG;intro nG
  obtain ⟨_,rfl⟩ := hv.inv;obtain ⟨i,e'⟩ := I2.spec (μ₁ := [(s.heap.objs.size + 1,_)]) (ν := μ) O g J;apply nG;clear nG;exact ⟨e,F',_,_,_,i,ex.trans e',.val,q _ _ hp⟩
include hK
theorem put_forceDefaults {Φ : Fx} {ns : List Str} {gs : List (Str × Value)} {μ μ' : Mu} {ℓ : Loc} {a ba : Addr} {cv oe vt : V} {fin ne : Bool} {hd ma : Int} {vne : Option V} {Q : Unit → Mu → Loc → Prop} (U : UpdM μ a (.inst 693 (bsl ba cv fin hd ma ne oe vne vt)) (.inst 693 (bsl ba cv fin hd ma ne oe vne vt)) μ') (q : Q () μ' ℓ) : X2 W RU Φ ns gs μ ℓ (.val (.ref a)) (.bool false) (fun x y => setAttr x "forceDefaults" y) Q := g_put (kB hK) (sB_forceDefaults hK) (l := bsl ba cv fin hd ma ne oe vne vt) (i := 3) (show 3 < 11 by decide) U q
theorem put_sharedStrings {Φ : Fx} {ns : List Str} {gs : List (Str × Value)} {μ μ' : Mu} {ℓ : Loc} {a ba : Addr} {cv oe vt : V} {fin ne : Bool} {hd ma : Int} {vne : Option V} {Q : Unit → Mu → Loc → Prop} (U : UpdM μ a (.inst 693 (bsl ba cv fin hd ma ne oe vne vt)) (.inst 693 (bsl ba cv fin hd ma ne oe vne vt)) μ') (q : Q () μ' ℓ) : X2 W RU Φ ns gs μ ℓ (.val (.ref a)) (.none) (fun x y => setAttr x "sharedStrings" y) Q := g_put (kB hK) (sB_sharedStrings hK) (l := bsl ba cv fin hd ma ne oe vne vt) (i := 8) (show 8 < 11 by decide) U q
theorem init_spec {a : Addr} {n : Nat} (h : n ≤ 60) : Spec W 1 (.ref 307) [.val (.ref a),.int n] [] [(a,.inst 693 (List.replicate 11 none))]
    (fun v μ' => v = .none ∧ ∃ ba vt pre,pre.length = n ∧ μ' = bB a ba .none false pre [] 1 false .none none vt) := by
  refine spec_fn hK (f_307 hK) ["self","initialSize"] ["msg"] [("Builder",.ref 693),("bytearray",.type "bytearray"),("UOffsetTFlags",.ref 146)] (fun u_ u_ u_ u_ u_ u_ u_ u_ => bind_gen (args := [.val (.ref a),.int n]) (kw := []) (dV := []) (used := []) (ta_300 hK) rfl (fun u_ u_ => .nil) (len2 fun u_ u_ => len0 ⟨_,rfl,rfl⟩)) (fun Φ hn Q hQ => ?_);refine nl 1 ?_;refine if_t (decide_eq_true (by (first | with_reducible exact Int.natCast_nonneg _ | with_reducible exact nn31 | lia))) ?_;refine ng_ 0 ?_;refine g_cls (kF_B hK) (aF_MAX hK) (fun u_ u_ => .int) ?_;refine if_f (by rw [decide_eq_true (by exact q382 h)]; rfl) ?_;refine ng_ 1 ?_;refine kb ?_;refine nl 1 ?_;refine l_ba_n (by exact q48) (by exact q383 h) (fun ba => ?_);rw [Int.toNat_natCast];apply gG;intro nG
  obtain ⟨pre,hpre⟩ : ∃ pre,List.replicate n (0 : UInt8) = pre := ⟨_,rfl⟩
  apply nG;clear nG;have hpl : pre.length = n := by rw [← hpre]; simp
  rw [hpre];clear hpre;subst hpl;refine nl 0 ?_;refine g_ini (kB hK) (sB_Bytes hK) (i := 0) (n := 11) (by decide) (by repeat' constructor) rfl ?_;refine nl 0 ?_;refine g_ini (kB hK) (sB_current_vtable hK) (i := 1) (n := 11) (by decide) (by repeat' constructor) rfl ?_;refine ng_ 2 ?_;refine m_typ (kF_UO hK) (aF_UO_py_type hK) int_typ ?_;refine ⟨.inr rfl,?_⟩;refine nl 1 ?_;refine l_int ?_;refine nl 0 ?_;refine g_ini (kB hK) (sB_head hK) (i := 4) (n := 11) (by decide) (by repeat' constructor) rfl ?_;refine nl 0 ?_;refine g_ini (kB hK) (sB_minalign hK) (i := 5) (n := 11) (by decide) (by repeat' constructor) rfl ?_;refine nl 0 ?_;refine g_ini (kB hK) (sB_objectEnd hK) (i := 7) (n := 11) (by decide) (by repeat' constructor) rfl ?_;refine x_Dict0 (fun d => ?_);refine nl 0 ?_;refine g_ini (kB hK) (sB_vtables hK) (i := 10) (n := 11) (by decide) (by repeat' constructor) rfl ?_;refine nl 0 ?_;refine g_ini (kB hK) (sB_nested hK) (i := 6) (n := 11) (by decide) (by repeat' constructor) rfl ?_;refine nl 0 ?_;refine g_ini (kB hK) (sB_forceDefaults hK) (i := 3) (n := 11) (by decide) (by repeat' constructor) rfl ?_;refine nl 0 ?_;refine g_ini (kB hK) (sB_sharedStrings hK) (i := 8) (n := 11) (by decide) (by repeat' constructor) rfl ?_;refine nl 0 ?_;refine g_ini (kB hK) (sB_finished hK) (i := 2) (n := 11) (by decide) (by repeat' constructor) rfl ?_;exact hQ _ _ [bI a ba .none false (pre.length : Nat) 1 false .none none (.val (.ref d)),(ba,.ba pre)] _ (by repeat' constructor) ⟨rfl,ba,.val (.ref d),pre,rfl,by unfold bB; rw [List.append_nil]⟩
theorem clear_spec {a ba : Addr} {cv oe vt : V} {fin ne : Bool} {ma : Int} {vne : Option V} {pre tail : List UInt8} (hz : pre.length + tail.length ≤ 4096) : Spec W 1 (.ref 314) [.val (.ref a)] [] (bB a ba cv fin pre tail ma ne oe vne vt)
    (fun v μ' => v = .none ∧ ∃ d,(d == sysModules) = false ∧ μ' = bB a ba .none false (pre ++ tail) [] 1 false .none (some .none) (.val (.ref d)) ++ [(d,.dict [])]) := by
  refine spec_fn hK (f_314 hK) ["self"] [] [("len",.builtin "len")] (fun u_ u_ u_ u_ u_ u_ u_ u_ => bind_pos (len1 fun u_ => by kernel_rfl)) (fun Φ hn Q hQ => ?_);refine nl 0 ?_;refine put_current_vtable hK (by repeat' constructor) ?_;refine ng_ 0 ?_;refine kb ?_;refine nl 0 ?_;refine get_Bytes hK (by repeat' constructor) ?_;refine l_len_ba (by repeat' constructor) (by (first | assumption | omega | (simp only [List.length_append,List.length_replicate]; (exact Nat.le_trans (by assumption) (by decide))) | (simp; (first | lia | omega)))) ?_;refine nl 0 ?_;refine put_head hK (by repeat' constructor) ?_;refine nl 0 ?_;refine put_minalign hK (by repeat' constructor) ?_;refine nl 0 ?_;refine put_objectEnd hK (by repeat' constructor) ?_;refine x_Dict1 (fun d hd => ?_);refine nl 0 ?_;refine put_vtables hK (by repeat' constructor) ?_;refine nl 0 ?_;refine put_nested hK (by repeat' constructor) ?_;refine nl 0 ?_;refine put_forceDefaults hK (by repeat' constructor) ?_;refine nl 0 ?_;refine put_sharedStrings hK (by repeat' constructor) ?_;refine nl 0 ?_;refine put_vectorNumElems hK (by repeat' constructor) ?_;refine nl 0 ?_;refine put_finished hK (by repeat' constructor) ?_;exact hQ _ _ [bI a ba .none false ((pre ++ tail).length : Nat) 1 false .none (some .none) (.val (.ref d)),(ba,.ba (pre ++ tail)),(d,.dict [])] _ (by repeat' constructor) ⟨rfl,d,hd,by unfold bB; rw [List.append_nil]; rfl⟩
theorem output_spec {a ba : Addr} {cv oe vt : V} {ne : Bool} {ma : Int} {vne : Option V} {pre tail : List UInt8} (hz : pre.length + tail.length ≤ 4096) : Spec W 1 (.ref 321) [.val (.ref a)] [] (bB a ba cv true pre tail ma ne oe vne vt)
    (fun v μ' => ∃ o,v = .val (.ref o) ∧ μ' = (o,.ba tail) :: (bB a ba cv true pre tail ma ne oe vne vt)) := by
  refine spec_fn hK (f_321 hK) ["self"] [] [] (fun u_ u_ u_ u_ u_ u_ u_ u_ => bind_pos (len1 fun u_ => by kernel_rfl)) (fun Φ hn Q hQ => ?_);refine nl 0 ?_;refine get_finished hK (by repeat' constructor) ?_;refine if_f (by rfl) ?_;refine nl 0 ?_;refine get_Bytes hK (by repeat' constructor) ?_;refine nl 0 ?_;refine get_head hK (by repeat' constructor) ?_;refine ⟨.ba (by repeat' constructor),?_⟩;refine s_ba (by repeat' constructor) .int .none (by rw [List.length_append]; exact q384 hz) (fun o => ?_);rw [cut_tail];exact hQ _ _ _ _ (by repeat' constructor) ⟨o,rfl,rfl⟩
end
end
section
open PySem PySem.W PyProof.Rows PySem.Calls
theorem leN_leB : ∀ (n x : Nat),leN (leB n x) = x % 256 ^ n
  | 0,x => by rw [Nat.pow_zero,Nat.mod_one]; rfl
  | n + 1,x => by
    have e : leB (n + 1) x = (x % 256).toUInt8 :: leB n (x / 256) := by
      unfold leB;rw [List.range_succ_eq_map,List.map_cons,List.map_map,Nat.pow_zero,Nat.div_one];refine congrArg _ (List.map_congr_left fun k u_ => ?_);show (x / 256 ^ (k + 1) % 256).toUInt8 = _;rw [Nat.pow_succ',Nat.div_div_eq_div_mul]
    rw [e];have e2 : leN ((x % 256).toUInt8 :: leB n (x / 256)) = leN (leB n (x / 256)) * 256 + (x % 256) := by
      show leN (leB n (x / 256)) * 256 + ((x % 256).toUInt8).toNat = _;have : ((x % 256).toUInt8).toNat = x % 256 % 256 := UInt8.toNat_ofNat';exact q24 this
    rw [e2,leN_leB n (x / 256),Nat.pow_succ',Nat.mod_mul];exact q25
theorem enc_int {f : Fm} {z : Int} : f.enc (.int z) = leB f.n (z % 2 ^ (8 * f.n)).toNat := by cases f <;> rfl
theorem dec_w {n : Nat} {z : Int} (h0 : 0 ≤ z) (h1 : z < 256 ^ n) : V.int (leN (leB n (z % 2 ^ (8 * n)).toNat)) = .int z := by
  have e : (2 : Int) ^ (8 * n) = 256 ^ n := by rw [Int.pow_mul]; rfl
  have hc : ((256 ^ n : Nat) : Int) = 256 ^ n := by simp
  rw [leN_leB,e,Int.emod_eq_of_lt h0 h1,Nat.mod_eq_of_lt (by exact q26 h0 h1 hc)];exact congrArg V.int (by exact q27 h0)
theorem sgn_w {z : Int} (h0 : -(2 ^ 31) ≤ z) (h1 : z < 2 ^ 31) : sgn4 (leN (leB 4 (z % 2 ^ (8 * 4)).toNat)) = z := by
  have e : (2 : Int) ^ (8 * 4) = 4294967296 := rfl;have e' : (256 : Nat) ^ 4 = 4294967296 := rfl;rw [leN_leB,e,e'];unfold sgn4
  split
  · rename_i h; have h := of_decide_eq_true h; omega
  · rename_i h; have h : ¬ _ := fun q => h (decide_eq_true q); lia
theorem dec_enc {f : Fm} {v : V} (w : f.fits v) : f.dec (f.enc v) = v := by
  cases v with
  | bool b =>
    cases f with
    | q => cases b <;> rfl
    | _ => exact w.elim
  | int z =>
    cases f with
    | q => exact w.elim
    | B => rw [enc_int]; exact dec_w (n := 1) w.1 w.2
    | H => rw [enc_int]; exact dec_w (n := 2) w.1 w.2
    | I => rw [enc_int]; exact dec_w (n := 4) w.1 w.2
    | i => rw [enc_int]; exact congrArg V.int (sgn_w w.1 w.2)
  | _ => cases f <;> exact w.elim
noncomputable def Rd (M : List UInt8) (off : Nat) (f : Fm) (v : V) : Prop := off + f.n ≤ M.length ∧ f.dec ((M.drop off).take f.n) = v
theorem Rd.of {M p r : List UInt8} {f : Fm} {v : V} {off : Nat} (hv : f.fits v) (e : M = p ++ (f.enc v ++ r)) (ho : off = p.length) : Rd M off f v := by
  have hl := Fm.enc_length hv;subst e ho;refine ⟨by simp only [List.length_append]; exact q28 hl,?_⟩;rw [List.drop_left,List.take_left' hl];exact dec_enc hv
noncomputable def OffAt (M : List UInt8) (p k r : Nat) : Prop := ∃ (d : Int) (vt e : Nat),Rd M p .i (.int d) ∧ (p : Int) - d = vt ∧ Rd M vt .H (.int e) ∧ (if k < e then Rd M (vt + k) .H (.int r) else r = 0)
noncomputable def VecAt (M : List UInt8) (off n at_ : Nat) : Prop := ∃ o : Nat,Rd M off .I (.int o) ∧ Rd M (off + o) .I (.int n) ∧ at_ = off + o + 4
theorem o_addc {W : Wd} {Φ : Fx} {ns : List Str} {gs : List (Str × Value)} {μ : Mu} {ℓ : Loc} {a b c : Int} {Q : V → Mu → Loc → Prop} (e : a + b = c) (q : Q (.int c) μ ℓ) : wBin W Φ ns gs .Add (.int a) (.int b) Q μ ℓ := by subst e; exact q
theorem o_subc {W : Wd} {Φ : Fx} {ns : List Str} {gs : List (Str × Value)} {μ : Mu} {ℓ : Loc} {a b c : Int} {Q : V → Mu → Loc → Prop} (e : a - b = c) (q : Q (.int c) μ ℓ) : wBin W Φ ns gs .Sub (.int a) (.int b) Q μ ℓ := by subst e; exact q
theorem cut_at {M : List UInt8} {i n : Nat} (h : i + n ≤ M.length) : cutL M (some (i : Nat)) (some ((i : Int) + n)) = (M.drop i).take n := by
  unfold cutL;rw [show (some ((i : Nat) : Int)).elim 0 (clipAt M.length) = i by show clipAt _ _ = _; rw [clipAt_nat]; exact q29 h,
    show (some ((i : Int) + (n : Nat))).elim M.length (clipAt M.length) = i + n by show clipAt _ _ = _; rw [show (i : Int) + (n : Nat) = ((i + n : Nat) : Int) by exact q30,clipAt_nat]; exact q31 h,Nat.add_sub_cancel_left]
section
variable {W : Wd} (hK : Kn W.K)
include hK
theorem get_spec {S : Addr} {f : Fm} {M : List UInt8} {off : Nat} {v : V} (hs : structAt W.K S f = true) (h : Rd M off f v) (hz : M.length ≤ 100000) : Spec W 1 (.ref 174) [.val (.ref S),.bytes M,.int off] [] [] (fun r μ' => r = v ∧ μ' = []) := by
  have h1 := h.1;refine spec_fn hK (f_174 hK) ["packer_type","buf","head"] [] [] (fun u_ u_ u_ u_ u_ u_ u_ u_ => bind_pos (len3 fun u_ u_ u_ => by kernel_rfl)) (fun Φ hn Q hQ => ?_);refine nl 0 ?_;refine m_unpack hs ?_;refine ⟨.inr rfl,?_⟩;refine nl 1 ?_;refine nl 2 ?_;refine l_unpack hs (by (first | with_reducible exact Int.natCast_nonneg _ | with_reducible exact nn31 | lia)) (by exact q32 h1) (by exact Nat.le_trans (by assumption) (by decide)) ?_;rw [Int.toNat_natCast,h.2];refine ⟨.tup,?_⟩;refine s_tup (v := v) (by decide) (by decide) rfl ?_;exact hQ _ _ _ _ (by repeat' constructor) ⟨rfl,rfl⟩
theorem sizePrefix_spec {M : List UInt8} {v : Int} (h : Rd M 0 .i (.int v)) (hz : M.length ≤ 100000) : Spec W 2 (.ref 188) [.bytes M,.int 0] [] [] (fun r μ' => r = .int v ∧ μ' = []) := by
  refine spec_fn hK (f_188 hK) ["buf","offset"] [] [("Get_encode",.ref 174),("int32",.ref 54)] (fun u_ u_ u_ u_ u_ u_ u_ u_ => bind_pos (len2 fun u_ u_ => by kernel_rfl)) (fun Φ hn Q hQ => ?_);refine ng_ 0 ?_;refine kf (kp_174 hK) ?_;refine ng_ 1 ?_;refine nl 0 ?_;refine nl 1 ?_;refine xl_eq (get_spec hK (st_i hK) (off := 0) h hz) (by repeat' constructor) hn ?_;exact hQ _ _ _ _ (by repeat' constructor) ⟨rfl,rfl⟩
theorem ident2_spec {M : List UInt8} {off : Nat} (h : off + 8 ≤ M.length) (hz : M.length ≤ 100000) : Spec W 1 (.ref 196) [.bytes M,.int off] [] [] (fun r μ' => r = .bytes ((M.drop (off + 4)).take 4) ∧ μ' = []) := by
  refine spec_fn hK (f_196 hK) ["buf","offset","size_prefixed"] ["end"] [("UOffsetTFlags",.ref 146),("FILE_IDENTIFIER_LENGTH",.int 4 576)] (fun u_ u_ u_ u_ u_ u_ u_ u_ => bind_gen (args := [.bytes M,.int off]) (kw := []) (dV := [.bool false]) (used := [.bool false]) (ta_189 hK) rfl (fun u_ u_ => .cons .bool .nil) (len2 fun u_ u_ => len0 ⟨_,rfl,rfl⟩)) (fun Φ hn Q hQ => ?_);refine nl 2 ?_;refine if_f (rfl) ?_;refine gt_ 1 ?_;refine ng_ 0 ?_;refine g_cls (kF_UO hK) (aF_UO_bytewidth hK) (fun u_ u_ => .int) ?_;refine st_ 1 ?_;refine nl 1 ?_;refine ngi 1 ?_;refine st_ 3 ?_;refine nl 0 ?_;refine nl 1 ?_;refine nl 3 ?_;refine ⟨.bytes,?_⟩;refine s_bytes .int .int (by exact Nat.le_trans (by assumption) (by decide)) ?_;rw [show (off : Int) + 4 = ((off + 4 : Nat) : Int) by exact q33];have hc := cut_at (M := M) (i := off + 4) (n := 4) (by exact q34 h);rw [show (((off + 4 : Nat) : Int) + (4 : Nat)) = ((off + 4 : Nat) : Int) + 4 from rfl] at hc;rw [hc];exact hQ _ _ _ _ (by repeat' constructor) ⟨rfl,rfl⟩
theorem ident3_spec {M : List UInt8} {off : Nat} (h : off + 12 ≤ M.length) (hz : M.length ≤ 100000) : Spec W 1 (.ref 196) [.bytes M,.int off] [("size_prefixed",.bool true)] [] (fun r μ' => r = .bytes ((M.drop (off + 8)).take 4) ∧ μ' = []) := by
  refine spec_fn hK (f_196 hK) ["buf","offset","size_prefixed"] ["end"] [("UOffsetTFlags",.ref 146),("FILE_IDENTIFIER_LENGTH",.int 4 576)] (fun u_ u_ u_ u_ u_ u_ u_ u_ => bind_gen (args := [.bytes M,.int off]) (kw := [("size_prefixed",.bool true)]) (dV := []) (used := []) (ta_189 hK) rfl (fun u_ u_ => .nil) (len2 fun u_ u_ => len1 fun u_ => ⟨_,rfl,rfl⟩)) (fun Φ hn Q hQ => ?_);refine nl 2 ?_;refine if_t (rfl) ?_;refine gt_ 1 ?_;refine ng_ 0 ?_;refine g_cls (kF_UO hK) (aF_UO_bytewidth hK) (fun u_ u_ => .int) ?_;refine st_ 1 ?_;refine gt_ 1 ?_;refine ng_ 0 ?_;refine g_cls (kF_UO hK) (aF_UO_bytewidth hK) (fun u_ u_ => .int) ?_;refine st_ 1 ?_;refine nl 1 ?_;refine ngi 1 ?_;refine st_ 3 ?_;refine nl 0 ?_;refine nl 1 ?_;refine nl 3 ?_;refine ⟨.bytes,?_⟩;refine s_bytes .int .int (by exact q35 hz) ?_;rw [show (off : Int) + 4 + 4 = ((off + 8 : Nat) : Int) by exact q36];have hc := cut_at (M := M) (i := off + 8) (n := 4) (by exact q37 h);rw [show (((off + 8 : Nat) : Int) + (4 : Nat)) = ((off + 8 : Nat) : Int) + 4 from rfl] at hc;rw [hc];exact hQ _ _ _ _ (by repeat' constructor) ⟨rfl,rfl⟩
theorem hasIdent_spec {M name : List UInt8} (h : 12 ≤ M.length) (hz : M.length ≤ 100000) : Spec W 2 (.ref 204) [.bytes M,.int 0,.bytes name,.bool true] [] [] (fun r μ' => r = .bool ((M.drop 8).take 4 == name) ∧ μ' = []) := by
  refine spec_fn hK (f_204 hK) ["buf","offset","file_identifier","size_prefixed"] ["got"] [("GetBufferIdentifier",.ref 196)] (fun u_ u_ u_ u_ u_ u_ u_ u_ => bind_gen (args := [.bytes M,.int 0,.bytes name,.bool true]) (kw := []) (dV := []) (used := []) (ta_197 hK) rfl (fun u_ u_ => .nil) (len4 fun u_ u_ u_ u_ => len0 ⟨_,rfl,rfl⟩)) (fun Φ hn Q hQ => ?_);refine x_callK (names := ["size_prefixed"]) ?_;refine ve ?_;refine ng_ 0 ?_;refine ⟨_,rfl,.inl (kp_196 hK),?_⟩;refine va ?_;refine nl 0 ?_;refine nl 1 ?_;refine xkw_cons ?_;refine nl 3 ?_;refine xkw_nil ?_;refine xk_use (kw := [("size_prefixed",.bool true)]) (ident3_spec hK (off := 0) (by exact q38 h) hz) (by repeat' constructor) hn ?_;rintro v _ ⟨rfl,rfl⟩;refine st_ 4 ?_;refine nl 4 ?_;refine nl 2 ?_;refine c_eq_bytes ?_;exact hQ _ _ _ _ (by repeat' constructor) ⟨rfl,rfl⟩
theorem rmPrefix_spec {M : List UInt8} : Spec W 1 (.ref 211) [.bytes M,.int 0] [] [] (fun r μ' => r = .tup [.bytes M,.int 4] ∧ μ' = []) := by
  refine spec_fn hK (f_211 hK) ["buf","offset"] [] [("Int32Flags",.ref 120)] (fun u_ u_ u_ u_ u_ u_ u_ u_ => bind_pos (len2 fun u_ u_ => by kernel_rfl)) (fun Φ hn Q hQ => ?_);refine nl 0 ?_;refine nl 1 ?_;refine ng_ 0 ?_;refine g_cls (kF_I32 hK) (aF_I32_bytewidth hK) (fun u_ u_ => .int) ?_;refine ⟨Nat.le_of_ble_eq_true rfl,?_⟩;exact hQ _ _ _ _ (by repeat' constructor) ⟨rfl,rfl⟩
theorem tinit_spec {a : Addr} {M : List UInt8} {p : Nat} (h : p ≤ 100000) : Spec W 2 (.ref 721) [.val (.ref a),.bytes M,.int p] [] [(a,.inst 788 (List.replicate 2 none))] (fun v μ' => v = .none ∧ μ' = [(a,.inst 788 [some (.bytes M),some (.int p)])]) := by
  refine spec_fn hK (f_721 hK) ["self","buf","pos"] [] [("enforce_number",.ref 167),("UOffsetTFlags",.ref 146)] (fun u_ u_ u_ u_ u_ u_ u_ u_ => bind_pos (len3 fun u_ u_ u_ => by kernel_rfl)) (fun Φ hn Q hQ => ?_);refine ng_ 0 ?_;refine kf (kp_167 hK) ?_;refine nl 2 ?_;refine ng_ 1 ?_;refine xl_eq (enf_int hK (fi_UO hK) (i := (p : Nat)) (by (first | with_reducible exact Int.natCast_nonneg _ | with_reducible exact nn31 | lia)) (by exact q39 h)) (by repeat' constructor) hn ?_;refine nl 1 ?_;refine nl 0 ?_;refine g_ini (kT hK) (sT_Bytes hK) (i := 0) (n := 2) (by decide) (by repeat' constructor) rfl ?_;refine nl 2 ?_;refine nl 0 ?_;refine g_ini (kT hK) (sT_Pos hK) (i := 1) (n := 2) (by decide) (by repeat' constructor) rfl ?_;exact hQ _ _ [(a,.inst 788 [some (.bytes M),some (.int p)])] _ (by repeat' constructor) ⟨rfl,rfl⟩
theorem tget_spec {M : List UInt8} {p off : Nat} {C : Addr} {f : Fm} {T : String} {v : V} (hF : FlagF W.K C f) (hT : clsTyp W.K C "py_type" T = true) (ht : typeOf (.type T) = pure (.type "type"))
    (hc : ∀ {Φ ns gs μ ℓ} {Q : V → Mu → Loc → Prop},Q v μ ℓ → XL W RV Φ ns gs μ ℓ [v] (fun xs => call (.type T) xs) Q) (h : Rd M off f v) (hz : M.length ≤ 100000) :
    Spec W 2 (.ref 770) [.tab 788 M p,.val (.ref C),.int off] [] [] (fun r μ' => r = v ∧ μ' = []) := by
  apply gG;intro nG
  obtain ⟨hk,_,S,hS,hs⟩ := hF;apply nG;clear nG;have h1 := h.1;refine spec_fn hK (f_770 hK) ["self","flags","off"] [] [("enforce_number",.ref 167),("UOffsetTFlags",.ref 146),("Get_encode",.ref 174)] (fun u_ u_ u_ u_ u_ u_ u_ u_ => bind_pos (len3 fun u_ u_ u_ => by kernel_rfl)) (fun Φ hn Q hQ => ?_);refine ng_ 0 ?_;refine kf (kp_167 hK) ?_;refine nl 2 ?_;refine ng_ 1 ?_;refine xl_eq (enf_int hK (fi_UO hK) (i := (off : Nat)) (by (first | with_reducible exact Int.natCast_nonneg _ | with_reducible exact nn31 | lia)) (by exact q40 hz h1)) (by repeat' constructor) hn ?_;refine nl 1 ?_;refine m_typ hk hT ht ?_;refine ⟨.inr rfl,?_⟩;refine ng_ 2 ?_;refine kf (kp_174 hK) ?_;refine nl 1 ?_;refine g_cls hk hS (fun u_ u_ => .val) ?_;refine nl 0 ?_;refine g_tabB (kT hK) (sT_Bytes hK) ?_;refine nl 2 ?_;refine xl_eq (get_spec hK hs h hz) (by repeat' constructor) hn ?_;refine hc ?_;exact hQ _ _ _ _ (by repeat' constructor) ⟨rfl,rfl⟩
theorem toffset_spec {M : List UInt8} {p k r : Nat} (h : OffAt M p k r) (hz : M.length ≤ 100000) : Spec W 3 (.ref 728) [.tab 788 M p,.int k] [] [] (fun v μ' => v = .int r ∧ μ' = []) := by
  apply gG;intro nG
  obtain ⟨d,vt,e,h1,h2,h3,h4⟩ := h;apply nG;clear nG;refine spec_fn hK (f_728 hK) ["self","vtableOffset"] ["vtable","vtableEnd"] [("SOffsetTFlags",.ref 134),("VOffsetTFlags",.ref 158)] (fun u_ u_ u_ u_ u_ u_ u_ u_ => bind_pos (len2 fun u_ u_ => by kernel_rfl)) (fun Φ hn Q hQ => ?_);refine nl 0 ?_;refine g_tabP (kT hK) (sT_Pos hK) ?_;refine nl 0 ?_;refine m_tab (kT hK) (mT_Get hK) ?_;refine ng_ 0 ?_;refine nl 0 ?_;refine g_tabP (kT hK) (sT_Pos hK) ?_;refine xl_eq (tget_spec hK (off := p) (ff_SO hK) (aF_SO_py_type hK) int_typ l_int h1 hz) (by repeat' constructor) hn ?_;refine o_subc h2 ?_;refine st_ 2 ?_;refine nl 0 ?_;refine m_tab (kT hK) (mT_Get hK) ?_;refine ng_ 1 ?_;refine nl 2 ?_;refine xl_eq (tget_spec hK (off := vt) (ff_VO hK) (aF_VO_py_type hK) int_typ l_int h3 hz) (by repeat' constructor) hn ?_;refine st_ 3 ?_;refine nl 1 ?_;refine nl 3 ?_;refine if_s (fun hc => ?_) (fun hc => ?_)
  ·
    refine nl 0 ?_;refine m_tab (kT hK) (mT_Get hK) ?_;refine ng_ 1 ?_;refine nl 2 ?_;refine nl 1 ?_;rw [if_pos (by have := of_decide_eq_true hc; (exact q41 hc))] at h4;refine o_addc (show ((vt : Int) + (k : Int)) = ((vt + k : Nat) : Int) by exact q30) ?_;refine xl_eq (tget_spec hK (off := vt + k) (ff_VO hK) (aF_VO_py_type hK) int_typ l_int h4 hz) (by repeat' constructor) hn ?_;exact hQ _ _ _ _ (by repeat' constructor) ⟨rfl,rfl⟩
  ·
    rw [if_neg (by have := of_decide_eq_false hc; exact q42 hc)] at h4;subst h4;exact hQ _ _ _ _ (by repeat' constructor) ⟨rfl,rfl⟩
theorem tstring_spec {M : List UInt8} {p off n i : Nat} (h : VecAt M off n i) (hi : i + n ≤ M.length) (hz : M.length ≤ 100000) : Spec W 2 (.ref 742) [.tab 788 M p,.int off] [] [] (fun v μ' => v = .bytes ((M.drop i).take n) ∧ μ' = []) := by
  apply gG;intro nG
  obtain ⟨o,h1,h2,rfl⟩ := h;apply nG;clear nG;have h3 := h1.1;refine spec_fn hK (f_742 hK) ["self","off"] ["start","length"] [("enforce_number",.ref 167),("UOffsetTFlags",.ref 146),("Get_encode",.ref 174),("bytes",.type "bytes")] (fun u_ u_ u_ u_ u_ u_ u_ u_ => bind_pos (len2 fun u_ u_ => by kernel_rfl)) (fun Φ hn Q hQ => ?_);refine ng_ 0 ?_;refine kf (kp_167 hK) ?_;refine nl 1 ?_;refine ng_ 1 ?_;refine xl_eq (enf_int hK (fi_UO hK) (i := (off : Nat)) (by (first | with_reducible exact Int.natCast_nonneg _ | with_reducible exact nn31 | lia)) (by (exact q43 hz hi))) (by repeat' constructor) hn ?_;refine gt_ 1 ?_;refine ng_ 2 ?_;refine kf (kp_174 hK) ?_;refine ng_ 1 ?_;refine g_cls (kF_UO hK) (aF_UO_packer_type hK) (fun u_ u_ => .val) ?_;refine nl 0 ?_;refine g_tabB (kT hK) (sT_Bytes hK) ?_;refine nl 1 ?_;refine xl_eq (get_spec hK (st_I hK) h1 hz) (by repeat' constructor) hn ?_;refine st_ 1 ?_;refine nl 1 ?_;refine ng_ 1 ?_;refine g_cls (kF_UO hK) (aF_UO_bytewidth hK) (fun u_ u_ => .int) ?_;refine st_ 2 ?_;refine ng_ 2 ?_;refine kf (kp_174 hK) ?_;refine ng_ 1 ?_;refine g_cls (kF_UO hK) (aF_UO_packer_type hK) (fun u_ u_ => .val) ?_;refine nl 0 ?_;refine g_tabB (kT hK) (sT_Bytes hK) ?_;refine nl 1 ?_;rw [show ((off : Int) + (o : Int)) = ((off + o : Nat) : Int) by exact q30];refine xl_eq (get_spec hK (st_I hK) h2 hz) (by repeat' constructor) hn ?_;refine st_ 3 ?_;refine ng_ 3 ?_;refine kb ?_;refine nl 0 ?_;refine g_tabB (kT hK) (sT_Bytes hK) ?_;refine nl 2 ?_;refine nl 2 ?_;refine nl 3 ?_;refine ⟨.bytes,?_⟩;refine s_bytes .int .int (by exact Nat.le_trans (by assumption) (by decide)) ?_;rw [show ((off + o : Nat) : Int) + 4 = ((off + o + 4 : Nat) : Int) by exact q44,cut_at hi];refine l_bytes ?_;exact hQ _ _ _ _ (by repeat' constructor) ⟨rfl,rfl⟩
theorem tveclen_spec {M : List UInt8} {p off n i : Nat} (h : VecAt M (p + off) n i) (hz : M.length ≤ 100000) : Spec W 2 (.ref 749) [.tab 788 M p,.int off] [] [] (fun v μ' => v = .int n ∧ μ' = []) := by
  apply gG;intro nG
  obtain ⟨o,h1,h2,rfl⟩ := h;apply nG;clear nG;have h3 := h1.1;refine spec_fn hK (f_749 hK) ["self","off"] ["ret"] [("enforce_number",.ref 167),("UOffsetTFlags",.ref 146),("Get_encode",.ref 174)] (fun u_ u_ u_ u_ u_ u_ u_ u_ => bind_pos (len2 fun u_ u_ => by kernel_rfl)) (fun Φ hn Q hQ => ?_);refine ng_ 0 ?_;refine kf (kp_167 hK) ?_;refine nl 1 ?_;refine ng_ 1 ?_;refine xl_eq (enf_int hK (fi_UO hK) (i := (off : Nat)) (by (first | with_reducible exact Int.natCast_nonneg _ | with_reducible exact nn31 | lia)) (by exact q45 hz h3)) (by repeat' constructor) hn ?_;refine gt_ 1 ?_;refine nl 0 ?_;refine g_tabP (kT hK) (sT_Pos hK) ?_;refine st_ 1 ?_;refine gt_ 1 ?_;refine ng_ 2 ?_;refine kf (kp_174 hK) ?_;refine ng_ 1 ?_;refine g_cls (kF_UO hK) (aF_UO_packer_type hK) (fun u_ u_ => .val) ?_;refine nl 0 ?_;refine g_tabB (kT hK) (sT_Bytes hK) ?_;refine nl 1 ?_;rw [show ((off : Int) + (p : Int)) = ((p + off : Nat) : Int) by exact q46];refine xl_eq (get_spec hK (st_I hK) h1 hz) (by repeat' constructor) hn ?_;refine st_ 1 ?_;refine ng_ 2 ?_;refine kf (kp_174 hK) ?_;refine ng_ 1 ?_;refine g_cls (kF_UO hK) (aF_UO_packer_type hK) (fun u_ u_ => .val) ?_;refine nl 0 ?_;refine g_tabB (kT hK) (sT_Bytes hK) ?_;refine nl 1 ?_;rw [show ((p + off : Nat) : Int) + (o : Int) = ((p + off + o : Nat) : Int) by exact q47];refine xl_eq (get_spec hK (st_I hK) h2 hz) (by repeat' constructor) hn ?_;refine st_ 2 ?_;refine nl 2 ?_;exact hQ _ _ _ _ (by repeat' constructor) ⟨rfl,rfl⟩
theorem tvector_spec {M : List UInt8} {p off n i : Nat} (h : VecAt M (p + off) n i) (hz : M.length ≤ 100000) : Spec W 3 (.ref 756) [.tab 788 M p,.int off] [] [] (fun v μ' => v = .int i ∧ μ' = []) := by
  apply gG;intro nG
  obtain ⟨o,h1,h2,rfl⟩ := h;apply nG;clear nG;have h3 := h1.1;refine spec_fn hK (f_756 hK) ["self","off"] ["x"] [("enforce_number",.ref 167),("UOffsetTFlags",.ref 146)] (fun u_ u_ u_ u_ u_ u_ u_ u_ => bind_pos (len2 fun u_ u_ => by kernel_rfl)) (fun Φ hn Q hQ => ?_);refine ng_ 0 ?_;refine kf (kp_167 hK) ?_;refine nl 1 ?_;refine ng_ 1 ?_;refine xl_eq (enf_int hK (fi_UO hK) (i := (off : Nat)) (by exact q48) (by exact q45 hz h3)) (by repeat' constructor) hn ?_;refine gt_ 1 ?_;refine nl 0 ?_;refine g_tabP (kT hK) (sT_Pos hK) ?_;refine st_ 1 ?_;refine nl 1 ?_;refine nl 0 ?_;refine m_tab (kT hK) (mT_Get hK) ?_;refine ng_ 1 ?_;refine nl 1 ?_;rw [show ((off : Int) + (p : Int)) = ((p + off : Nat) : Int) by exact q46];refine xl_eq (tget_spec hK (off := p + off) (ff_UO hK) (aF_UO_py_type hK) int_typ l_int h1 hz) (by repeat' constructor) hn ?_;refine st_ 2 ?_;refine gt_ 2 ?_;refine ng_ 1 ?_;refine g_cls (kF_UO hK) (aF_UO_bytewidth hK) (fun u_ u_ => .int) ?_;refine st_ 2 ?_;refine nl 2 ?_;rw [show ((p + off : Nat) : Int) + (o : Int) + 4 = ((p + off + o + 4 : Nat) : Int) by exact q49];exact hQ _ _ _ _ (by repeat' constructor) ⟨rfl,rfl⟩
theorem tslot_spec {M : List UInt8} {p k r : Nat} {C : Addr} {f : Fm} {T : String} {d v : V} (he : Spec W 1 (.ref 167) [d,.val (.ref C)] [] [] (fun v μ' => v = .none ∧ μ' = [])) (hF : FlagF W.K C f) (hT : clsTyp W.K C "py_type" T = true) (ht : typeOf (.type T) = pure (.type "type"))
    (hc : ∀ {Φ ns gs μ ℓ} {Q : V → Mu → Loc → Prop},Q v μ ℓ → XL W RV Φ ns gs μ ℓ [v] (fun xs => call (.type T) xs) Q) (hk : k ≤ 1000) (h : OffAt M p k r) (hr : (r = 0 ∧ v = d) ∨ (r ≠ 0 ∧ Rd M (p + r) f v)) (hz : M.length ≤ 100000) :
    Spec W 4 (.ref 777) [.tab 788 M p,.int k,d,.val (.ref C)] [] [] (fun x μ' => x = v ∧ μ' = []) := by
  refine spec_fn hK (f_777 hK) ["self","slot","d","validator_flags"] ["off"] [("enforce_number",.ref 167),("VOffsetTFlags",.ref 158)] (fun u_ u_ u_ u_ u_ u_ u_ u_ => bind_pos (len4 fun u_ u_ u_ u_ => by kernel_rfl)) (fun Φ hn Q hQ => ?_);refine ng_ 0 ?_;refine kf (kp_167 hK) ?_;refine nl 1 ?_;refine ng_ 1 ?_;refine xl_eq (enf_int hK (fi_VO hK) (i := (k : Nat)) (by (first | with_reducible exact Int.natCast_nonneg _ | with_reducible exact nn31 | lia)) (by exact q50 hk)) (by repeat' constructor) hn ?_;refine nl 3 ?_;refine if_t (rfl) ?_;refine ng_ 0 ?_;refine kf (kp_167 hK) ?_;refine nl 2 ?_;refine nl 3 ?_;refine xl_eq (he) (by repeat' constructor) hn ?_;refine nl 0 ?_;refine m_tab (kT hK) (mT_Offset hK) ?_;refine nl 1 ?_;refine xl_eq (toffset_spec hK h hz) (by repeat' constructor) hn ?_;refine st_ 4 ?_;refine nl 4 ?_;refine if_s (fun hc' => ?_) (fun hc' => ?_)
  ·
    refine nl 2 ?_;have hr0 : r = 0 := by have : (r : Int) = 0 := beq_iff_eq.mp hc'; (exact q51 hc')
    (apply gG;intro nG; rcases hr with ⟨_,rfl⟩ | ⟨hr,_⟩ <;> refine nG ?_ <;> clear nG)
    · exact hQ _ _ _ _ (by repeat' constructor) ⟨rfl,rfl⟩
    · exact absurd hr0 hr
  ·
    refine nl 0 ?_;refine m_tab (kT hK) (mT_Get hK) ?_;refine nl 3 ?_;refine nl 0 ?_;refine g_tabP (kT hK) (sT_Pos hK) ?_;refine nl 4 ?_;have hr0 : r ≠ 0 := by rintro rfl; exact absurd hc' (by decide)
    (apply gG;intro nG; rcases hr with ⟨hr,_⟩ | ⟨_,hr⟩ <;> refine nG ?_ <;> clear nG)
    · exact absurd hr hr0
    refine o_addc (show ((p : Int) + (r : Int)) = ((p + r : Nat) : Int) by exact q30) ?_;refine xl_eq (tget_spec hK (off := p + r) hF hT ht hc hr hz) (by repeat' constructor) hn ?_;exact hQ _ _ _ _ (by repeat' constructor) ⟨rfl,rfl⟩
end
end
section
open PySem PySem.W PyProof.Rows PySem.Calls
noncomputable abbrev bV (b : List UInt8) : List V := b.map fun c => V.int (c.toNat : Nat)
noncomputable abbrev bxC (b : Addr) (xs : List Int) (i : Nat) : Addr × Ce := (b,.rlist [.lst (xs.map V.int),.int (i : Nat)])
noncomputable def sgS : Nat → Str
  | 0 => Str.ofString "a" | 1 => Str.ofString "b" | 2 => Str.mk #[233] | _ => Str.mk #[128512]
noncomputable def sgB : Nat → List UInt8
  | 0 => [97] | 1 => [98] | 2 => [195,169] | _ => [240,159,152,128]
noncomputable def textOf (ks : List Nat) : Str := ks.foldl (fun t k => t ++ sgS k) (Str.ofString "")
noncomputable def octB (ks : List Nat) : List UInt8 := ks.flatMap sgB
theorem textOf_snoc (ks : List Nat) (k : Nat) : textOf (ks ++ [k]) = textOf ks ++ sgS k := by unfold textOf; rw [List.foldl_append]; rfl
theorem octB_snoc (ks : List Nat) (k : Nat) : octB (ks ++ [k]) = octB ks ++ sgB k := by unfold octB; rw [List.flatMap_append]; simp
theorem sgS_len : ∀ k,(sgS k).length = 1
  | 0 => rfl | 1 => rfl | 2 => rfl | _ + 3 => rfl
theorem sgB_len : ∀ k,(sgB k).length ≤ 4
  | 0 => by decide | 1 => by decide | 2 => by decide | _ + 3 => by show 4 ≤ 4; decide
theorem fold_len : ∀ (ks : List Nat) (t : Str),(ks.foldl (fun t k => t ++ sgS k) t).length = t.length + ks.length
  | [],t => rfl
  | k :: ks,t => by rw [List.foldl_cons,fold_len ks,Str.length_append,sgS_len,List.length_cons]; exact q52
theorem textOf_len (ks : List Nat) : (textOf ks).length = ks.length := by unfold textOf; rw [fold_len]; show 0 + _ = _; exact q53
theorem octB_len : ∀ ks : List Nat,(octB ks).length ≤ 4 * ks.length
  | [] => Nat.le_refl _
  | k :: ks => by have := octB_len ks; have := sgB_len k; unfold octB at *; rw [List.flatMap_cons,List.length_append,List.length_cons]; lia
theorem sign_at {k : Nat} (h : k < 4) : [V.tup [.str (sgS 0),.lst (bV (sgB 0))],.tup [.str (sgS 1),.lst (bV (sgB 1))],.tup [.str (sgS 2),.lst (bV (sgB 2))],.tup [.str (sgS 3),.lst (bV (sgB 3))]][k]? = some (.tup [.str (sgS k),.lst (bV (sgB k))]) := lt4 (P := fun k => [V.tup [.str (sgS 0),.lst (bV (sgB 0))],.tup [.str (sgS 1),.lst (bV (sgB 1))],.tup [.str (sgS 2),.lst (bV (sgB 2))],.tup [.str (sgS 3),.lst (bV (sgB 3))]][k]? = some (.tup [.str (sgS k),.lst (bV (sgB k))])) rfl rfl rfl rfl h
theorem signs_eq : signs = .lst [V.tup [.str (sgS 0),.lst (bV (sgB 0))],.tup [.str (sgS 1),.lst (bV (sgB 1))],.tup [.str (sgS 2),.lst (bV (sgB 2))],.tup [.str (sgS 3),.lst (bV (sgB 3))]] := rfl
theorem enc_text {ks : List Nat} (hn : ks.length ≤ 2) (h : ∀ k ∈ ks,k < 4) : Enc (textOf ks) (octB ks) := by
  cases ks with
  | nil => exact fun t u => by kernel_rfl
  | cons k ks => cases ks with
    | nil => exact lt4 (P := fun k => Enc (textOf [k]) (octB [k])) (fun t u => by kernel_rfl) (fun t u => by kernel_rfl) (fun t u => by kernel_rfl) (fun t u => by kernel_rfl) (h k (.head _))
    | cons j ks => cases ks with
      | nil =>
        refine lt4 (P := fun k => ∀ j,j < 4 → Enc (textOf [k,j]) (octB [k,j])) ?_ ?_ ?_ ?_ (h k (.head _)) j (h j (.tail _ (.head _)))
        · exact fun j => lt4 (P := fun j => Enc (textOf [0,j]) (octB [0,j])) (fun t u => by kernel_rfl) (fun t u => by kernel_rfl) (fun t u => by kernel_rfl) (fun t u => by kernel_rfl)
        · exact fun j => lt4 (P := fun j => Enc (textOf [1,j]) (octB [1,j])) (fun t u => by kernel_rfl) (fun t u => by kernel_rfl) (fun t u => by kernel_rfl) (fun t u => by kernel_rfl)
        · exact fun j => lt4 (P := fun j => Enc (textOf [2,j]) (octB [2,j])) (fun t u => by kernel_rfl) (fun t u => by kernel_rfl) (fun t u => by kernel_rfl) (fun t u => by kernel_rfl)
        · exact fun j => lt4 (P := fun j => Enc (textOf [3,j]) (octB [3,j])) (fun t u => by kernel_rfl) (fun t u => by kernel_rfl) (fun t u => by kernel_rfl) (fun t u => by kernel_rfl)
      | cons => exact absurd (Nat.le_of_succ_le_succ (Nat.le_of_succ_le_succ hn)) (Nat.not_succ_le_zero _)
theorem x_signs {W : Wd} (hK : Kn W.K) {Φ : Fx} {ns : List Str} {gs : List (Str × Value)} {μ : Mu} {ℓ : Loc} {t : Sem Value} {Q : V → Mu → Loc → Prop} (h : X W RV Φ ns gs μ ℓ t fun v μ ℓ => v = .val (.ref 801) ∧ Q signs μ ℓ) : X W RV Φ ns gs μ ℓ t Q := by
  intro s F G O I;refine wN.mono (h s F G O I) (fun x s' z => ?_) fun u_ u_ z => z
  apply gG;intro nG
  obtain ⟨F',v,μ',ℓ',J,e,hv,rfl,q⟩ := z;obtain ⟨_,rfl⟩ := hv.inv;apply nG;clear nG;exact ⟨F',_,_,_,J,e,rdV_is (J.K G) (fun a o h => J.st.frozBase a o (G.X a o h)) 20 hK.s,q⟩
inductive TxJ (b r : Addr) (xs : List Int) (n : Nat) (t u w : Tok) (i : Nat) (μ : Mu) (ℓ : Loc) : Prop
  | mk (j : Nat) (ks : List Nat) (a : Addr) (ν : Mu) (o1 o2 o3 : Option V) (h0 : j ≤ xs.length) (h1 : ks.length = i) (h2 : (∀ k ∈ ks,k < 4)) (h3 : μ = (r,.raw (rangeObj 0 (n : Nat) 1 t u w)) :: bxC b xs j :: (a,.list (bV (octB ks))) :: ν) (h4 : ℓ = [some (V.val (.ref b)),some (.int 3),some (.str (textOf ks)),some (.val (.ref a)),o1,o2,o3]) : TxJ b r xs n t u w i μ ℓ
section
variable {W : Wd} (hK : Kn W.K)
include hK
theorem take_spec {b : Addr} {xs : List Int} {i : Nat} {m : Int} (hm : 0 < m) (hi : i ≤ xs.length) (hx : xs.length ≤ 1000) : Spec W 1 (.ref 808) [.val (.ref b),.int m] [] [bxC b xs i]
    (fun v μ' => ∃ r j : Nat,v = .int r ∧ (r : Int) < m ∧ j ≤ xs.length ∧ μ' = [bxC b xs j]) := by
  refine spec_fn hK (f_808 hK) ["box","many"] ["number"] [("len",.builtin "len")] (fun u_ u_ u_ u_ u_ u_ u_ u_ => bind_pos (len2 fun u_ u_ => by kernel_rfl)) (fun Φ hn Q hQ => ?_);refine nl 0 ?_;refine ⟨.rlist (by repeat' constructor),?_⟩;refine s_rlist (v := .int i) (by repeat' constructor) (by decide) (by decide) rfl ?_;refine ng_ 0 ?_;refine kb ?_;refine nl 0 ?_;refine ⟨.rlist (by repeat' constructor),?_⟩;refine s_rlist (v := .lst (xs.map V.int)) (by repeat' constructor) (by decide) (by decide) rfl ?_;refine l_len_listV .lst (by rw [List.length_map]; (exact Nat.le_trans (by assumption) (by decide))) ?_;rw [List.length_map];refine if_s (fun hc => ?_) (fun hc => ?_)
  ·
    exact hQ _ _ _ _ (by repeat' constructor) ⟨0,i,rfl,hm,hi,rfl⟩
  ·
    refine nl 0 ?_;have hc := of_decide_eq_false hc;have hlt : i < xs.length := by (clear hi; lia)
    refine ⟨.rlist (by repeat' constructor),?_⟩;refine s_rlist (v := .lst (xs.map V.int)) (by repeat' constructor) (by decide) (by decide) rfl ?_;refine nl 0 ?_;refine ⟨.rlist (by repeat' constructor),?_⟩;refine s_rlist (v := .int i) (by repeat' constructor) (by decide) (by decide) rfl ?_;refine ⟨.lst,?_⟩;refine s_listV (z := .int xs[i]) .lst (by (first | with_reducible exact Int.natCast_nonneg _ | with_reducible exact nn31 | lia)) (by lia) (by rw [Int.toNat_natCast,List.getElem?_map,List.getElem?_eq_getElem hlt]; rfl) ?_;refine st_ 2 ?_;refine nl 0 ?_;refine ⟨.rlist (by repeat' constructor),?_⟩;refine s_rlist (v := .int i) (by repeat' constructor) (by decide) (by decide) rfl ?_;refine nl 0 ?_;refine p_rlist (l := [.lst (xs.map V.int),.int i]) (i := 1) (by decide) (by show (1 : Int) < 2; decide) (by show 2 ≤ 1000000; decide) (by repeat' constructor) ?_;refine nl 2 ?_;refine nl 1 ?_;refine o_mod (by exact q54 hm) ?_;have h0 := Int.fmod_nonneg_of_pos xs[i] hm;have h1 := Int.fmod_lt_of_pos xs[i] hm;apply gG;intro nG
    obtain ⟨r,hr⟩ : ∃ r : Nat,xs[i].fmod m = r := ⟨(xs[i].fmod m).toNat,by exact q55 h0⟩
    apply nG;clear nG;rw [hr];exact hQ _ _ [bxC b xs (i + 1)] _ (by repeat' constructor) ⟨r,i + 1,rfl,by exact q56 h1 hr,hlt,rfl⟩
theorem text_spec {b : Addr} {xs : List Int} {i : Nat} (hi : i ≤ xs.length) (hx : xs.length ≤ 1000) : Spec W 2 (.ref 815) [.val (.ref b),.int 3] [] [bxC b xs i]
    (fun v μ' => ∃ (j : Nat) (ks : List Nat),j ≤ xs.length ∧ ks.length ≤ 2 ∧ (∀ k ∈ ks,k < 4) ∧ v = .tup [.str (textOf ks),.lst (bV (octB ks))] ∧ μ' = [bxC b xs j]) := by
  refine spec_fn hK (f_815 hK) ["box","most"] ["text","octets","k","sign","part"] [("range",.type "range"),("_law_take",.ref 808),("_law_signs",.ref 801)] (fun u_ u_ u_ u_ u_ u_ u_ u_ => bind_pos (len2 fun u_ u_ => by kernel_rfl)) (fun Φ hn Q hQ => ?_);refine st_ 2 ?_;refine x_List ?_;refine va ?_;refine ⟨by decide,fun l0 => ?_⟩;refine st_ 3 ?_;refine vfe ?_;refine ng_ 0 ?_;refine kb ?_;refine ng_ 1 ?_;refine kf (kp_808 hK) ?_;refine nl 0 ?_;refine nl 1 ?_;refine xl_use (take_spec hK (b := b) (xs := xs) (i := i) (m := 3) (by decide) hi hx) (by repeat' constructor) hn ?_;rintro v _ xC2_; apply gG;intro nG;obtain ⟨n,j0,rfl,hn3,hj0,rfl⟩ := xC2_
  apply nG;clear nG;refine l_range1 (fun r t u w => ?_);refine ⟨_,TxJ b r xs n t u w,it_range1 (n := n) (.head _) (by exact q57 hn3),⟨j0,[],l0,[],none,none,none,hj0,rfl,(fun u_ h => nomatch h),rfl,rfl⟩,?_,?_⟩
  ·
    rintro i v I ob _ _ hv xC7_; apply gG;intro nG;obtain ⟨j,ks,a,ν,o1,o2,o3,hj,rfl,hks,rfl,rfl⟩ := xC7_
    apply nG;clear nG;have hi3 : ks.length < n := by have := (List.getElem?_eq_some_iff.mp hv).1; rwa [List.length_map,List.length_range] at this
    refine an 4 ?_;refine x_signs hK ?_;refine ng_ 2 ?_;refine ⟨rfl,?_⟩;refine ng_ 1 ?_;refine kf (kp_808 hK) ?_;refine nl 0 ?_;refine xl_use (take_spec hK (b := b) (xs := xs) (i := j) (m := 4) (by decide) hj hx) (by repeat' constructor) hn ?_;rintro v _ xC2_; apply gG;intro nG;obtain ⟨q,j2,rfl,hr,hj2,rfl⟩ := xC2_
    apply nG;clear nG;have hr4 : q < 4 := by exact q58 hr
    rw [signs_eq];refine ⟨.lst,?_⟩;refine s_listV .lst (by (first | with_reducible exact Int.natCast_nonneg _ | with_reducible exact nn31 | lia)) (by exact q59 hr) (by rw [Int.toNat_natCast]; exact sign_at hr4) ?_;refine a_tuple (xa_cons (an 5 (xa_cons (an 6 (xa_nil ?_)))));refine nl 2 ?_;refine nl 5 ?_;refine o_add_str (by rw [textOf_len,sgS_len]; exact q60 hn3 hi3) ?_;rw [← textOf_snoc];refine st_ 2 ?_;refine nl 3 ?_;refine nl 6 ?_;refine o_add_list (.list (by repeat' constructor)) .lst (by have := octB_len ks; have := sgB_len q; rw [List.length_map,List.length_map]; lia) (fun a2 => ?_);rw [← List.map_append,← octB_snoc];refine st_ 3 ?_;exact ⟨_,Sel.perm (.cons (by repeat' constructor) (.cons (by repeat' constructor) (.cons (by repeat' constructor) (.cons (by repeat' constructor) .nil)))) (l := [(I,ob),(r,.raw (rangeObj 0 (n : Nat) 1 t u w)),bxC b xs j2,(a2,.list (bV (octB (ks ++ [q]))))]),j2,ks ++ [q],a2,_,_,_,_,hj2,by rw [List.length_append]; rfl,(fun k hk => by rcases List.mem_append.mp hk with hk | hk; exact hks k hk; rw [List.mem_singleton.mp hk]; exact hr4),rfl,rfl⟩
  ·
    rintro _ _ xC2_; apply gG;intro nG;obtain ⟨j,ks,a,ν,o1,o2,o3,hj,hl,hks,rfl,rfl⟩ := xC2_
    apply nG;clear nG;rw [List.length_map,List.length_range] at hl;refine nl 2 ?_;refine nf 3 (by repeat' constructor) ?_;refine ⟨Nat.le_of_ble_eq_true rfl,?_⟩;exact hQ _ _ [bxC b xs j] _ (by repeat' constructor) ⟨j,ks,hj,by exact q61 hn3 hl,hks,rfl,rfl⟩
end
end
section
open PySem PySem.W PyProof.Rows PySem.Calls
noncomputable def SlT (f : Fm) (z : V) (P : Prop) (t t' : List UInt8) (u : Nat) : Prop := (P ∧ t' = t ∧ u = 0) ∨ (¬ P ∧ t' = f.enc z ++ padT f.n 0 t ∧ u = f.n + (padT f.n 0 t).length)
noncomputable def objT (oe : Nat) (us : List Nat) (t : List UInt8) : List UInt8 := vtab (4 + (padT 4 0 t).length) oe us ++ (Fm.enc .i (.int ((vtab (4 + (padT 4 0 t).length) oe us).length : Nat)) ++ padT 4 0 t)
noncomputable def msgT (as : List UInt8) (oe : Nat) (us : List Nat) (t : List UInt8) : List UInt8 := fin4 as (padT 4 12 (objT oe us t)) (4 + (padT 4 0 t).length)
noncomputable def strT (x : List UInt8) : List UInt8 := Fm.enc .I (.int x.length) ++ (x ++ (0 :: padT 4 (x.length + 1) []))
noncomputable def refT (t : List UInt8) (key : Nat) : List UInt8 := Fm.enc .I (.int (((padT 4 0 t).length - key + 4 : Nat) : Int)) ++ padT 4 0 t
noncomputable def AskT (M : List UInt8) (what : Nat) (x : List UInt8) (worth : Int) : Prop := ∃ t2 t4 u0 u2,SlT .i (.int worth) (worth = 0) (strT x) t2 u2 ∧ SlT .B (.int what) ((what : Int) = 0) (refT t2 (strT x).length) t4 u0 ∧
  M = msgT [65,83,75,83] (strT x).length [u0,(refT t2 (strT x).length).length,u2] t4
theorem SlT.len {f : Fm} {z : V} {P : Prop} {t t' : List UInt8} {u : Nat} (h : SlT f z P t t' u) (hv : f.fits z) : t.length ≤ t'.length ∧ t'.length ≤ t.length + f.n + (f.n - 1) ∧ u ≤ t'.length ∧ 1 ≤ f.n ∧ f.n ≤ 4 := by
  have hn : 1 ≤ f.n ∧ f.n ≤ 4 := by cases f <;> decide
  have h1 := padT_le (size := f.n) (k := 0) (tail := t) hn.1;have h2 := padT_ge (size := f.n) (k := 0) (tail := t)
  (apply gG;intro nG; rcases h with ⟨_,rfl,rfl⟩ | ⟨_,rfl,rfl⟩ <;> refine nG ?_ <;> clear nG)
  · exact ⟨Nat.le_refl _,by exact q62,Nat.zero_le _,hn.1,hn.2⟩
  · rw [List.length_append,Fm.enc_length hv]; exact ⟨by exact q63 h2,by exact q64 h1,by exact q65,hn.1,hn.2⟩
theorem slot_norm {a ba c : Addr} {oe vt : V} {fin : Bool} {vne : Option V} {pre tail : List UInt8} {i : Nat} {l : List V} {f : Fm} {z : V} {P : Prop} {μ' : Mu} (hl : l[i]? = some (.int (0 : Nat))) (hv : f.fits z) (hz : pre.length + tail.length ≤ 4096)
    (h : (P ∧ μ' = [bI a ba (.val (.ref c)) fin (pre.length : Nat) 4 true oe vne vt,(ba,.ba (pre ++ tail)),(c,.rlist l)]) ∨ (¬ P ∧ ∃ ba' pre',μ' = [bI a ba' (.val (.ref c)) fin (pre'.length : Nat) 4 true oe vne vt,(ba',.ba (pre' ++ (f.enc z ++ (padT f.n 0 tail)))),(c,.rlist (l.set i (.int ((f.n + (padT f.n 0 tail).length : Nat) : Int))))] ∧ pre'.length + f.n + (padT f.n 0 tail).length ≤ 4096)) :
    ∃ ba' pre' t u,μ' = [bI a ba' (.val (.ref c)) fin (pre'.length : Nat) 4 true oe vne vt,(ba',.ba (pre' ++ t)),(c,.rlist (l.set i (.int (u : Nat))))] ∧ SlT f z P tail t u ∧ pre'.length + t.length ≤ 4096 := by
  (apply gG;intro nG; rcases h with ⟨p,rfl⟩ | ⟨p,ba',pre',rfl,hz'⟩ <;> refine nG ?_ <;> clear nG)
  · refine ⟨ba,pre,tail,0,?_,.inl ⟨p,rfl,rfl⟩,hz⟩;have : l.set i (.int (0 : Nat)) = l := by
      obtain ⟨h1,h2⟩ := List.getElem?_eq_some_iff.mp hl;rw [← h2,List.set_getElem_self]
    rw [this]
  · exact ⟨ba',pre',_,_,rfl,.inr ⟨p,rfl,rfl⟩,by rw [List.length_append,Fm.enc_length hv]; exact q66 hz'⟩
theorem fin4_len {as t : List UInt8} {root : Nat} (ha : as.length = 4) (ht : t.length ≤ 4000) : (fin4 as t root).length = 12 + t.length := by
  have h : (as ++ t).length = 4 + t.length := by rw [List.length_append,ha]
  unfold fin4;generalize as ++ t = b at h;rw [List.length_append,List.length_append,h,enci (by (first | with_reducible exact Int.natCast_nonneg _ | with_reducible exact nn31 | lia)) (by exact q67 ht),encI (by (first | with_reducible exact Int.natCast_nonneg _ | with_reducible exact nn31 | lia)) (by (exact q68 ht))];exact q69
inductive BSt (a : Addr) (μ : Mu) : Prop
  | mk (ba : Addr) (cv oe vt : V) (fin ne : Bool) (pre tail : List UInt8) (ma : Int) (vne : Option V) (h : μ = bB a ba cv fin pre tail ma ne oe vne vt) (hz : pre.length + tail.length ≤ 4096) : BSt a μ
noncomputable abbrev oB (a ba c : Addr) (fin : Bool) (pre tail : List UInt8) (oe : V) (vne : Option V) (vt : V) (l : List V) : Mu := [bI a ba (.val (.ref c)) fin (pre.length : Nat) 4 true oe vne vt,(ba,.ba (pre ++ tail)),(c,.rlist l)]
inductive SlP (a c : Addr) (fin : Bool) (oe : V) (vne : Option V) (vt : V) (l : List V) (i : Nat) (f : Fm) (z : V) (P : Prop) (t : List UInt8) (μ' : Mu) : Prop
  | mk (ba : Addr) (p t' : List UInt8) (u : Nat) (h : μ' = oB a ba c fin p t' oe vne vt (l.set i (.int (u : Nat)))) (hs : SlT f z P t t' u) (h1 : t.length ≤ t'.length) (h2 : t'.length ≤ t.length + 7) (h3 : u ≤ t'.length) (hz : p.length + t'.length ≤ 4096) : SlP a c fin oe vne vt l i f z P t μ'
theorem Spec.mono {W : Wd} {n : Nat} {f : Value} {args : List V} {kw : List (Str × V)} {μ : Mu} {P Q : V → Mu → Prop} (h : Spec W n f args kw μ P) (k : ∀ v μ',P v μ' → Q v μ') : Spec W n f args kw μ Q :=
  fun A s F vals kvals G r I hx hk => cN.mono (h A s F vals kvals G r I hx hk) fun _ _ ⟨val,e,F',v,μ',z1,z2,z3,z4⟩ => ⟨val,e,F',v,μ',z1,z2,z3,k v μ' z4⟩
theorem SlP.of {a ba c : Addr} {oe vt : V} {fin : Bool} {vne : Option V} {pre tail : List UInt8} {i : Nat} {l : List V} {f : Fm} {z : V} {P : Prop} {μ' : Mu} (hl : l[i]? = some (.int (0 : Nat))) (hv : f.fits z) (hz : pre.length + tail.length ≤ 4096)
    (h : (P ∧ μ' = oB a ba c fin pre tail oe vne vt l) ∨ (¬ P ∧ ∃ ba' pre',μ' = oB a ba' c fin pre' (f.enc z ++ (padT f.n 0 tail)) oe vne vt (l.set i (.int ((f.n + (padT f.n 0 tail).length : Nat) : Int))) ∧ pre'.length + f.n + (padT f.n 0 tail).length ≤ 4096)) : SlP a c fin oe vne vt l i f z P tail μ' := by
  apply gG;intro nG
  obtain ⟨b,p,t,u,e,s,z⟩ := slot_norm hl hv hz h;obtain ⟨h1,h2,h3,_,h4⟩ := s.len hv;apply nG;clear nG;exact ⟨b,p,t,u,e,s,h1,by exact q70 h2 h4,h3,z⟩
theorem refT_len' {t : List UInt8} {k : Nat} (h : t.length ≤ 2000) : (refT t k).length = 4 + (padT 4 0 t).length ∧ t.length + 4 ≤ (refT t k).length ∧ (refT t k).length < t.length + 8 := by
  have h1 := padT_ge (size := 4) (k := 0) (tail := t);have h2 := padT_le (size := 4) (k := 0) (tail := t) (by decide);have h3 : (refT t k).length = 4 + (padT 4 0 t).length := by unfold refT; rw [List.length_append,encI (by (first | with_reducible exact Int.natCast_nonneg _ | with_reducible exact nn31 | lia)) (by exact q71 h h2)]
  exact ⟨h3,by exact q72 h1 h3,by exact q73 h2 h3⟩
theorem strT_len' {x : List UInt8} (hx : x.length ≤ 16) : 4 + (x.length + (0 :: padT 4 (x.length + 1) []).length) = (strT x).length ∧ 4 < (strT x).length ∧ (strT x).length ≤ 40 := by
  have := padT_le (size := 4) (k := x.length + 1) (tail := []) (by decide);rw [List.length_nil] at this;unfold strT;rw [List.length_append,List.length_append,encI (by (first | with_reducible exact Int.natCast_nonneg _ | with_reducible exact nn31 | lia)) (by exact q74 hx),List.length_cons];exact q75 hx this
theorem objT_len {oe : Nat} {us : List Nat} {t : List UInt8} (hl : us.length ≤ 3) (hu : ∀ u ∈ us,u ≤ t.length) (hr : t.length ≤ 1960) : (vtab (4 + (padT 4 0 t).length) oe us).length + (4 + (padT 4 0 t).length) = (objT oe us t).length ∧ (objT oe us t).length ≤ t.length + 17 := by
  have h1 := padT_ge (size := 4) (k := 0) (tail := t);have h2 := padT_le (size := 4) (k := 0) (tail := t) (by decide);have hv := vtab_length (O := 4 + (padT 4 0 t).length) (oe := oe) (us := us) (by exact q76 hr h2) hl fun u hu' => by have := hu u hu'; exact q77 h1 this
  have := trimZ_length us;unfold objT;rw [List.length_append,List.length_append,hv,enci (by (first | with_reducible exact Int.natCast_nonneg _ | with_reducible exact nn31 | lia)) (by exact q78 hl this)];exact q79 hl h2 this
section
variable {W : Wd} (hK : Kn W.K)
include hK
theorem put_I32 {a ba : Addr} {oe vt : V} {fin : Bool} {vne : Option V} {pre tail : List UInt8} {c : Addr} {i : Nat} {l : List V} {x : Int} (h0 : -(2 ^ 31) ≤ x) (h1 : x < 2 ^ 31) (hl : l.length ≤ 100) (hi : i < l.length) (hg : l[i]? = some (.int (0 : Nat))) (hz : pre.length + tail.length ≤ 4096) (hr : tail.length ≤ 1980) :
    Spec W 5 (.ref 556) [.val (.ref a),.int i,.int x,.int 0] [] (oB a ba c fin pre tail oe vne vt l) (fun u_ μ' => SlP a c fin oe vne vt l i .i (.int x) (x = 0) tail μ') :=
  (slot_I32 hK h0 h1 hl hi hz hr).mono fun u_ u_ h => .of hg ⟨h0,h1⟩ hz h
theorem put_U8 {a ba : Addr} {oe vt : V} {fin : Bool} {vne : Option V} {pre tail : List UInt8} {c : Addr} {i : Nat} {l : List V} {x : Int} (h0 : 0 ≤ x) (h1 : x < 2 ^ 8) (hl : l.length ≤ 100) (hi : i < l.length) (hg : l[i]? = some (.int (0 : Nat))) (hz : pre.length + tail.length ≤ 4096) (hr : tail.length ≤ 1980) :
    Spec W 5 (.ref 514) [.val (.ref a),.int i,.int x,.int 0] [] (oB a ba c fin pre tail oe vne vt l) (fun u_ μ' => SlP a c fin oe vne vt l i .B (.int x) (x = 0) tail μ') :=
  (slot_U8 hK h0 h1 hl hi hz hr).mono fun u_ u_ h => .of hg ⟨h0,h1⟩ hz h
theorem put_Bool {a ba : Addr} {oe vt : V} {fin : Bool} {vne : Option V} {pre tail : List UInt8} {c : Addr} {i : Nat} {l : List V} {x : Bool} (hl : l.length ≤ 100) (hi : i < l.length) (hg : l[i]? = some (.int (0 : Nat))) (hz : pre.length + tail.length ≤ 4096) (hr : tail.length ≤ 1980) :
    Spec W 5 (.ref 500) [.val (.ref a),.int i,.bool x,.bool false] [] (oB a ba c fin pre tail oe vne vt l) (fun u_ μ' => SlP a c fin oe vne vt l i .q (.bool x) (x = false) tail μ') :=
  (slot_Bool hK hl hi hz hr).mono fun u_ u_ h => .of hg trivial hz h
theorem put_UO {a ba : Addr} {oe vt : V} {fin : Bool} {vne : Option V} {pre tail : List UInt8} {c : Addr} {i x : Nat} {l : List V} (hx : 0 < x) (hx1 : x ≤ tail.length) (hl : l.length ≤ 100) (hi : i < l.length) (hz : pre.length + tail.length ≤ 4096) (hr : tail.length ≤ 1980) :
    Spec W 4 (.ref 570) [.val (.ref a),.int i,.int x,.int 0] [] (oB a ba c fin pre tail oe vne vt l) (fun u_ μ' => ∃ ba' pre',μ' = oB a ba' c fin pre' (refT tail x) oe vne vt (l.set i (.int ((refT tail x).length : Nat))) ∧ pre'.length + (refT tail x).length ≤ 4096 ∧ tail.length + 4 ≤ (refT tail x).length ∧ (refT tail x).length < tail.length + 8) :=
  (slot_UO hK hx hx1 hl hi hz hr).mono fun _ _ ⟨b,p,e,z⟩ => by
    apply gG;intro nG
    obtain ⟨h1,h2,h3⟩ := refT_len' (t := tail) (k := x) (by exact Nat.le_trans (by assumption) (by decide));apply nG;clear nG;exact ⟨b,p,by rw [h1]; exact e,by exact q80 z h1,h2,h3⟩
theorem end_obj {a ba : Addr} {fin : Bool} {vne : Option V} {pre tail : List UInt8} {c D : Addr} {oe : Nat} {us : List Nat} (hD : (D == sysModules) = false) (hul : us.length ≤ 3) (hu : ∀ u ∈ us,u ≤ tail.length) (hoe : oe ≤ tail.length) (hz : pre.length + tail.length ≤ 4096) (hr : tail.length ≤ 1960) :
    Spec W 6 (.ref 342) [.val (.ref a)] [] [bI a ba (.val (.ref c)) fin (pre.length : Nat) 4 true (.int (oe : Nat)) vne (.val (.ref D)),(ba,.ba (pre ++ tail)),(c,.rlist (usV us)),(D,.dict [])] (fun v μ' => ∃ ba' pre',v = .int ((4 + (padT 4 0 tail).length : Nat) : Int) ∧ μ' = bB a ba' .none fin pre' (objT oe us tail) 4 false (.int (oe : Nat)) vne (.val (.ref D)) ∧ pre'.length + (objT oe us tail).length ≤ 4096 ∧ 4 + (padT 4 0 tail).length ≤ (objT oe us tail).length ∧ (objT oe us tail).length ≤ tail.length + 17) :=
  (endObject_spec hK rfl hD hul hu hoe hz hr).mono fun _ _ ⟨b,p,e1,e2,z⟩ => by
    obtain ⟨h1,h2⟩ := objT_len (oe := oe) hul hu hr;exact ⟨b,p,e1,e2,by exact q81 z h1,by exact q82 h1,h2⟩
theorem fin_obj {a ba : Addr} {oe' vt : V} {fin : Bool} {vne : Option V} {pre t : List UInt8} {oe : Nat} {us : List Nat} {a0 a1 a2 a3 : UInt8} (hroot : 4 + (padT 4 0 t).length ≤ (objT oe us t).length) (hz : pre.length + (objT oe us t).length ≤ 4096) (hr : (objT oe us t).length ≤ 1950) :
    Spec W 6 (.ref 479) [.val (.ref a),.int ((4 + (padT 4 0 t).length : Nat) : Int),.bytes [a0,a1,a2,a3]] [] (bB a ba .none fin pre (objT oe us t) 4 false oe' vne vt) (fun u_ μ' => ∃ ba' pre',μ' = bB a ba' .none true pre' (msgT [a0,a1,a2,a3] oe us t) 4 false oe' vne vt ∧ pre'.length + (msgT [a0,a1,a2,a3] oe us t).length ≤ 4096 ∧ (msgT [a0,a1,a2,a3] oe us t).length ≤ (objT oe us t).length + 15) :=
  (finish_spec hK hroot hz hr).mono fun _ _ ⟨b,p,e,z⟩ => by
    have := padT_le (size := 4) (k := 12) (tail := objT oe us t) (by decide);exact ⟨b,p,e,z,by unfold msgT; rw [fin4_len rfl (by exact q83 hr this)]; exact q84 this⟩
theorem new_str {a ba : Addr} {cv oe vt : V} {fin : Bool} {vne : Option V} {pre x : List UInt8} {tx : Str} (he : Enc tx x) (hz : pre.length ≤ 4096) (hx : x.length ≤ 16) :
    Spec W 4 (.ref 420) [.val (.ref a),.str tx] [] (bB a ba cv fin pre [] 1 false oe vne vt) (fun v μ' => ∃ ba' pre',v = .int ((strT x).length : Nat) ∧ μ' = bB a ba' cv fin pre' (strT x) 4 false oe (some .none) vt ∧ pre'.length + (strT x).length ≤ 4096) :=
  (createStr_spec hK (ma := 1) (pre := pre) (tail := []) (x := x) he (by decide) (by exact hz) (by show 0 + x.length ≤ 900; exact q85 hx)).mono fun u_ u_ h => by
    obtain ⟨h1,_⟩ := strT_len' hx;rw [h1] at h;exact h
theorem question_spec {a : Addr} {μ₀ : Mu} {what : Nat} {x : List UInt8} {tx : Str} {worth : Int} (hB : BSt a μ₀) (he : Enc tx x) (hx : x.length ≤ 16) (hw : what < 4) (h0 : -(2 ^ 31) ≤ worth) (h1 : worth < 2 ^ 31) :
    Spec W 7 (.ref 822) [.val (.ref a),.int what,.str tx,.int worth] [] μ₀ (fun v μ' => ∃ M,v = .bytes M ∧ AskT M what x worth ∧ M.length ≤ 300 ∧ BSt a μ') := by
  apply gG;intro nG
  obtain ⟨ba,cv,oe,vt,fin,ne,pre,tail,ma,vne,rfl,hz⟩ := hB;obtain ⟨_,hs4,hs40⟩ := strT_len' hx;apply nG;clear nG;refine spec_fn hK (f_822 hK) ["builder","what","text","worth"] ["key"] [("bytes",.type "bytes")] (fun u_ u_ u_ u_ u_ u_ u_ u_ => bind_pos (len4 fun u_ u_ u_ u_ => by kernel_rfl)) (fun Φ hn Q hQ => ?_);refine nl 0 ?_;refine mB hK (by repeat' constructor) (mB_Clear hK) ?_;refine xl_use (clear_spec hK (by exact hz)) (by repeat' constructor) hn ?_;rintro v _ xC2_; apply gG;intro nG;obtain ⟨rfl,d,hd,rfl⟩ := xC2_
  apply nG;clear nG;refine nl 0 ?_;refine mB hK (by repeat' constructor) (mB_CreateString hK) ?_;refine nl 2 ?_;refine xl_use (new_str hK (pre := pre ++ tail) (x := x) he (by rw [List.length_append]; exact hz) hx) (by repeat' constructor) hn ?_;rintro v _ xC2_; apply gG;intro nG;obtain ⟨b1,p1,rfl,rfl,z1⟩ := xC2_
  apply nG;clear nG;refine st_ 4 ?_;refine nl 0 ?_;refine mB hK (by repeat' constructor) (mB_StartObject hK) ?_;refine xl_use (startObject_spec hK (pre := p1) (tail := strT x) z1) (by repeat' constructor) hn ?_;rintro v _ ⟨c,rfl⟩;refine nl 0 ?_;refine mB hK (by repeat' constructor) (mB_PrependInt32Slot hK) ?_;refine nl 3 ?_;refine xl_use (put_I32 hK (pre := p1) (tail := strT x) (i := 2) (l := [V.int (0 : Nat),.int (0 : Nat),.int (0 : Nat)]) h0 h1 (by show 3 ≤ 100; decide) (by show 2 < 3; decide) rfl z1 (by exact Nat.le_trans (by assumption) (by decide))) (by repeat' constructor) hn ?_;rintro v _ xC2_; apply gG;intro nG;obtain ⟨b2,p2,t2,u2,rfl,s2,g2,e2,w2,z2⟩ := xC2_
  apply nG;clear nG;refine nl 0 ?_;refine mB hK (by repeat' constructor) (mB_PrependUOffsetTRelativeSlot hK) ?_;refine nl 4 ?_;refine xl_use (put_UO hK (pre := p2) (tail := t2) (x := (strT x).length) (i := 1) (l := [V.int (0 : Nat),.int (0 : Nat),.int (u2 : Nat)]) (by exact Nat.le_add_left _ _) g2 (by show 3 ≤ 100; decide) (by show 1 < 3; decide) z2 (by exact q86 hs40 e2)) (by repeat' constructor) hn ?_;rintro v _ xC2_; apply gG;intro nG;obtain ⟨b3,p3,rfl,z3,g3,e3⟩ := xC2_
  apply nG;clear nG;refine nl 0 ?_;refine mB hK (by repeat' constructor) (mB_PrependUint8Slot hK) ?_;refine nl 1 ?_;refine xl_use (put_U8 hK (pre := p3) (tail := refT t2 (strT x).length) (i := 0) (l := [V.int (0 : Nat),.int ((refT t2 (strT x).length).length : Nat),.int (u2 : Nat)]) (x := (what : Nat)) (Int.natCast_nonneg _) (by exact q87 hw) (by show 3 ≤ 100; decide) (by show 0 < 3; decide) rfl z3 (by exact q88 hs40 e2 e3)) (by repeat' constructor) hn ?_;rintro v _ xC2_; apply gG;intro nG;obtain ⟨b0,p0,t4,u0,rfl,s0,g0,e0,w0,z0⟩ := xC2_
  apply nG;clear nG;refine nl 0 ?_;refine mB hK (by repeat' constructor) (mB_FinishSizePrefixed hK) ?_;refine nl 0 ?_;refine mB hK (by repeat' constructor) (mB_EndObject hK) ?_;refine xl_use (end_obj hK (pre := p0) (tail := t4) (us := [u0,(refT t2 (strT x).length).length,u2]) (oe := (strT x).length) hd (Nat.le_refl 3) (by intro u hu; simp only [List.mem_cons,List.not_mem_nil,or_false] at hu; exact q89 w2 g3 g0 w0 hu) (by exact q90 g2 g3 g0) z0 (by exact q91 hs40 e2 e3 e0)) (by repeat' constructor) hn ?_;rintro v _ xC2_; apply gG;intro nG;obtain ⟨b5,p5,rfl,rfl,z5,g5,e5⟩ := xC2_
  apply nG;clear nG;refine xl_use (fin_obj hK (pre := p5) (t := t4) (oe := (strT x).length) (us := [u0,(refT t2 (strT x).length).length,u2]) (a0 := 65) (a1 := 83) (a2 := 75) (a3 := 83) g5 z5 (by exact q92 hs40 e2 e3 e0 e5)) (by repeat' constructor) hn ?_;rintro v _ xC2_; apply gG;intro nG;obtain ⟨b6,p6,rfl,z6,e6⟩ := xC2_
  apply nG;clear nG;refine ng_ 0 ?_;refine kb ?_;refine nl 0 ?_;refine mB hK (by repeat' constructor) (mB_Output hK) ?_;refine xl_use (output_spec hK z6) (by repeat' constructor) hn ?_;rintro v _ xC2_; apply gG;intro nG;obtain ⟨o,rfl,rfl⟩ := xC2_
  apply nG;clear nG;refine l_bytes_ba (by repeat' constructor) (by (exact q93 hs40 e2 e3 e0 e5 e6)) ?_;exact hQ _ _ _ _ (by repeat' constructor) ⟨_,rfl,⟨t2,t4,u0,u2,s2,s0,rfl⟩,by exact q94 hs40 e2 e3 e0 e5 e6,⟨b6,_,_,_,_,_,p6,_,_,_,rfl,z6⟩⟩
end
end
section
open PySem PySem.W PyProof.Rows PySem.Calls
theorem x_not {W : Wd} {Φ : Fx} {ns : List Str} {gs : List (Str × Value)} {μ : Mu} {ℓ : Loc} {x : Expr} {pos : Pos} {Q : V → Mu → Loc → Prop} (h : vg W Φ ns gs 99 (.e x fun a μ ℓ => ∃ b,a = .bool b ∧ Q (.bool (!b)) μ ℓ) μ ℓ) : X W RV Φ ns gs μ ℓ (eval (.UnaryOp .Not x pos) Φ.env) Q :=
  x_unary (x_mono (ve h) fun a μ ℓ ⟨b,e,q⟩ => by
    subst e;intro s F x G O I hx;obtain ⟨_,rfl⟩ := hx.inv;exact .of (PyProof.Rows.not_of (wpAny_truthy_bool (res_here I .bool q))))
theorem Rd.app {M r : List UInt8} {off : Nat} {f : Fm} {v : V} (h : Rd M off f v) : Rd (M ++ r) off f v := by
  obtain ⟨h1,h2⟩ := h;refine ⟨by rw [List.length_append]; exact q95 h1,?_⟩;rw [List.drop_append_of_le_length (by exact q96 h1),List.take_append_of_le_length (by rw [List.length_drop]; exact q97 h1)];exact h2
theorem cut_to {M r : List UInt8} : cutL (M ++ r) none (some (M.length : Nat)) = M := by
  unfold cutL;rw [show (none : Option Int).elim 0 (clipAt (M ++ r).length) = 0 from rfl,show (some ((M.length : Nat) : Int)).elim (M ++ r).length (clipAt (M ++ r).length) = M.length by show clipAt _ _ = _; rw [clipAt_nat,List.length_append]; exact q98,Nat.sub_zero,List.drop_zero,List.take_left]
noncomputable def TellB (M : List UInt8) (p : Nat) (keys : List (List UInt8)) : Prop := ∃ r i,OffAt M p 4 r ∧ VecAt M (p + r) keys.length i ∧ p ≤ i ∧ ∀ k x,keys[k]? = some x → ∃ j,VecAt M (i + 4 * k) x.length j ∧ (M.drop j).take x.length = x ∧ j + x.length ≤ M.length
noncomputable def SlotB (M : List UInt8) (p k : Nat) (f : Fm) (d v : V) : Prop := ∃ r,OffAt M p k r ∧ ((r = 0 ∧ v = d) ∨ (r ≠ 0 ∧ Rd M (p + r) f v))
noncomputable def AskB (M : List UInt8) (p : Nat) (what : Int) (x : List UInt8) (worth : Int) : Prop := SlotB M p 4 .B (.int 0) (.int what) ∧ SlotB M p 8 .i (.int 0) (.int worth) ∧ ∃ r i,OffAt M p 6 r ∧ VecAt M (p + r) x.length i ∧ (M.drop i).take x.length = x ∧ i + x.length ≤ M.length
section
variable {W : Wd} (hK : Kn W.K)
include hK
theorem whole_none {pile name : List UInt8} (h : pile.length < 4 ∨ ∃ z : Int,Rd pile 0 .i (.int z) ∧ (pile.length : Int) < 4 + z) (hz : pile.length ≤ 100000) :
    Spec W 4 (.ref 834) [.bytes pile,.bytes name] [] [] (fun v μ' => v = .none ∧ μ' = []) := by
  refine spec_fn hK (f_834 hK) ["pile","name"] ["size","data","start","right"] [("len",.builtin "len"),("GetSizePrefix",.ref 188),("RemoveSizePrefix",.ref 211),("BufferHasIdentifier",.ref 204),("bytes",.type "bytes"),("GetBufferIdentifier",.ref 196),("Table",.ref 788),("Get_encode",.ref 174),("uoffset",.ref 53)] (fun u_ u_ u_ u_ u_ u_ u_ u_ => bind_pos (len2 fun u_ u_ => by kernel_rfl)) (fun Φ hn Q hQ => ?_);refine ng_ 0 ?_;refine kb ?_;refine nl 0 ?_;refine l_len_bytes (by exact Nat.le_trans (by assumption) (by decide)) ?_
  by_cases h4 : pile.length < 4
  · refine if_t (decide_eq_true (by exact q99 h4)) ?_;refine if_t rfl ?_;exact hQ _ _ _ _ (by repeat' constructor) ⟨rfl,rfl⟩
  apply gG;intro nG
  obtain ⟨z,hz0,hz1⟩ := h.resolve_left h4;apply nG;clear nG;refine if_f (decide_eq_false (by exact q100 h4)) ?_;refine ng_ 0 ?_;refine kb ?_;refine nl 0 ?_;refine l_len_bytes (by exact Nat.le_trans (by assumption) (by decide)) ?_;refine ng_ 1 ?_;refine kf (kp_188 hK) ?_;refine nl 0 ?_;refine xl_eq (sizePrefix_spec hK hz0 hz) (by repeat' constructor) hn ?_;refine if_t (decide_eq_true (by exact q101 hz1)) ?_;refine if_t (rfl) ?_;exact hQ _ _ _ _ (by repeat' constructor) ⟨rfl,rfl⟩
theorem whole_some {M rest name : List UInt8} {p r : Nat} (h12 : 12 ≤ M.length) (hsz : Rd M 0 .i (.int ((M.length - 4 : Nat) : Int))) (hroot : Rd M 4 .I (.int r)) (hp : p = 4 + r) (hpl : p ≤ 100000) (hid : (M.drop 8).take 4 = name) (hne : name ≠ [69,76,83,69]) (hz : (M ++ rest).length ≤ 100000) :
    Spec W 4 (.ref 834) [.bytes (M ++ rest),.bytes name] [] [] (fun v μ' => v = .tup [.bool true,.tab 788 M p,.bytes rest] ∧ μ' = []) := by
  subst hp;have hzM : M.length ≤ 100000 := by rw [List.length_append] at hz; exact q102 hz
  have hl : (M ++ rest).length = M.length + rest.length := List.length_append;refine spec_fn hK (f_834 hK) ["pile","name"] ["size","data","start","right"] [("len",.builtin "len"),("GetSizePrefix",.ref 188),("RemoveSizePrefix",.ref 211),("BufferHasIdentifier",.ref 204),("bytes",.type "bytes"),("GetBufferIdentifier",.ref 196),("Table",.ref 788),("Get_encode",.ref 174),("uoffset",.ref 53)] (fun u_ u_ u_ u_ u_ u_ u_ u_ => bind_pos (len2 fun u_ u_ => by kernel_rfl)) (fun Φ hn Q hQ => ?_);refine ng_ 0 ?_;refine kb ?_;refine nl 0 ?_;refine l_len_bytes (by exact Nat.le_trans (by assumption) (by decide)) ?_;refine if_f (decide_eq_false (by exact q103 h12 hl)) ?_;refine ng_ 0 ?_;refine kb ?_;refine nl 0 ?_;refine l_len_bytes (by exact q35 hz) ?_;refine ng_ 1 ?_;refine kf (kp_188 hK) ?_;refine nl 0 ?_;refine xl_eq (sizePrefix_spec hK hsz.app hz) (by repeat' constructor) hn ?_;refine if_f (decide_eq_false (by exact q104 h12 hl)) ?_;refine if_f (rfl) ?_;refine ng_ 1 ?_;refine kf (kp_188 hK) ?_;refine nl 0 ?_;refine xl_eq (sizePrefix_spec hK hsz.app hz) (by repeat' constructor) hn ?_;refine o_addc (show (4 : Int) + ((M.length - 4 : Nat) : Int) = (M.length : Nat) by exact q105 h12) ?_;refine st_ 2 ?_;refine ng_ 2 ?_;refine kf (kp_211 hK) ?_;refine nl 0 ?_;refine nl 2 ?_;refine ⟨.bytes,?_⟩;refine s_bytes .none .int (by exact q35 hz) ?_;rw [cut_to];refine xl_eq (rmPrefix_spec hK (M := M)) (by repeat' constructor) hn ?_;refine a_tuple (xa_cons (an 3 (xa_cons (an 4 (xa_nil ?_)))));refine ng_ 3 ?_;refine kf (kp_204 hK) ?_;refine nl 3 ?_;refine nl 1 ?_;refine xl_eq (hasIdent_spec hK (M := M) (name := name) h12 hzM) (by repeat' constructor) hn ?_;refine if_t (beq_iff_eq.mpr hid) ?_;refine ng_ 4 ?_;refine kb ?_;refine ng_ 5 ?_;refine kf (kp_196 hK) ?_;refine nl 3 ?_;refine nl 4 ?_;refine xl_eq (ident2_spec hK (M := M) (off := 4) (by exact q106 h12) hzM) (by repeat' constructor) hn ?_;refine l_bytes ?_;refine nl 1 ?_;refine c_eq_bytes ?_;rw [show (M.drop (4 + 4)).take 4 = name from hid,show (name == name) = true from beq_self_eq_true _]
  refine st_ 5 ?_;refine nl 5 ?_;refine if_t rfl ?_;refine x_not ?_;refine ng_ 3 ?_;refine kf (kp_204 hK) ?_;refine nl 3 ?_;refine xl_eq (hasIdent_spec hK (M := M) (name := [69,76,83,69]) h12 hzM) (by repeat' constructor) hn ?_;rw [hid,show (name == [69,76,83,69]) = false by rw [beq_eq_false_iff_ne]; exact hne];refine ⟨_,rfl,?_⟩;refine st_ 5 ?_;refine nl 5 ?_;refine ng_ 6 ?_;refine kf (kp_788 hK) ?_;refine nl 3 ?_;refine nl 4 ?_;refine ng_ 7 ?_;refine kf (kp_174 hK) ?_;refine ng_ 8 ?_;refine nl 3 ?_;refine nl 4 ?_;refine xl_eq (get_spec hK (st_I hK) (off := 4) hroot hzM) (by repeat' constructor) hn ?_;refine o_addc (show (4 : Int) + (r : Int) = ((4 + r : Nat) : Int) by exact q107) ?_;refine xl_tab (C := 788) (b := M) (pos := ((4 + r : Nat) : Int)) ?_;refine l_make (mk_T hK) (mT_init hK) (fun a => (tinit_spec hK (M := M) (p := 4 + r) hpl).le (by decide)) hn (fun a μ' h => ?_);subst h;refine ⟨_,_,rfl,rfl,?_⟩;refine nl 0 ?_;refine nl 2 ?_;refine ⟨.bytes,?_⟩;refine s_bytes .int .none (by exact q35 hz) ?_;rw [cut_tail];refine ⟨Nat.le_of_ble_eq_true rfl,?_⟩;exact hQ _ _ _ _ (by repeat' constructor) ⟨rfl,rfl⟩
end
end
section
open PySem PySem.W PyProof.Rows PySem.Calls
section
variable {W : Wd} (hK : Kn W.K)
include hK
theorem octets_spec {M : List UInt8} {p off n i : Nat} (h : VecAt M (p + off) n i) (hi : i + n ≤ M.length) (hz : M.length ≤ 100000) : Spec W 4 (.ref 841) [.tab 788 M p,.int off] [] [] (fun v μ' => v = .tup (bV ((M.drop i).take n)) ∧ μ' = []) := by
  refine spec_fn hK (f_841 hK) ["table","off"] ["start"] [("tuple",.type "tuple")] (fun u_ u_ u_ u_ u_ u_ u_ u_ => bind_pos (len2 fun u_ u_ => by kernel_rfl)) (fun Φ hn Q hQ => ?_);refine nl 0 ?_;refine m_tab (kT hK) (mT_Vector hK) ?_;refine nl 1 ?_;refine xl_eq (tvector_spec hK h hz) (by repeat' constructor) hn ?_;refine st_ 2 ?_;refine ng_ 0 ?_;refine kb ?_;refine nl 0 ?_;refine g_tabB (kT hK) (sT_Bytes hK) ?_;refine nl 2 ?_;refine nl 2 ?_;refine nl 0 ?_;refine m_tab (kT hK) (mT_VectorLen hK) ?_;refine nl 1 ?_;refine xl_eq (tveclen_spec hK h hz) (by repeat' constructor) hn ?_;refine ⟨.bytes,?_⟩;refine s_bytes .int .int (by exact Nat.le_trans (by assumption) (by decide)) ?_;rw [cut_at hi];refine l_tuple_bytes (by rw [List.length_take]; exact q108 hi hz) ?_;exact hQ _ _ _ _ (by repeat' constructor) ⟨rfl,rfl⟩
theorem asked_spec {M x : List UInt8} {p : Nat} {what worth : Int} (h : AskB M p what x worth) (hz : M.length ≤ 100000) (hp : p ≤ 100000) : Spec W 6 (.ref 848) [.tab 788 M p] [] [] (fun v μ' => v = .tup [.int what,.tup (bV x),.int worth] ∧ μ' = []) := by
  apply gG;intro nG
  obtain ⟨⟨r0,h0⟩,⟨r2,h2⟩,r1,i,h1,h3,h4,h5⟩ := h;apply nG;clear nG;refine spec_fn hK (f_848 hK) ["table"] [] [("Uint8Flags",.ref 78),("tuple",.type "tuple"),("Int32Flags",.ref 120)] (fun u_ u_ u_ u_ u_ u_ u_ u_ => bind_pos (len1 fun u_ => by kernel_rfl)) (fun Φ hn Q hQ => ?_);refine nl 0 ?_;refine m_tab (kT hK) (mT_GetSlot hK) ?_;refine ng_ 0 ?_;refine xl_eq (tslot_spec hK (k := 4) (enf_int hK (fi_U8 hK) (by decide) (by decide)) (ff_U8 hK) (aF_U8_py_type hK) int_typ l_int (by decide) h0.1 h0.2 hz) (by repeat' constructor) hn ?_;refine ng_ 1 ?_;refine kb ?_;refine nl 0 ?_;refine m_tab (kT hK) (mT_String hK) ?_;refine nl 0 ?_;refine g_tabP (kT hK) (sT_Pos hK) ?_;refine nl 0 ?_;refine m_tab (kT hK) (mT_Offset hK) ?_;refine xl_eq (toffset_spec hK (k := 6) h1 hz) (by repeat' constructor) hn ?_;refine o_addc (show (p : Int) + (r1 : Int) = ((p + r1 : Nat) : Int) by exact q30) ?_;refine xl_eq (tstring_spec hK h3 h5 hz) (by repeat' constructor) hn ?_;rw [h4];refine l_tuple_bytes (by have := congrArg List.length h4; rw [List.length_take] at this; exact q109 hz h5) ?_;refine nl 0 ?_;refine m_tab (kT hK) (mT_GetSlot hK) ?_;refine ng_ 2 ?_;refine xl_eq (tslot_spec hK (k := 8) (enf_int hK (fi_I32 hK) (by decide) (by decide)) (ff_I32 hK) (aF_I32_py_type hK) int_typ l_int (by decide) h2.1 h2.2 hz) (by repeat' constructor) hn ?_;refine ⟨Nat.le_of_ble_eq_true rfl,?_⟩;exact hQ _ _ _ _ (by repeat' constructor) ⟨rfl,rfl⟩
theorem told_spec {M : List UInt8} {keys : List (List UInt8)} {p : Nat} {held : Bool} {worth : Int} (h : TellB M p keys) (h2 : SlotB M p 8 .q (.bool false) (.bool held)) (h1 : SlotB M p 6 .i (.int 0) (.int worth)) (hz : M.length ≤ 100000) (hp : p ≤ 100000) (hk : keys.length ≤ 1000) :
    Spec W 6 (.ref 855) [.tab 788 M p] [] [] (fun v μ' => v = .tup [.bool held,.int worth,.lst (keys.map fun x => .tup (bV x))] ∧ μ' = []) := by
  apply gG;intro nG
  obtain ⟨r,i,h3,h4,hpi,h5⟩ := h;obtain ⟨r2,h2⟩ := h2;obtain ⟨r1,h1⟩ := h1;apply nG;clear nG;refine spec_fn hK (f_855 hK) ["table"] ["off","keys","k"] [("range",.type "range"),("_law_octets",.ref 841),("BoolFlags",.ref 64),("Int32Flags",.ref 120)] (fun u_ u_ u_ u_ u_ u_ u_ u_ => bind_pos (len1 fun u_ => by kernel_rfl)) (fun Φ hn Q hQ => ?_);refine nl 0 ?_;refine m_tab (kT hK) (mT_Offset hK) ?_;refine xl_eq (toffset_spec hK (k := 4) h3 hz) (by repeat' constructor) hn ?_;refine st_ 1 ?_;refine x_List ?_;refine va ?_;refine ⟨Nat.le_of_ble_eq_true rfl,fun l0 => ?_⟩;refine st_ 2 ?_;refine vfe ?_;refine ng_ 0 ?_;refine kb ?_;refine nl 0 ?_;refine m_tab (kT hK) (mT_VectorLen hK) ?_;refine nl 1 ?_;refine xl_eq (tveclen_spec hK h4 hz) (by repeat' constructor) hn ?_;refine l_range1 (fun rg t u w => ?_);refine ⟨_,fun n μ ℓ => ∃ (o3 : Option V),μ = (rg,.raw (rangeObj 0 (keys.length : Nat) 1 t u w)) :: (l0,.list ((keys.take n).map fun x => .tup (bV x))) :: [] ∧ ℓ = [some (V.tab 788 M p),some (.int (r : Nat)),some (.val (.ref l0)),o3],it_range1 (n := keys.length) (.head _) (by exact Nat.lt_of_le_of_lt (by assumption) (by decide)),⟨none,rfl,rfl⟩,?_,?_⟩
  ·
    rintro n v I ob _ _ hv xC7_; apply gG;intro nG;obtain ⟨o3,rfl,rfl⟩ := xC7_
    apply nG;clear nG;have hlt : n < keys.length := by have := (List.getElem?_eq_some_iff.mp hv).1; rwa [List.length_map,List.length_range] at this
    rw [List.getElem?_map,List.getElem?_range hlt] at hv;cases hv;apply gG;intro nG
    obtain ⟨j,h6,h7,h8⟩ := h5 n keys[n] (List.getElem?_eq_getElem hlt);apply nG;clear nG;refine an 3 ?_;refine nl 2 ?_;refine m_append (by repeat' constructor) ?_;refine ⟨.inr rfl,?_⟩;refine ng_ 1 ?_;refine kf (kp_841 hK) ?_;refine nl 0 ?_;refine nl 0 ?_;refine m_tab (kT hK) (mT_Vector hK) ?_;refine nl 1 ?_;refine xl_eq (tvector_spec hK h4 hz) (by repeat' constructor) hn ?_;refine nl 3 ?_;refine o_mul (by exact q110 hk hlt) ?_;refine nl 0 ?_;refine g_tabP (kT hK) (sT_Pos hK) ?_;refine o_subc (c := ((i + 4 * n - p : Nat) : Int)) (by exact q111 hpi) ?_;refine xl_eq (octets_spec hK (p := p) (off := i + 4 * n - p) (by rw [Nat.add_sub_cancel' (by exact q112 hpi)]; exact h6) h8 hz) (by repeat' constructor) hn ?_;rw [h7];refine l_append (l := (keys.take n).map fun x => V.tup (bV x)) (by rw [List.length_map,List.length_take]; (exact q113 hk)) (by repeat' constructor) ?_;refine ⟨_,Sel.perm (.cons (by repeat' constructor) (.cons (by repeat' constructor) (.cons (by repeat' constructor) .nil))) (l := [(I,ob),(rg,.raw (rangeObj 0 (keys.length : Nat) 1 t u w)),(l0,.list ((keys.take n).map (fun x => V.tup (bV x)) ++ [V.tup (bV keys[n])]))]),_,?_,rfl⟩;rw [List.take_add_one,List.getElem?_eq_getElem hlt,List.map_append]; rfl
  ·
    rintro _ _ xC2_; apply gG;intro nG;obtain ⟨o3,rfl,rfl⟩ := xC2_
    apply nG;clear nG;rw [List.length_map,List.length_range,List.take_length];refine nl 0 ?_;refine m_tab (kT hK) (mT_GetSlot hK) ?_;refine ng_ 2 ?_;refine xl_eq (tslot_spec hK (k := 8) (enf_Bool hK) (ff_Bool hK) (aF_Bool_py_type hK) bool_typ l_bool (by decide) h2.1 h2.2 hz) (by repeat' constructor) hn ?_;refine nl 0 ?_;refine m_tab (kT hK) (mT_GetSlot hK) ?_;refine ng_ 3 ?_;refine xl_eq (tslot_spec hK (k := 6) (enf_int hK (fi_I32 hK) (by decide) (by decide)) (ff_I32 hK) (aF_I32_py_type hK) int_typ l_int (by decide) h1.1 h1.2 hz) (by repeat' constructor) hn ?_;refine nf 2 (by repeat' constructor) ?_;refine ⟨Nat.le_of_ble_eq_true rfl,?_⟩;exact hQ _ _ _ _ (by repeat' constructor) ⟨rfl,rfl⟩
end
end
section
open PySem PySem.W PyProof.Rows PySem.Calls
theorem cut_any {M : List UInt8} {i n : Nat} (h : i ≤ M.length) : cutL M (some (i : Nat)) (some ((i : Int) + n)) = (M.drop i).take n := by
  unfold cutL;rw [show (some ((i : Nat) : Int)).elim 0 (clipAt M.length) = i by show clipAt _ _ = _; rw [clipAt_nat]; exact q0 h,
    show (some ((i : Int) + (n : Nat))).elim M.length (clipAt M.length) = min (i + n) M.length by show clipAt _ _ = _; rw [show (i : Int) + (n : Nat) = ((i + n : Nat) : Int) by exact q30,clipAt_nat]]
  rcases Nat.le_total (i + n) M.length with h1 | h1
  · rw [Nat.min_eq_left h1,Nat.add_sub_cancel_left]
  · rw [Nat.min_eq_right h1,List.take_of_length_le (by rw [List.length_drop]; exact q114),List.take_of_length_le (by rw [List.length_drop]; exact q115 h1)]
inductive PcJ (b l0 : Addr) (xs : List Int) (S : List UInt8) (m : Nat) (μ : Mu) (ℓ : Loc) : Prop
  | mk (at_ j : Nat) (ps : List (List UInt8)) (o4 : Option V) (h0 : m = S.length - at_) (h1 : ps.flatten = S.take at_) (h2 : ps.length ≤ at_) (h3 : ps.length ≤ S.length) (h4 : j ≤ xs.length) (h5 : μ = [bxC b xs j,(l0,.list (ps.map V.bytes))]) (h6 : ℓ = [some (V.bytes S),some (.val (.ref b)),some (.val (.ref l0)),some (.int (at_ : Nat)),o4]) : PcJ b l0 xs S m μ ℓ
section
variable {W : Wd} (hK : Kn W.K)
include hK
theorem pieces_spec {b : Addr} {xs : List Int} {i : Nat} {S : List UInt8} (hi : i ≤ xs.length) (hx : xs.length ≤ 1000) (hS : S.length ≤ 100000) : Spec W 2 (.ref 867) [.bytes S,.val (.ref b)] [] [bxC b xs i]
    (fun v μ' => ∃ (a : Addr) (j : Nat) (ps : List (List UInt8)),v = .val (.ref a) ∧ j ≤ xs.length ∧ ps.flatten = S ∧ ps.length ≤ S.length ∧ μ' = [bxC b xs j,(a,.list (ps.map V.bytes))]) := by
  refine spec_fn hK (f_867 hK) ["stream","box"] ["pieces","at","step"] [("len",.builtin "len"),("_law_take",.ref 808)] (fun u_ u_ u_ u_ u_ u_ u_ u_ => bind_pos (len2 fun u_ u_ => by kernel_rfl)) (fun Φ hn Q hQ => ?_);refine x_List ?_;refine va ?_;refine ⟨Nat.le_of_ble_eq_true rfl,fun l0 => ?_⟩;refine st_ 2 ?_;refine st_ 3 ?_;refine x_perm (μ' := [bxC b xs i,(l0,.list [])]) (List.Perm.swap _ _ _) ?_;refine vw (PcJ b l0 xs S) S.length ⟨0,i,[],none,rfl,rfl,Nat.le_refl _,Nat.zero_le _,hi,rfl,rfl⟩ ?_;rintro m _ _ xC3_; apply gG;intro nG;obtain ⟨at_,j,ps,o4,rfl,hp,hpl,hpS,hj,rfl,rfl⟩ := xC3_
  apply nG;clear nG;refine nl 3 ?_;refine ng_ 0 ?_;refine kb ?_;refine nl 0 ?_;refine l_len_bytes (by exact Nat.le_trans (by assumption) (by decide)) ?_;refine if_s (fun hc => ?_) (fun hc => ?_)
  ·
    refine ng_ 1 ?_;refine kf (kp_808 hK) ?_;refine nl 1 ?_;have hlt : at_ < S.length := by have := of_decide_eq_true hc; (exact q41 hc)
    refine xl_use (take_spec hK (b := b) (xs := xs) (i := j) (m := 200) (by decide) hj hx) (by repeat' constructor) hn ?_;rintro v _ xC2_; apply gG;intro nG;obtain ⟨r,j2,rfl,hr,hj2,rfl⟩ := xC2_
    apply nG;clear nG;refine st_ 4 ?_;refine ng_ 0 ?_;refine kb ?_;refine nl 2 ?_;refine l_len_listV (.list (by repeat' constructor)) (by rw [List.length_map]; exact q116 hS hpS) ?_;refine if_s (fun hc => ?_) (fun hc => ?_)
    ·
      refine ng_ 0 ?_;refine kb ?_;refine nl 0 ?_;refine l_len_bytes (by exact Nat.le_trans (by assumption) (by decide)) ?_;refine st_ 4 ?_;refine nl 2 ?_;refine m_append (by repeat' constructor) ?_;refine ⟨.inr rfl,?_⟩;refine nl 0 ?_;refine nl 3 ?_;refine nl 3 ?_;refine nl 4 ?_;refine ⟨.bytes,?_⟩;refine s_bytes .int .int (by exact q35 hS) ?_;rw [cut_any (by exact Nat.le_of_lt (by assumption))];refine l_append (l := ps.map V.bytes) (by rw [List.length_map]; exact q117 hS hpS) (by repeat' constructor) ?_;refine nl 3 ?_;refine nl 4 ?_;refine o_addc (c := ((at_ + S.length : Nat) : Int)) (by exact q30) ?_;refine st_ 3 ?_;exact ⟨S.length - (at_ + S.length),by (clear hS; omega),at_ + S.length,j2,ps ++ [(S.drop at_).take (S.length)],_,rfl,by rw [List.flatten_append,hp]; simp only [List.flatten_cons,List.flatten_nil,List.append_nil]; rw [← List.take_add],by rw [List.length_append]; simp only [List.length_cons,List.length_nil]; (clear hpS; lia),by rw [List.length_append]; simp only [List.length_cons,List.length_nil]; (clear hpS; lia),hj2,by rw [List.map_append]; rfl,rfl⟩
    ·
      refine nl 2 ?_;refine m_append (by repeat' constructor) ?_;refine ⟨.inr rfl,?_⟩;refine nl 0 ?_;refine nl 3 ?_;refine nl 3 ?_;refine nl 4 ?_;refine ⟨.bytes,?_⟩;refine s_bytes .int .int (by exact q35 hS) ?_;rw [show (1 : Int) + (r : Int) = ((1 + r : Nat) : Int) by exact q118,cut_any (by exact Nat.le_of_lt (by assumption))];refine l_append (l := ps.map V.bytes) (by rw [List.length_map]; exact q117 hS hpS) (by repeat' constructor) ?_;refine nl 3 ?_;refine nl 4 ?_;refine o_addc (c := ((at_ + (1 + r) : Nat) : Int)) (by exact q119) ?_;refine st_ 3 ?_;exact ⟨S.length - (at_ + (1 + r)),by (clear hr; omega),at_ + (1 + r),j2,ps ++ [(S.drop at_).take (1 + r)],_,rfl,by rw [List.flatten_append,hp]; simp only [List.flatten_cons,List.flatten_nil,List.append_nil]; rw [← List.take_add],by rw [List.length_append]; simp only [List.length_cons,List.length_nil]; exact q120 hpl,by rw [List.length_append]; simp only [List.length_cons,List.length_nil]; omega,hj2,by rw [List.map_append]; rfl,rfl⟩
  ·
    have hge : S.length ≤ at_ := by have := of_decide_eq_false hc; exact q121 hc
    rw [List.take_of_length_le hge] at hp;refine nl 2 ?_;exact hQ _ _ [bxC b xs j,(l0,.list (ps.map V.bytes))] _ (by repeat' constructor) ⟨l0,j,ps,rfl,hj,hp,hpS,rfl⟩
end
end
section
open PySem PySem.W PyProof.Rows PySem.Calls
section
variable {W : Wd} (hK : Kn W.K)
include hK
theorem prep_same {a ba : Addr} {cv oe vt : V} {fin ne : Bool} {ma : Int} {vne : Option V} {pre tail : List UInt8} {size add : Nat} (hs1 : size = 1 ∨ size = 2 ∨ size = 4) (h0 : padOf size (tail.length + add) = 0) (h4 : size + add ≤ pre.length) (hma : (size : Int) ≤ ma) (hz : pre.length + tail.length ≤ 4096) :
    Spec W 2 (.ref 377) [.val (.ref a),.int size,.int add] [] (bB a ba cv fin pre tail ma ne oe vne vt) (fun v μ' => v = .none ∧ ∃ pre',pre'.length = pre.length ∧ μ' = (bB a ba cv fin pre' tail ma ne oe vne vt)) := by
  refine spec_fn hK (f_377 hK) ["self","size","additionalBytes"] ["head","buf_len","alignSize","needed","oldBufSize"] [("len",.builtin "len")] (fun u_ u_ u_ u_ u_ u_ u_ u_ => bind_pos (len3 fun u_ u_ u_ => by kernel_rfl)) (fun Φ hn Q hQ => ?_);refine nl 1 ?_;refine nl 0 ?_;refine get_minalign hK (by repeat' constructor) ?_;refine if_f (decide_eq_false (by exact q122 hma)) ?_;refine nl 0 ?_;refine get_head hK (by repeat' constructor) ?_;refine st_ 3 ?_;refine ng_ 0 ?_;refine kb ?_;refine nl 0 ?_;refine get_Bytes hK (by repeat' constructor) ?_;refine l_len_ba (by repeat' constructor) (by (first | assumption | omega | (simp only [List.length_append,List.length_replicate]; (exact Nat.le_trans (by assumption) (by decide))) | (simp; (first | lia | omega)))) ?_;refine st_ 4 ?_;refine nl 4 ?_;refine nl 3 ?_;refine nl 2 ?_;refine st_ 5 ?_;refine gt_ 5 ?_;refine nl 1 ?_;refine st_ 5 ?_;refine nl 5 ?_;refine nl 1 ?_;refine nl 2 ?_;refine st_ 6 ?_;have e0 : (((pre ++ tail).length : Nat) : Int) - (pre.length : Nat) + (add : Nat) = ((tail.length + add : Nat) : Int) := by rw [List.length_append]; exact q123
  rw [e0,mask_of hs1];have e1 : ((padOf size (tail.length + add) : Nat) : Int) + (size : Nat) + (add : Nat) = ((padOf size (tail.length + add) + size + add : Nat) : Int) := by push_cast; rfl
  rw [e1];refine vw (fun k μ ℓ => μ = (bB a ba cv fin pre tail ma ne oe vne vt) ∧ ℓ = [some (V.val (Value.ref a)),some (V.int size),some (V.int add),some (V.int (pre.length : Nat)),some (V.int ((pre ++ tail).length : Nat)),some (V.int (padOf size (tail.length + add) : Nat)),some (V.int ((padOf size (tail.length + add) + size + add : Nat) : Int)),none]) 0 ⟨rfl,rfl⟩ ?_;rintro k _ _ ⟨rfl,rfl⟩;refine nl 3 ?_;refine nl 6 ?_;refine if_s (fun hc => ?_) (fun hc => ?_)
  ·
    exact absurd (of_decide_eq_true hc) (by (exact q124 h0 h4))
  ·
    refine nl 3 ?_;refine nl 0 ?_;refine put_head hK (by repeat' constructor) ?_;refine nl 0 ?_;refine mB hK (by repeat' constructor) (mB_Pad hK) ?_;refine nl 5 ?_;refine xl_use (pad_spec hK (pre := pre) (tail := tail) (n := padOf size (tail.length + add)) (by exact Nat.le_trans (by assumption) (by decide)) (by exact q125 h0) (by exact q126 h0)) (by repeat' constructor) hn ?_;rintro v _ xC2_; apply gG;intro nG;obtain ⟨p3,rfl,e3⟩ := xC2_
    apply nG;clear nG;rw [h0] at e3 ⊢;exact hQ _ _ _ _ (by repeat' constructor) ⟨rfl,p3,by exact q127 e3,rfl⟩
theorem prepUO_same {a ba : Addr} {cv oe vt : V} {fin ne : Bool} {ma : Int} {vne : Option V} {pre tail : List UInt8} {off : Nat} (hm : tail.length % 4 = 0) (h4 : 4 ≤ pre.length) (hma : 4 ≤ ma) (hz : pre.length + tail.length ≤ 4096) (ho : off ≤ tail.length) :
    Spec W 3 (.ref 391) [.val (.ref a),.int off] [] (bB a ba cv fin pre tail ma ne oe vne vt) (fun u_ μ' => ∃ pre',μ' = (bB a ba cv fin pre' (Fm.enc .I (.int ((tail.length - off + 4 : Nat) : Int)) ++ tail) ma ne oe vne vt) ∧ pre'.length + 4 = pre.length) := by
  refine spec_fn hK (f_391 hK) ["self","off"] ["off2"] [("UOffsetTFlags",.ref 146)] (fun u_ u_ u_ u_ u_ u_ u_ u_ => bind_pos (len2 fun u_ u_ => by kernel_rfl)) (fun Φ hn Q hQ => ?_);refine nl 0 ?_;refine mB hK (by repeat' constructor) (mB_Prep hK) ?_;refine ng_ 0 ?_;refine g_cls (kF_UO hK) (aF_UO_bytewidth hK) (fun u_ u_ => .int) ?_;refine xl_use (prep_same hK (pre := pre) (tail := tail) (size := 4) (add := 0) (by decide) (pad4 (by exact q128 hm)) (by exact q129 h4) (by omega) hz) (by repeat' constructor) hn ?_;rintro v _ xC2_; apply gG;intro nG;obtain ⟨rfl,p2,g2,rfl⟩ := xC2_
  apply nG;clear nG;refine nl 1 ?_;refine nl 0 ?_;refine mB hK (by repeat' constructor) (mB_Offset hK) ?_;refine xl_eq (offset_spec hK (b := p2 ++ tail) (by rw [List.length_append]; (exact q130 hz g2))) (by repeat' constructor) hn ?_;rw [off_of (n := tail.length) (rfl)];refine if_f (by rw [decide_eq_true (by (exact q131 ho))]; rfl) ?_;refine nl 0 ?_;refine mB hK (by repeat' constructor) (mB_Offset hK) ?_;refine xl_eq (offset_spec hK (b := p2 ++ tail) (by rw [List.length_append]; exact q130 hz g2)) (by repeat' constructor) hn ?_;rw [off_of (n := tail.length) (rfl)];refine nl 1 ?_;refine ng_ 0 ?_;refine g_cls (kF_UO hK) (aF_UO_bytewidth hK) (fun u_ u_ => .int) ?_;refine st_ 2 ?_;refine nl 0 ?_;refine mB hK (by repeat' constructor) (mB_PlaceUOffsetT hK) ?_;refine nl 2 ?_;have e : ((tail.length : Nat) : Int) - (off : Nat) + 4 = ((tail.length - off + 4 : Nat) : Int) := by (exact q132 ho)
  rw [e];refine xl_use (placeUO hK (pre := p2) (tail := tail) (by (first | with_reducible exact Int.natCast_nonneg _ | with_reducible exact nn31 | (clear e; lia))) (by (exact q133 hz)) (by exact q130 hz g2) (by exact q134 h4 g2)) (by repeat' constructor) hn ?_;rintro v _ xC2_; apply gG;intro nG;obtain ⟨p3,rfl,e3⟩ := xC2_
  apply nG;clear nG;exact hQ _ _ _ _ (by repeat' constructor) ⟨p3,rfl,by exact q135 g2 e3⟩
end
end
section
open PySem PySem.W PyProof.Rows PySem.Calls
noncomputable def bvT (x t : List UInt8) : List UInt8 := Fm.enc .I (.int x.length) ++ (x ++ padT 4 x.length t)
noncomputable def bvsT (ks : List (List UInt8)) : List UInt8 := ks.foldl (fun t x => bvT x t) []
noncomputable def plc (ks : List (List UInt8)) : List Nat := (List.range ks.length).map fun i => (bvsT (ks.take (i + 1))).length
noncomputable def rowsT (ps : List Nat) (t : List UInt8) : List UInt8 := ps.foldr (fun p t => refT t p) t
noncomputable def tellV (ks : List (List UInt8)) : List UInt8 := Fm.enc .I (.int ks.length) ++ rowsT (plc ks) (padT 4 (4 * ks.length) (bvsT ks))
noncomputable def TellT (M : List UInt8) (held : Bool) (worth : Int) (ks : List (List UInt8)) : Prop := ∃ t3 t4 u1 u2,SlT .i (.int worth) (worth = 0) (refT (tellV ks) (tellV ks).length) t3 u1 ∧ SlT .q (.bool held) (held = false) t3 t4 u2 ∧
  M = msgT [84,69,76,76] (tellV ks).length [(refT (tellV ks) (tellV ks).length).length,u1,u2] t4
theorem bvT_len {x t : List UInt8} (hx : x.length ≤ 16) : (bvT x t).length = 4 + (x.length + (padT 4 x.length t).length) := by unfold bvT; rw [List.length_append,List.length_append,encI (by (first | with_reducible exact Int.natCast_nonneg _ | with_reducible exact nn31 | lia)) (by exact q74 hx)]
theorem bvsT_snoc {ks : List (List UInt8)} {x : List UInt8} : bvsT (ks ++ [x]) = bvT x (bvsT ks) := by unfold bvsT; rw [List.foldl_append]; rfl
theorem bvsT_take {ks : List (List UInt8)} {i : Nat} (h : i < ks.length) : bvsT (ks.take (i + 1)) = bvT ks[i] (bvsT (ks.take i)) := by rw [List.take_add_one,List.getElem?_eq_getElem h]; exact bvsT_snoc
theorem bvsT_len (ks : List (List UInt8)) (h : ∀ x ∈ ks,x.length ≤ 16) (i : Nat) : (bvsT (ks.take i)).length ≤ 23 * i := by
  induction i with
  | zero => rw [List.take_zero]; exact Nat.le_refl _
  | succ i ih =>
    by_cases hi : i < ks.length
    · rw [bvsT_take hi,bvT_len (h _ (List.getElem_mem hi))];have := h _ (List.getElem_mem hi);have := padT_le (size := 4) (k := ks[i].length) (tail := bvsT (ks.take i)) (by decide)
      lia
    · rw [List.take_of_length_le (by (first | exact q136 hi | exact q137 hi))] at ih ⊢; exact q138 ih
theorem plc_at {ks : List (List UInt8)} {i : Nat} (h : i < ks.length) : (plc ks)[i]? = some (bvsT (ks.take (i + 1))).length := by unfold plc; rw [List.getElem?_map,List.getElem?_range h]; rfl
theorem bvsT_le {ks : List (List UInt8)} {i : Nat} (hi : i < ks.length) (h : ∀ x ∈ ks,x.length ≤ 16) : (bvsT (ks.take (i + 1))).length ≤ (bvsT ks).length := by
  have key : ∀ k,i + 1 + k ≤ ks.length → (bvsT (ks.take (i + 1))).length ≤ (bvsT (ks.take (i + 1 + k))).length := fun k => by
    induction k with
    | zero => intro _; exact Nat.le_refl _
    | succ k ih =>
      intro hk;have h1 := ih (by exact Nat.le_of_lt (by assumption));rw [show i + 1 + (k + 1) = i + 1 + k + 1 from rfl,bvsT_take (show i + 1 + k < ks.length by assumption),bvT_len (h _ (List.getElem_mem _))];have := padT_ge (size := 4) (k := (ks[i + 1 + k]'(by assumption)).length) (tail := bvsT (ks.take (i + 1 + k)))
      omega
  have := key (ks.length - (i + 1)) (by exact q139 hi)
  rwa [show i + 1 + (ks.length - (i + 1)) = ks.length by exact q140 hi,List.take_length] at this
theorem free_of {names : List (Str × NameKind)} {P : Str → Prop} (fr : List Str) (h : ∀ x ∈ fr,P x) (hf : names.all (fun p => p.2 != .free || fr.contains p.1) = true := by kernel_rfl) : ∀ p ∈ names,p.2 = .free → P p.1 := fun p hp e => by
  have := List.all_eq_true.mp hf p hp;rw [e] at this;exact h _ (by simpa using this)
theorem swap_yes {env : Env} {x : Str} {a b : Bool} (h1 : env.scope.kind = .function) (h2 : env.kindOf x = some .local) (ha : a = true) (hb : b = true) : (pure (env.blockKind == .function && env.kindOf x == some .local && a && b) : Sem Bool) = pure true := by
  rw [h2,show env.blockKind = .function by unfold Env.blockKind; rw [h1]; rfl,ha,hb]; rfl
theorem x2_lst {W : Wd} {Φ : Fx} {ns : List Str} {gs : List (Str × Value)} {μ : Mu} {ℓ : Loc} {x y : V} {t : Value → Value → Sem Value} {Q : V → Mu → Loc → Prop} (h : X2 W RV Φ ns gs μ ℓ x y t fun v μ ℓ => ∃ a l ν,v = .val (.ref a) ∧ μ = (a,Ce.list l) :: ν ∧ Q (.lst l) ν ℓ) : X2 W RV Φ ns gs μ ℓ x y t Q :=
  fun s F a b G O I hx hy => by
    refine wN.mono (h s F a b G O I hx hy) (fun x s' z => ?_) fun u_ u_ z => z
    apply gG;intro nG
    obtain ⟨F',v,μ₁,ℓ',J,e,hv,a,l,ν,rfl,rfl,q⟩ := z;obtain ⟨_,rfl⟩ := hv.inv;obtain ⟨o,ho,hc⟩ := J.cell (.head _);obtain ⟨vs,n,rfl,hl⟩ := hc;obtain ⟨J',e'⟩ := J.freeze;apply nG;clear nG;exact ⟨_,_,_,_,J',e.trans e',.lst (vs := vs.toList) (.inr rfl) ho rfl rfl (hl.ext e'),q⟩
theorem refT_len {t : List UInt8} {p : Nat} (ht : t.length ≤ 100000) : (refT t p).length = 4 + (padT 4 0 t).length := by
  have := padT_le (size := 4) (k := 0) (tail := t) (by decide);unfold refT; rw [List.length_append,encI (by (first | with_reducible exact Int.natCast_nonneg _ | with_reducible exact nn31 | lia)) (by exact q141 ht this)]
theorem refT_at {t : List UInt8} {p : Nat} (h : t.length % 4 = 0) : refT t p = Fm.enc .I (.int ((t.length - p + 4 : Nat) : Int)) ++ t := by unfold refT; rw [padT_no (pad4 h)]
theorem rowsT_len {t : List UInt8} (h : t.length % 4 = 0) (hz : t.length ≤ 1000) : ∀ (ps : List Nat),ps.length ≤ 10 → (rowsT ps t).length = t.length + 4 * ps.length
  | [],_ => rfl
  | p :: ps,hp => by
    have hp' : ps.length ≤ 10 := by simp only [List.length_cons] at hp; (exact Nat.le_of_lt (by assumption))
    have ih := rowsT_len h hz ps hp';show (refT (rowsT ps t) p).length = _;rw [refT_at (by exact q142 h ih),List.length_append,encI (by (first | with_reducible exact Int.natCast_nonneg _ | with_reducible exact nn31 | lia)) (by (exact q143 hz hp' ih)),ih,List.length_cons]; exact q144
theorem plc_len (ks : List (List UInt8)) : (plc ks).length = ks.length := by unfold plc; rw [List.length_map,List.length_range]
theorem plc_snoc {ks : List (List UInt8)} {i : Nat} (h : i < ks.length) : (plc ks).take (i + 1) = (plc ks).take i ++ [(bvsT (ks.take (i + 1))).length] := by rw [List.take_add_one,plc_at h]; rfl
inductive AnJ1 (a d cb : Addr) (ks : List (List UInt8)) (acc : Addr) (i : Nat) (μ : Mu) : Prop
  | mk (ba : Addr) (pre : List UInt8) (ma : Int) (vne : Option V) (h0 : ma ≤ 4) (h1 : pre.length + (bvsT (ks.take i)).length ≤ 4096) (h2 : μ = (acc,Ce.list (((plc ks).take i).map fun p : Nat => V.int (p : Nat))) :: (bB a ba .none false pre (bvsT (ks.take i)) ma false .none vne (.val (.ref d)) ++ [(d,Ce.dict []),(cb,Ce.cell (some (.val (.ref a))))])) : AnJ1 a d cb ks acc i μ
inductive AnJ2 (a b2 acc d cb : Addr) (ks : List (List UInt8)) (T0 p2 : List UInt8) (held : Bool) (worth : Int) (i : Nat) (μ : Mu) (ℓ : Loc) : Prop
  | mk (pre : List UInt8) (o : Option V) (h0 : pre.length + 4 * i = p2.length) (h1 : i ≤ ks.length) (h2 : μ = bB a b2 .none false pre (rowsT ((plc ks).drop (ks.length - i)) T0) 4 true .none (some (.int (ks.length : Nat))) (.val (.ref d)) ++ [(acc,Ce.list ((plc ks).map fun p : Nat => V.int (p : Nat))),(d,Ce.dict []),(cb,Ce.cell (some (.val (.ref a))))]) (h3 : ℓ = [some (V.bool held),some (.int worth),some (.lst (ks.map fun x => .tup (bV x))),some (.val (.ref acc)),o,none]) : AnJ2 a b2 acc d cb ks T0 p2 held worth i μ ℓ
section
variable {W : Wd} (hK : Kn W.K)
include hK
noncomputable abbrev anN : List Str := ["held","worth","keys","places","place","row"]
noncomputable abbrev anG : List (Str × Value) := [("bytes",.type "bytes"),("len",.builtin "len")]
theorem answer_tail {Φ : Fx} {k : Nat} {a b2 d cc : Addr} {g1 : Addr × Ce} {p4 t1 : List UInt8} {held : Bool} {worth : Int} {o2 o3 o4 : Option V} (hn : Φ.n = 6) (hb : Φ.env.kindOf "builder" = some .cell ∧ Φ.env.cells.lookup ("builder" : Str) = some cc) (hd : (d == sysModules) = false) (h0 : -(2 ^ 31) ≤ worth) (h1 : worth < 2 ^ 31) (h4 : 4 ≤ t1.length) (h160 : t1.length ≤ 160) (z4 : p4.length + t1.length ≤ 4096) {Q : Fl → Mu → Loc → Prop}
    (hQ : ∀ M b p oe' μ' ν ℓ,(∃ t3 t4 u1 u2,SlT .i (.int worth) (worth = 0) (refT t1 t1.length) t3 u1 ∧ SlT .q (.bool held) (held = false) t3 t4 u2 ∧ M = msgT [84,69,76,76] t1.length [(refT t1 t1.length).length,u1,u2] t4) → M.length ≤ 600 → p.length + M.length ≤ 4096 → Sel (bB a b .none true p M 4 false oe' (some .none) (.val (.ref d))) μ' ν → Q (.ret (.bytes M)) μ' ℓ) :
    vg W Φ anN anG (k + 60) (.s ((fB (stAt 48)).drop 5) Q) (bB a b2 .none false p4 t1 4 false .none (some .none) (.val (.ref d)) ++ [g1,(d,Ce.dict []),(cc,Ce.cell (some (.val (.ref a))))]) [some (.bool held),some (.int worth),o2,o3,o4,some (.int (t1.length : Nat))] := by
  refine nc hb (by repeat' constructor) ?_;refine mB hK (by repeat' constructor) (mB_StartObject hK) ?_;refine xl_use (startObject_spec hK (pre := p4) (tail := t1) z4) (by repeat' constructor) hn ?_;rintro v _ ⟨c,rfl⟩;refine nc hb (by repeat' constructor) ?_;refine mB hK (by repeat' constructor) (mB_PrependUOffsetTRelativeSlot hK) ?_;refine nl 5 ?_;refine xl_use (put_UO hK (pre := p4) (tail := t1) (x := t1.length) (i := 0) (l := [V.int (0 : Nat),.int (0 : Nat),.int (0 : Nat)]) (by exact q145 h4) (Nat.le_refl _) (by show 3 ≤ 100; decide) (by show 0 < 3; decide) z4 (by exact Nat.le_trans (by assumption) (by decide))) (by repeat' constructor) hn ?_;rintro v _ xC2_; apply gG;intro nG;obtain ⟨b3,p5,rfl,z3,g3,e3⟩ := xC2_
  apply nG;clear nG;refine nc hb (by repeat' constructor) ?_;refine mB hK (by repeat' constructor) (mB_PrependInt32Slot hK) ?_;refine nl 1 ?_;refine xl_use (put_I32 hK (pre := p5) (tail := refT t1 t1.length) (i := 1) (l := [V.int ((refT t1 t1.length).length : Nat),.int (0 : Nat),.int (0 : Nat)]) h0 h1 (by show 3 ≤ 100; decide) (by show 1 < 3; decide) rfl z3 (by exact q146 h160 e3)) (by repeat' constructor) hn ?_;rintro v _ xC2_; apply gG;intro nG;obtain ⟨b6,p6,t3,u1,rfl,s1,g6,e6,w6,z6⟩ := xC2_
  apply nG;clear nG;refine nc hb (by repeat' constructor) ?_;refine mB hK (by repeat' constructor) (mB_PrependBoolSlot hK) ?_;refine nl 0 ?_;refine xl_use (put_Bool hK (pre := p6) (tail := t3) (i := 2) (l := [V.int ((refT t1 t1.length).length : Nat),.int (u1 : Nat),.int (0 : Nat)]) (by show 3 ≤ 100; decide) (by show 2 < 3; decide) rfl z6 (by exact q147 h160 e3 e6)) (by repeat' constructor) hn ?_;rintro v _ xC2_; apply gG;intro nG;obtain ⟨b7,p7,t4,u2,rfl,s2,g7,e7,w7,z7⟩ := xC2_
  apply nG;clear nG;refine nc hb (by repeat' constructor) ?_;refine mB hK (by repeat' constructor) (mB_FinishSizePrefixed hK) ?_;refine nc hb (by repeat' constructor) ?_;refine mB hK (by repeat' constructor) (mB_EndObject hK) ?_;refine xl_use (end_obj hK (pre := p7) (tail := t4) (us := [(refT t1 t1.length).length,u1,u2]) (oe := t1.length) hd (Nat.le_refl 3) (by intro u hu; simp only [List.mem_cons,List.not_mem_nil,or_false] at hu; exact q148 g6 w6 g7 w7 hu) (by exact q149 g3 g6 g7) z7 (by exact q150 h160 e3 e6 e7)) (by repeat' constructor) hn ?_;rintro v _ xC2_; apply gG;intro nG;obtain ⟨b8,p8,rfl,rfl,z8,g8,e8⟩ := xC2_
  apply nG;clear nG;refine xl_use (fin_obj hK (pre := p8) (t := t4) (oe := t1.length) (us := [(refT t1 t1.length).length,u1,u2]) (a0 := 84) (a1 := 69) (a2 := 76) (a3 := 76) g8 z8 (by exact q151 h160 e3 e6 e7 e8)) (by repeat' constructor) hn ?_;rintro v _ xC2_; apply gG;intro nG;obtain ⟨b9,p9,rfl,z9,e9⟩ := xC2_
  apply nG;clear nG;refine ng_ 0 ?_;refine kb ?_;refine nc hb (by repeat' constructor) ?_;refine mB hK (by repeat' constructor) (mB_Output hK) ?_;refine xl_use (output_spec hK z9) (by repeat' constructor) hn ?_;rintro v _ xC2_; apply gG;intro nG;obtain ⟨o,rfl,rfl⟩ := xC2_
  apply nG;clear nG;refine l_bytes_ba (by repeat' constructor) (by (exact q152 h160 e3 e6 e7 e8 e9)) ?_;exact hQ _ b9 p9 _ _ _ _ ⟨t3,t4,u1,u2,s1,s2,rfl⟩ (by exact q153 h160 e3 e6 e7 e8 e9) z9 (by repeat' constructor)
theorem answer_spec {a : Addr} {μ₀ : Mu} {held : Bool} {worth : Int} {ks : List (List UInt8)} (hB : BSt a μ₀) (h0 : -(2 ^ 31) ≤ worth) (h1 : worth < 2 ^ 31) (hk : ks.length ≤ 4) (hx : ∀ x ∈ ks,x.length ≤ 16) :
    Spec W 7 (.ref 827) [.val (.ref a),.bool held,.int worth,.lst (ks.map fun x => .tup (bV x))] [] μ₀ (fun v μ' => ∃ M,v = .bytes M ∧ TellT M held worth ks ∧ M.length ≤ 600 ∧ BSt a μ') := by
  apply gG;intro nG
  obtain ⟨ba,cv,oe,vt,fin,ne,pre,tail,ma,vne,rfl,hz⟩ := hB;apply nG;clear nG;have hv1 : Fm.fits .i (.int worth) := ⟨h0,h1⟩
  have hv2 : Fm.fits .q (.bool held) := trivial;refine spec_fnC hK (f_827 hK) ["builder","held","worth","keys"] [("held",some 1),("worth",some 2),("keys",some 3),("places",none),("place",none),("row",none)] [("builder",some 0)] [("bytes",.type "bytes"),("len",.builtin "len")] (fun u_ u_ u_ u_ u_ u_ u_ u_ => bind_pos (len4 fun u_ u_ u_ u_ => by kernel_rfl)) (fun Φ hn hsc ca hca Q hQ => ?_);have hb := hca _ (.head _);refine nc hb (by repeat' constructor) ?_;refine mB hK (by repeat' constructor) (mB_Clear hK) ?_;refine xl_use (clear_spec hK (by exact hz)) (by repeat' constructor) hn ?_;rintro v _ xC2_; apply gG;intro nG;obtain ⟨rfl,d,hd,rfl⟩ := xC2_
  apply nG;clear nG;rw [← List.length_append] at hz;generalize pre ++ tail = pr at *;refine x_compUF (gs' := [("bytes",.type "bytes")]) (ca := ca) compOk_list (free_of (P := fun x => Φ.env.kindOf x = some .cell ∧ Φ.env.cells.lookup x = some (ca x)) ["builder"] fun x hx => by rw [List.mem_singleton.mp hx]; exact hb) acc_list ?_ rfl (fun env h1 h2 => swap_yes h1 h2 rfl rfl);refine nl 2 ?_;refine ⟨[],ks.map fun x => .tup (bV x),(AnJ1 a d (ca "builder") ks),itC_lst,fun acc u_ => ⟨ba,pr,1,_,by decide,hz,rfl⟩,fun u_ u_ u_ u_ p h => absurd h (List.not_mem_nil),?_,?_⟩
  · rintro acc i v I ob _ Φ' hv xC8_ hn' hcf; apply gG;intro nG;obtain ⟨b1,p1,m1,v1,hm1,hz1,rfl⟩ := xC8_
    apply nG;clear nG;have hb' := hcf (Str.ofString "builder",.free) (by simp) rfl;have hi : i < ks.length := by have := (List.getElem?_eq_some_iff.mp hv).1; rwa [List.length_map] at this
    rw [List.getElem?_map,List.getElem?_eq_getElem hi] at hv;cases hv;have hxi := hx _ (List.getElem_mem hi);have hbl := bvsT_len ks hx i;refine tl_nil (ve ?_);refine nc hb' (by repeat' constructor) ?_;refine mB hK (by repeat' constructor) (mB_CreateByteVector hK) ?_;refine ng_ 0 ?_;refine kb ?_;refine nl 0 ?_;refine l_bytes_tup (by exact Nat.le_trans (by assumption) (by decide)) ?_;refine xl_use (createBV_spec hK (ma := m1) (pre := p1) (tail := bvsT (ks.take i)) (x := ks[i]) hm1 hz1 (by exact q154 hk hi hxi hbl)) (by repeat' constructor) (hn'.trans hn) ?_;rintro v _ xC2_; apply gG;intro nG;obtain ⟨b2,p2,rfl,rfl,z2⟩ := xC2_
    apply nG;clear nG;rw [← bvT_len hxi] at z2;rw [← bvT_len hxi,show Fm.enc .I (.int ks[i].length) ++ (ks[i] ++ padT 4 ks[i].length (bvsT (ks.take i))) = bvT ks[i] (bvsT (ks.take i)) from rfl,← bvsT_take hi];rw [← bvsT_take hi] at z2;refine ⟨((plc ks).take i).map fun p : Nat => V.int (p : Nat),_,by rw [List.length_map,List.length_take,plc_len]; exact q155 hk,(by repeat' constructor),?_⟩;refine ⟨(acc,Ce.list (((plc ks).take (i + 1)).map fun p : Nat => V.int (p : Nat))) :: (bB a b2 .none false p2 (bvsT (ks.take (i + 1))) 4 false .none (some .none) (.val (.ref d)) ++ [(d,Ce.dict []),(ca "builder",Ce.cell (some (.val (.ref a))))]),?_,⟨b2,p2,4,_,by decide,z2,rfl⟩,_,rfl⟩;rw [plc_snoc hi,List.map_append];exact Sel.perm (ν := []) (.cons (by repeat' constructor) (.cons (by repeat' constructor) (.cons (by repeat' constructor) (.cons (by repeat' constructor) (.cons (by repeat' constructor) (.cons (by repeat' constructor) .nil))))))
  rintro acc _ xC2_; apply gG;intro nG;obtain ⟨b1,p1,m1,v1,hm1,hz1,rfl⟩ := xC2_
  apply nG;clear nG;rw [List.length_map,List.take_length] at hz1;rw [List.length_map,List.take_length,List.take_of_length_le (Nat.le_of_eq (plc_len ks))];have hbl := bvsT_len ks hx ks.length;rw [List.take_length] at hbl;refine ⟨_,lset_of (i := 3) rfl rfl,?_⟩;refine nc hb (by repeat' constructor) ?_;refine mB hK (by repeat' constructor) (mB_StartVector hK) ?_;refine ng_ 1 ?_;refine kb ?_;refine nl 3 ?_;refine l_len_listV (.list (by repeat' constructor)) (by rw [List.length_map,plc_len]; (exact Nat.le_trans (by assumption) (by decide))) ?_;rw [List.length_map,plc_len];refine xl_use (startVector_spec hK (pre := p1) (tail := bvsT ks) (n := ks.length) hm1 hz1 (by exact q156 hk hbl)) (by repeat' constructor) hn ?_;rintro v _ xC2_; apply gG;intro nG;obtain ⟨b2,p2,rfl,rfl,z2,q2⟩ := xC2_
  apply nG;clear nG;have hT0 := padT_le (size := 4) (k := 4 * ks.length) (tail := bvsT ks) (by decide);have hT1 := padT_ge (size := 4) (k := 4 * ks.length) (tail := bvsT ks);refine vfe ?_;refine nl 3 ?_;refine x_Rev (ve ?_);refine ⟨rfl,?_⟩;refine ⟨.list (by repeat' constructor),?_⟩;refine x2_lst ?_;refine s_rev (.list (by repeat' constructor)) (by rw [List.length_map,plc_len]; (exact Nat.le_trans (by assumption) (by decide))) (fun rv => ?_);refine ⟨_,_,_,rfl,rfl,?_⟩;generalize hTT : padT 4 (4 * ks.length) (bvsT ks) = T0 at *;have hm0 : T0.length % 4 = 0 := by have := padOf_add (s := 4) (t := (bvsT ks).length) (x := 4 * ks.length) (.inr (.inr rfl)); rw [← hTT,padT_len]; exact q157 this
  have hrl : ∀ i,(rowsT ((plc ks).drop (ks.length - i)) T0).length = T0.length + 4 * (ks.length - (ks.length - i)) := fun i => by rw [rowsT_len hm0 (by (exact q158 hk hbl hT0)) _ (by rw [List.length_drop,plc_len]; exact q159 hk),List.length_drop,plc_len]
  refine ⟨((plc ks).map fun p : Nat => V.int (p : Nat)).reverse,AnJ2 a b2 acc d (ca "builder") ks T0 p2 held worth,it_lst,⟨p2,none,rfl,Nat.zero_le _,by rw [Nat.sub_zero,List.drop_of_length_le (Nat.le_of_eq (plc_len ks))]; rfl,rfl⟩,?_,?_⟩
  ·
    rintro i v I ob _ _ hv xC7_; apply gG;intro nG;obtain ⟨p3,o,hp3,hi0,rfl,rfl⟩ := xC7_
    apply nG;clear nG;have hi : i < ks.length := by have := (List.getElem?_eq_some_iff.mp hv).1; rwa [List.length_reverse,List.length_map,plc_len] at this
    have hj : ks.length - 1 - i < (plc ks).length := by rw [plc_len]; (exact q160 hi)
    rw [← List.map_reverse,List.getElem?_map,List.getElem?_reverse (by rw [plc_len]; exact hi),plc_len,List.getElem?_eq_getElem hj] at hv;cases hv;have hrl' := hrl i;have hpl : (plc ks)[ks.length - 1 - i] ≤ (bvsT ks).length := by
      have h1 := plc_at (ks := ks) (i := ks.length - 1 - i) (by exact q160 hi);rw [List.getElem?_eq_getElem hj] at h1;rw [Option.some.inj h1];exact bvsT_le (by exact q160 hi) hx
    have hdr : (plc ks).drop (ks.length - (i + 1)) = (plc ks)[ks.length - 1 - i] :: (plc ks).drop (ks.length - i) := by
      rw [show ks.length - (i + 1) = ks.length - 1 - i by exact q161,List.drop_eq_getElem_cons hj,show ks.length - 1 - i + 1 = ks.length - i by (exact q162 hi)]
    generalize (plc ks)[ks.length - 1 - i] = pk at *;refine an 4 ?_;refine nc hb (by repeat' constructor) ?_;refine mB hK (by repeat' constructor) (mB_PrependUOffsetTRelative hK) ?_;refine nl 4 ?_;refine xl_use (prepUO_same hK (ma := 4) (pre := p3) (tail := rowsT ((plc ks).drop (ks.length - i)) T0) (off := pk) (by exact q163 hm0 hrl') (by (exact q164 q2 hp3 hi)) (by decide) (by (exact q165 z2 hp3 hrl')) (by (exact q166 hT1 hrl' hpl))) (by repeat' constructor) hn ?_;rintro v _ xC2_; apply gG;intro nG;obtain ⟨p4,rfl,e4⟩ := xC2_
    apply nG;clear nG;rw [← refT_at (by exact q163 hm0 hrl')];refine ⟨bB a b2 .none false p4 (rowsT ((plc ks).drop (ks.length - (i + 1))) T0) 4 true .none (some (.int (ks.length : Nat))) (.val (.ref d)) ++ [(acc,Ce.list ((plc ks).map fun p : Nat => V.int (p : Nat))),(d,Ce.dict []),(ca "builder",Ce.cell (some (.val (.ref a))))],?_,p4,_,by exact q167 hp3 e4,hi,rfl,rfl⟩;rw [hdr];exact Sel.perm (ν := []) (.cons (by repeat' constructor) (.cons (by repeat' constructor) (.cons (by repeat' constructor) (.cons (by repeat' constructor) (.cons (by repeat' constructor) (.cons (by repeat' constructor) .nil))))))
  ·
    rintro _ _ xC2_; apply gG;intro nG;obtain ⟨p3,o,hp3,hi0,rfl,rfl⟩ := xC2_
    apply nG;clear nG;have hrl' := hrl ks.length;rw [List.length_reverse,List.length_map,plc_len] at hp3 ⊢;rw [Nat.sub_self,List.drop_zero] at hrl' ⊢;refine nc hb (by repeat' constructor) ?_;refine mB hK (by repeat' constructor) (mB_EndVector hK) ?_;refine xl_use (endVector_spec hK (pre := p3) (tail := rowsT (plc ks) T0) (n := ks.length) (by (exact q168 z2 hp3 hrl')) (by exact q169 q2 hp3) (by exact Nat.lt_of_le_of_lt (by assumption) (by decide))) (by repeat' constructor) hn ?_;rintro v _ xC2_; apply gG;intro nG;obtain ⟨p4,rfl,rfl,e4⟩ := xC2_
    apply nG;clear nG;have hvl : 4 + (rowsT (plc ks) T0).length = (tellV ks).length := by unfold tellV; rw [hTT,List.length_append,encI (by (first | with_reducible exact Int.natCast_nonneg _ | with_reducible exact nn31 | lia)) (by exact q170 hk)]
    rw [hvl,show Fm.enc .I (.int ks.length) ++ rowsT (plc ks) T0 = tellV ks by unfold tellV; rw [hTT]];have z4 : p4.length + (tellV ks).length ≤ 4096 := by (exact q171 z2 hp3 hrl' e4 hvl)
    have ht1 : (tellV ks).length ≤ 160 ∧ 4 ≤ (tellV ks).length := by (exact q172 hk hbl hT0 hrl' hvl)
    refine st_ 5 ?_;exact answer_tail hK hn hb hd h0 h1 ht1.2 ht1.1 z4 fun M b p oe' μ' ν ℓ hM hl hz hs => hQ _ _ _ _ hs ⟨M,rfl,hM,hl,⟨b,_,_,_,_,_,p,_,_,_,rfl,hz⟩⟩
end
end
section
open PySem PySem.W PyProof.Rows PySem.Calls
theorem dk_walks {prog : Program} {w : World} {A : Around} (hh : A.handled = none) (I d : Addr) (hne : d ≠ I) (od : Obj) (es : Array DictEntry) (ep : Nat) (hd : od.data = .dict es ep) :
    Walks prog w A I [I,d] [I] es.size (fun j v => ∃ y,es[j]? = some y ∧ v = y.key) (fun i h => h.IsKeyIter I d i es.size ep ∧ h.get? d = some od) where
  sub := fun b hb => by simp at hb; simp [hb]
  frame := fun u_ u_ u_ st hk => ⟨st.1.at fun o e => hk I (by simp) o e,hk d (by simp) _ st.2⟩
  item := fun i s Q E hi st hQ => by
    refine dk_item st.1 st.2 hd (y := es[i]) (by simp [hi]) fun h' hit' hs' => ?_
    exact hQ _ h' s.toks ⟨_,by simp [hi],rfl⟩ ⟨hit',(hs'.2 d hne).trans st.2⟩ fun b o hb e => hs'.extBut b o (fun h => hb (by simp [h])) e
  done := fun s Q E st hQ => dk_end hh st.1 st.2 hd (by simp) fun h' he' => hQ h' s.toks fun b o hb e => he' b o (fun h => hb (by simp [h])) e
  self := fun u_ u_ u_ u_ st hQ => wpAny_pyIter_keyiter st.1 hQ
noncomputable def kRun {α : Type} (lt : Nat → Nat → Bool) : KasT α → α
  | .ret a => a
  | .ask i j k => kRun lt (k (lt i j))
theorem dk_src {prog : Program} {w : World} {d : Addr} {od : Obj} {es : Array DictEntry} {ep : Nat} (lo : (d == sysModules) = false) (hc : od.cls = .type "dict") (hd : od.data = .dict es ep) :
    KdlSrc prog w "dict" d d es.size (fun j v => ∃ y,es[j]? = some y ∧ v = y.key) (fun h => h.get? d = some od) where
  type := fun u_ hm => ⟨_,hm,hc⟩
  there := fun u_ hm => ⟨Heap.lt_size hm,Heap.lt_size hm⟩
  keep := fun u_ u_ hm hk => hk d (.inl rfl) _ hm
  notList := by decide
  notTuple := by decide
  hint := fun u_ u_ u_ u_ hm hq => kdl_hint_dict ⟨_,hm,hc⟩ hq
  iter := fun u_ u_ hh hm => ⟨_,_,(fun u_ u_ hq => dk_iter lo hm hc hd hq),dk_walks hh _ d (Nat.ne_of_lt (Heap.lt_size hm)) od es ep hd,⟨⟨_,Heap.get?_push_size _ rfl,rfl,rfl⟩,Heap.get?_push_of_some _ hm⟩⟩
noncomputable def kAll {α : Type} (P : α → Bool) : KasT α → Bool
  | .ret a => P a
  | .ask _ _ k => kAll P (k true) && kAll P (k false)
theorem kAll_run {α : Type} {P : α → Bool} {lt : Nat → Nat → Bool} : ∀ {t : KasT α},kAll P t = true → P (kRun lt t) = true
  | .ret a,h => h
  | .ask i j k,h => by
    have h := Bool.and_eq_true_iff.mp (show (kAll P (k true) && kAll P (k false)) = true from h);show P (kRun lt (k (lt i j))) = true;cases e : lt i j with
    | true => exact kAll_run h.1
    | false => exact kAll_run h.2
theorem sort_in : ∀ n,n ≤ 4 → kAll (fun p => p.size == n && p.toList.all (fun i => decide (i < n))) (kas_sort n) = true := fun n hn =>
  (Nat.lt_or_eq_of_le hn).elim (lt4 (P := fun n => kAll (fun p => p.size == n && p.toList.all (fun i => decide (i < n))) (kas_sort n) = true) (by decide +kernel) (by decide +kernel) (by decide +kernel) (by decide +kernel)) fun e => e ▸ (by decide +kernel)
noncomputable def lexLt : List Int → List Int → Bool
  | _,[] => false
  | [],_ :: _ => true
  | a :: as,b :: bs => if a = b then lexLt as bs else decide (a < b)
theorem lexLt_cons {a b : Int} {as bs : List Int} : lexLt (a :: as) (b :: bs) = if a = b then lexLt as bs else decide (a < b) := rfl
theorem lexLt_nil {b : Int} {bs : List Int} : lexLt [] (b :: bs) = true := rfl
noncomputable def srt (ks : List (List Int)) : List (List Int) := (kRun (fun i j => lexLt (ks.getD i []) (ks.getD j [])) (kas_sort ks.length)).toList.map fun i => ks.getD i []
end
section
open PySem PySem.W PyProof.Rows PySem.Calls
section
variable {W : Wd} {Φ : Fx} {ns : List Str} {gs : List (Str × Value)} {μ μ' : Mu} {ℓ : Loc}
theorem locL_relab {h : Heap} {F : Addr → Prop} {m : Str → Option Value} {v v' : V} (hv : ∀ x,Is h F v x → Is h F v' x) : ∀ {ns : List Str} {ℓ : Loc} {i : Nat},LocL h F m ns ℓ → ℓ[i]? = some (some v) → LocL h F m ns (ℓ.set i (some v'))
  | _ :: _,o :: ℓ,0,⟨p,q⟩,e => by
    cases e;apply gG;intro nG
    obtain ⟨y,hy,hi⟩ := p;apply nG;clear nG;exact ⟨⟨y,hy,hv y hi⟩,q⟩
  | _ :: _,o :: ℓ,i + 1,⟨p,q⟩,e => ⟨p,locL_relab hv q e⟩
  | [],[],_,_,e => nomatch e
theorem x_relab {α β : Type} {R : Heap → (Addr → Prop) → β → α → Prop} {t : Sem α} {a : Addr} {l : List V} {Q : β → Mu → Loc → Prop} (i : Nat) (h : Take (a,Ce.list l) μ μ') (k : X W R Φ ns gs μ' (ℓ.set i (some (.lst l))) t Q) (hi : ℓ[i]? = some (some (.val (.ref a))) := by rfl) : X W R Φ ns gs μ ℓ t Q := by
  intro s F G O I;have I₁ := I.perm h.perm;apply gG;intro nG
  obtain ⟨o,ho,hc⟩ := I₁.st.mu _ (.head _);obtain ⟨vs,n,rfl,hl⟩ := hc;obtain ⟨I₂,ex⟩ := I₁.freeze;obtain ⟨m,hm,hL⟩ := I₂.loc;apply nG;clear nG;have hL' : LocL s.heap (Frz F a) m ns (ℓ.set i (some (.lst l))) := locL_relab (v := .val (.ref a)) (fun x hx => by obtain ⟨_,rfl⟩ := hx.inv; exact .lst (n := n) (vs := vs.toList) (.inr rfl) ho rfl (by simp) (hl.ext ex)) hL hi;exact wN.mono (k s _ G O ⟨I₂.st,⟨m,hm,hL'⟩,I₂.apart,I₂.nfroz,I₂.grow⟩) (fun u_ u_ z => z.ext ex) fun u_ u_ z => z
end
end
section
open PySem PySem.W PyProof.Rows PySem.Calls
open AutoSeq1 (wpAny_loadPart')
noncomputable def IntsAt (items : Array Value) (ks : List Int) : Prop := items.size = ks.length ∧ ∀ (i : Nat) (h : i < items.size),∃ t,items[i] = .int (ks.getD i 0) t
theorem tuple_lt (l b : Addr) (items items2 : Array Value) (n n2 : Nat) (dd dd2 : Option Addr) (sl sl2 : Array (Option Value)) (ks js : List Int) (hk : IntsAt items ks) (hj : IntsAt items2 js) :
    Meets (Builtin.«tuple.__lt__» ⟨[.ref l,.ref b],[]⟩)
      (fun A R s => s.heap.get? l = some { cls := .type "tuple",dict := dd,data := .seq items n,slots := sl } ∧ s.heap.get? b = some { cls := .type "tuple",dict := dd2,data := .seq items2 n2,slots := sl2 } ∧
        R (.ok (.ret (.bool (lexLt ks js)))) s) :=
  .of_wp fun prog w A R s h => by
    (apply gG;intro nG;obtain ⟨hp,g,d,tk,os⟩ := s <;> refine nG ?_ <;> clear nG); (apply gG;intro nG;obtain ⟨hl,hb,h⟩ := h <;> refine nG ?_ <;> clear nG)
    have f2 := AutoSeq1.sub_tuple_tuple;have hZ : (items.toList.zip items2.toList).length = min items.size items2.size := by simp
    wp_walk using wpAny_loadPart' hl,wpAny_loadPart' hb,wpAny_forIn_list _ (fun rest b s' => b.1 = none ∧ s' = ⟨hp,g,d,tk,os⟩ ∧ ∃ i,i ≤ min items.size items2.size ∧ rest = (items.toList.zip items2.toList).drop i ∧
      R (.ok (.ret (.bool (lexLt (ks.drop i) (js.drop i))))) ⟨hp,g,d,tk,os⟩) _
    case turn =>
      rintro xC0_ rest b s' xC4_; apply gG;intro nG;obtain ⟨y,x⟩ := xC0_; obtain ⟨hb',rfl,i,hi0,hz,hR⟩ := xC4_
      apply nG;clear nG;have hlt : i < (items.toList.zip items2.toList).length := by
        rcases Nat.lt_or_ge i (items.toList.zip items2.toList).length with h' | h'
        · exact h'
        · rw [List.drop_of_length_le h'] at hz; cases hz
      have hm : i < min items.size items2.size := hZ ▸ hlt;have h1 : i < items.size := Nat.lt_of_lt_of_le hm (Nat.min_le_left _ _);have h2 : i < items2.size := Nat.lt_of_lt_of_le hm (Nat.min_le_right _ _);rw [List.drop_eq_getElem_cons hlt] at hz;injection hz with hyx hrest
      have hy : y = items[i] := by have := congrArg Prod.fst hyx; simpa using this
      have hx : x = items2[i] := by have := congrArg Prod.snd hyx; simpa using this
      apply gG;intro nG
      obtain ⟨t1,e1⟩ := hk.2 i h1;obtain ⟨t2,e2⟩ := hj.2 i h2;apply nG;clear nG;rw [e1] at hy;rw [e2] at hx;subst hy hx;have hk1 : i < ks.length := hk.1 ▸ h1;have hj1 : i < js.length := hj.1 ▸ h2;rw [List.drop_eq_getElem_cons hk1,List.drop_eq_getElem_cons hj1,lexLt_cons] at hR;have g1 : ks.getD i 0 = ks[i] := by simp [hk1]
      have g2 : js.getD i 0 = js[i] := by simp [hj1]
      rw [g1,g2];refine wpAny_bind (SeqAt.EqAt.int_int ks[i] t1 js[i] t2 prog w _ _ ?_)
      by_cases hc : ks[i] = js[i]
      · rw [if_pos hc] at hR;have : (ks[i] == js[i]) = true := beq_iff_eq.mpr hc;rw [this]
        wp_walk
        exact ⟨rfl,rfl,i + 1,hm,hrest,hR⟩
      · rw [if_neg hc] at hR;have : (ks[i] == js[i]) = false := beq_eq_false_iff_ne.mpr hc;rw [this];rw [if_pos (show (!false) = true from rfl)];refine wpAny_bind (wpAny_rule (wpAny_bind ?_));show wpAny _ _ (compareOp .Lt (Value.int ks[i] t1) (Value.int js[i] t2)) _ _ _;refine P.lt_int ?_
        wp_walk
        exact ⟨_,rfl,hR⟩
    case fin =>
      rintro xC0_ s' xC2_; apply gG;intro nG;obtain ⟨b1,b2⟩ := xC0_; obtain ⟨hb',rfl,i,hi0,hz,hR⟩ := xC2_
      apply nG;clear nG;simp only at hb';subst hb';have hge : min items.size items2.size ≤ i := by
        rcases Nat.lt_or_ge i (items.toList.zip items2.toList).length with h' | h'
        · rw [List.drop_eq_getElem_cons h'] at hz; cases hz
        · exact hZ ▸ h'
      have hi1 : i = min items.size items2.size := Nat.le_antisymm hi0 hge;have hlex : lexLt (ks.drop i) (js.drop i) = decide (items.size < items2.size) := by
        rw [hi1,hk.1,hj.1];rcases Nat.lt_or_ge ks.length js.length with h | h
        · rw [Nat.min_eq_left (Nat.le_of_lt h),List.drop_of_length_le (Nat.le_refl _),List.drop_eq_getElem_cons h,lexLt_nil,decide_eq_true h]
        · rw [Nat.min_eq_right h,List.drop_of_length_le (l := js) (Nat.le_refl _),decide_eq_false (Nat.not_lt.mpr h)];cases ks.drop js.length <;> rfl
      rw [hlex] at hR
      wp_walk
      exact ⟨_,rfl,by simpa [Builtin.Tuple.tupleCompareSizes] using hR⟩
    case h =>
      exact ⟨rfl,rfl,0,Nat.zero_le _,rfl,by simpa using h⟩
theorem rc_lt_tup {prog : Program} {w : World} {A : Around} {E : Value → Shared → Prop} {s : Shared} {l b : Addr} {items items2 : Array Value} {ks js : List Int} {Q : Value → Shared → Prop} (hl : s.heap.IsTuple l items) (hb : s.heap.IsTuple b items2) (hk : IntsAt items ks) (hj : IntsAt items2 js) (hu : A.units < cLine) (h : Q (.bool (lexLt ks js)) s) :
    wpAny (model prog w) A (richCompare .Lt (.ref l) (.ref b)) Q E s := by
  apply gG;intro nG
  obtain ⟨⟨cls,dd,data,sl⟩,ho,hc,n,hd⟩ := id hl;obtain ⟨⟨cls2,dd2,data2,sl2⟩,ho2,hc2,n2,hd2⟩ := id hb;apply nG;clear nG;simp only at hc hd hc2 hd2;subst hc hd hc2 hd2;exact richCompare_meets_room (op := .Lt) ⟨_,ho,rfl⟩ ⟨_,ho2,rfl⟩ F.slot_tuple_lt F.entry_tuple_lt (F.args_tuple_lt_2 _ _) (tuple_lt l b items items2 n n2 dd dd2 sl sl2 ks js hk hj)
    ⟨ho,ho2,show Value.bool (lexLt ks js) ≠ Value.notImplemented ∧ Q (.bool (lexLt ks js)) s from ⟨(fun x => nomatch x),h⟩⟩ hu
end
section
open PySem PySem.W PyProof.Rows PySem.Calls
section
variable {prog : Program} {w : World} {A : Around} {E : Value → Shared → Prop} {s : Shared}
theorem katLex_ints {b : Bool} {Q : Bool → Shared → Prop} (xs ys : List Value) (ks js : List Int) (i : Nat) {fin : Bool} (hx : IntsAre xs ks) (hy : IntsAre ys js) (hf : fin = decide (xs.length < ys.length)) (h : Q (lexLt ks js) s) : KatLex prog w A b fin Q (xs.zip ys) i s := by
  subst hf;induction hx generalizing ys js i with
  | nil => cases hy <;> exact h
  | @cons n t xs ks hx ih =>
    cases hy with
    | nil => exact h
    | @cons m u ys js hy =>
      rw [List.zip_cons_cons];refine kat_cons (SeqAt.EqAt.int_int n t m u prog w _ _ ?_);rw [lexLt_cons] at h
      by_cases e : n = m
      · rw [if_pos e] at h;rw [show (n == m) = true from beq_iff_eq.mpr e];exact kat_yes (by have := ih ys js (i + 1) hy h; rwa [show decide ((Value.int n t :: xs).length < (Value.int m u :: ys).length) = decide (xs.length < ys.length) from decide_eq_decide.mpr Nat.succ_lt_succ_iff])
      · rw [if_neg e] at h;rw [show (n == m) = false from beq_eq_false_iff_ne.mpr e];refine kat_no ?_;cases (b && i == 0) with
        | true => exact oneLt_int h
        | false => exact kat_one _ _ (P.lt_int h)
theorem ask_tuples {b : Bool} {x y : Addr} {ks js : List Int} {xs ys : List Value} {Q : Bool → Shared → Prop} (hx : s.heap.IsTuple x xs.toArray) (hy : s.heap.IsTuple y ys.toArray) (ix : IntsAre xs ks) (iy : IntsAre ys js) (h : Q (lexLt ks js) s) :
    wpAny (model prog w) A (keyLt' (tuples' b) (.ref x) (.ref y)) Q E s := by
  apply gG;intro nG
  obtain ⟨ox,hox,_,nx,hdx⟩ := hx;obtain ⟨oy,hoy,_,ny,hdy⟩ := hy;apply nG;clear nG;refine kat_lt hox hdx hoy hdy ?_;exact katLex_ints xs ys ks js 0 ix iy (by simp) h
theorem intsAt_of : ∀ {vs : List Value} {ks : List Int},IntsAre vs ks → IntsAt vs.toArray ks := fun {vs ks} h => ⟨by rw [List.size_toArray,h.length],fun i hi => by
  apply gG;intro nG
  obtain ⟨n,t,e,hn⟩ := IntsAre.at h i vs[i] (by simp at hi; simp [hi]);apply nG;clear nG;exact ⟨t,by
    rw [List.getElem_toArray,e];have : ks.getD i 0 = n := by rw [List.getD_eq_getElem?_getD,hn]; rfl
    rw [this]⟩⟩
theorem ask_general {x y : Addr} {ks js : List Int} {xs ys : List Value} {Q : Bool → Shared → Prop} (hu : A.units < cLine) (hx : s.heap.IsTuple x xs.toArray) (hy : s.heap.IsTuple y ys.toArray) (ix : IntsAre xs ks) (iy : IntsAre ys js) (h : Q (lexLt ks js) s) :
    wpAny (model prog w) A (keyLt' general' (.ref x) (.ref y)) Q E s :=
  kat_one _ _ (rc_lt_tup hx hy (intsAt_of ix) (intsAt_of iy) hu h)
theorem ask_oneType {x y : Addr} {ks js : List Int} {xs ys : List Value} {Q : Bool → Shared → Prop} (hu : A.units < cLine) (hx : s.heap.IsTuple x xs.toArray) (hy : s.heap.IsTuple y ys.toArray) (ix : IntsAre xs ks) (iy : IntsAre ys js) (h : Q (lexLt ks js) s) :
    wpAny (model prog w) A (keyLt' oneType' (.ref x) (.ref y)) Q E s := by
  apply gG;intro nG
  obtain ⟨⟨cls,dd,data,sl⟩,ho,hc,n,hd⟩ := id hx;obtain ⟨⟨cls2,dd2,data2,sl2⟩,ho2,hc2,n2,hd2⟩ := id hy;apply nG;clear nG;simp only at hc hd hc2 hd2;subst hc hd hc2 hd2;rw [keyLt'_oneType,oneLt'_eq];rw [if_pos rfl];refine wpAny_bind (wpAny_cRoomFor hu ?_);refine wpAny_bind (wpAny_callSpecialIfBound?_slot ⟨_,ho,rfl⟩ F.slot_tuple_lt (call_meets F.slot_tuple_lt ⟨_,ho,rfl⟩ F.entry_tuple_lt (F.args_tuple_lt_2 _ _) (tuple_lt x y xs.toArray ys.toArray n n2 dd dd2 sl sl2 ks js (intsAt_of ix) (intsAt_of iy)) ⟨ho,ho2,?_⟩));exact wpAny_truthy_bool h
end
end
section
open PySem PySem.W PyProof.Rows PySem.Calls
section
variable {M : Model} {A : Around} {E : Value → Shared → Prop} {s : Shared}
theorem first_tups : ∀ (vs : List Value) {Q : List (Option Value) → Shared → Prop},(∀ v ∈ vs,∃ a xs k,v = .ref a ∧ s.heap.IsTuple a xs.toArray ∧ IntsAre xs k) →
    (∀ bs,bs.length = vs.length → (∀ b ∈ bs,∀ f,b = some f → ∃ i t,f = .int i t) → Q bs s) → wpAny M A (vs.mapM firstOfTuple') Q E s
  | [],Q,_,h => by rw [List.mapM_nil]; exact wpAny_pure (h [] rfl fun u_ hb => nomatch hb)
  | v :: vs,Q,ht,h => by
    apply gG;intro nG
    obtain ⟨a,xs,k,rfl,⟨o,ho,hc,n,hd⟩,hi⟩ := ht _ (.head _);apply nG;clear nG;rw [List.mapM_cons];refine wpAny_bind ?_;rw [kas_first_eq];refine wpAny_bind (Looks.here (show Looks M s.heap (typeOf (.ref a)) o.cls from (Looks.ld ho).andThen .now) ?_);rw [hc,if_neg (by first | decide | simp)];refine wpAny_bind (listItems_at ho hd (wpAny_pure ?_));refine wpAny_bind (first_tups vs (fun v hv => ht v (.tail _ hv)) fun bs hl hb => wpAny_pure (h _ (by simp [hl]) fun b hb' f e => ?_));rcases List.mem_cons.mp hb' with rfl | hb'
    · cases hi with
      | nil => cases e
      | cons n t hi => cases e; exact ⟨_,_,rfl⟩
    · exact hb b hb' f e
theorem type_ints : ∀ (vs : List Value),(∀ v ∈ vs,∃ i t,v = .int i t) → vs.mapM (m := Sem) typeOf = pure (vs.map fun u_ => Value.type "int")
  | [],_ => by simp
  | v :: vs,h => by
    apply gG;intro nG
    obtain ⟨i,t,rfl⟩ := h _ (.head _);apply nG;clear nG;rw [List.mapM_cons,type_ints vs fun v hv => h v (.tail _ hv)];show (pure (Value.type "int") >>= fun b => pure _ >>= fun bs => pure (b :: bs)) = _
    simp
theorem type_tups : ∀ (vs : List Value) {Q : List Value → Shared → Prop},(∀ v ∈ vs,∃ a xs k,v = .ref a ∧ s.heap.IsTuple a xs.toArray ∧ IntsAre xs k) → (∀ ts,Q ts s) → wpAny M A (vs.mapM typeOf) Q E s
  | [],Q,_,h => by rw [List.mapM_nil]; exact wpAny_pure (h [])
  | v :: vs,Q,ht,h => by
    apply gG;intro nG
    obtain ⟨a,xs,k,rfl,⟨o,ho,hc,n,hd⟩,hi⟩ := ht _ (.head _);apply nG;clear nG;rw [List.mapM_cons];refine wpAny_bind (Looks.here (show Looks M s.heap (typeOf (.ref a)) o.cls from (Looks.ld ho).andThen .now) ?_);exact wpAny_bind (type_tups vs (fun v hv => ht v (.tail _ hv)) fun ts => wpAny_pure (h _))
theorem kind_tups {vs : List Value} {Q : SortKind → Shared → Prop} (ht : ∀ v ∈ vs,∃ a xs k,v = .ref a ∧ s.heap.IsTuple a xs.toArray ∧ IntsAre xs k) (h1 : ∀ b,Q (tuples' b) s) (h2 : Q general' s) (h3 : Q oneType' s) : wpAny M A (keyKind' vs.toArray) Q E s := by
  rw [keyKind'_eq,List.mapM_toArray,map_eq_pure_bind];refine wpAny_bind (wpAny_bind (first_tups vs ht fun bs hl hb => wpAny_pure ?_))
  by_cases ha : (bs.toArray.all fun x => x.isSome) = true
  · rw [if_pos ha];refine wpAny_bind (wpAny_rule ?_);have hf : ∀ v ∈ bs.filterMap id,∃ i t,v = .int i t := fun v hv => by
      apply gG;intro nG
      obtain ⟨b,hb1,hb2⟩ := List.mem_filterMap.mp hv;apply nG;clear nG;exact hb b hb1 v hb2
    have e1 : bs.toArray.filterMap id = (bs.filterMap id).toArray := by simp
    rw [e1,oneTypeOnly'_eq,List.mapM_toArray,type_ints _ hf,map_eq_pure_bind];refine wpAny_bind (wpAny_bind (wpAny_bind (wpAny_pure (wpAny_pure ?_))))
    split
    · exact wpAny_pure (wpAny_pure (h1 _))
    · exact wpAny_pure (wpAny_pure (h1 _))
  · rw [if_neg ha];refine wpAny_ite_split (fun u_ => wpAny_pure h2) (fun u_ => ?_);rw [oneTypeOnly'_eq,List.mapM_toArray,map_eq_pure_bind];refine wpAny_bind (wpAny_bind (wpAny_bind (type_tups vs ht fun ts => wpAny_pure ?_)));have fin : ∀ o : Option Value,wpAny M A (pure (if o.isSome = true then oneType' else general')) Q E s := fun o => by
      cases o with
      | none => exact wpAny_pure h2
      | some v => exact wpAny_pure h3
    split
    · split
      · exact wpAny_pure (fin (some _))
      · exact wpAny_pure (fin none)
    · exact wpAny_pure (fin none)
end
end
section
open PySem PySem.W PyProof.Rows PySem.Calls
section
variable {prog : Program} {w : World} {A : Around} {E : Value → Shared → Prop} {s : Shared}
theorem sort_small {a : Addr} {vs : List Value} {n : Nat} {P : PySem.Fin → Shared → Prop} (ho : s.heap.get? a = some (seqObj "list" vs.toArray n)) (h2 : vs.length < 2)
    (h : P (.done (.ret .none)) { s with heap := sortedHeap s.heap a vs vs.toArray }) :
    wpAny (model prog w) A (Builtin.«list.sort» ⟨[.ref a],[]⟩) P E s := by
  have ha : a < s.heap.objs.size := Heap.lt_size ho;apply gG;intro nG
  obtain ⟨e1,ho1⟩ : ∃ e1,(s.heap.update a (Obj.mapSeq fun u_ => (#[] : Array Value))).get? a = some (seqObj "list" #[] e1) := ⟨_,get?_update_seq ho fun u_ => #[]⟩
  apply nG;clear nG;rw [list_sort_plain];refine wpAny_bind (listItems_at ho rfl ?_);refine wpAny_bind (listUpdate_at ho rfl ?_ (by rw [List.size_toArray,sizeLine_eq]; exact q385 h2) (Nat.zero_le _));refine wpAny_bind (seqEpoch_at ho1 rfl ?_);refine wpAny_bind (wpAny_newTuple ?_ (by show vs.length ≤ _; rw [sizeLine_eq]; exact q385 h2));refine wpAny_bind (wpAny_newList ?_ (Nat.zero_le _));refine wpAny_holding ?_;have ho6 : (((s.heap.update a (Obj.mapSeq fun u_ => #[])).push (seqObj "tuple" vs.toArray 0)).push (seqObj "list" #[] 0)).get? a = some (seqObj "list" #[] e1) := by
    rw [Heap.get?_push_ne _ _ _ (by rw [size_push',Heap.size_update]; exact Nat.ne_of_lt (Nat.lt_succ_of_lt ha)),Heap.get?_push_ne _ _ _ (by rw [Heap.size_update]; exact Nat.ne_of_lt ha)];exact ho1
  show wpAny (model prog w) A _ P E { s with heap := ((s.heap.update a (Obj.mapSeq fun u_ => #[])).push (seqObj "tuple" vs.toArray 0)).push (seqObj "list" #[] 0) };dsimp only;have hsz : vs.toArray.size < 2 := by rw [List.size_toArray]; exact h2
  rw [if_pos hsz,if_pos hsz];refine wpAny_bind (wpAny_pure ?_);rw [StateT.run_pure];refine wpAny_bind (wpAny_pure ?_);dsimp only;refine wpAny_bind (seqEpoch_at ho6 rfl ?_);have hout : (arrOf (SortSt.mk' general' (vs.toArray.zip vs.toArray) #[] 7 none)).map (·.2) = vs.toArray := by
    show (vs.toArray.zip vs.toArray).map (·.2) = vs.toArray;apply Array.ext <;> simp
  rw [hout];refine wpAny_bind (listUpdate_at ho6 rfl ?_ (Nat.zero_le _) (by rw [List.size_toArray,sizeLine_eq]; exact q386 h2));simp only [bne_self_eq_false,Bool.false_eq_true,if_false];exact wpAny_pure h
end
end
section
open PySem PySem.W PyProof.Rows PySem.Calls
noncomputable def kAsks {α : Type} (n : Nat) : KasT α → Bool
  | .ret _ => true
  | .ask i j k => decide (i < n) && decide (j < n) && kAsks n (k true) && kAsks n (k false)
theorem sort_asks : ∀ n,n ≤ 4 → kAsks n (kas_sort n) = true := by
  intro n hn
  match n,hn with
  | 0,_ => decide +kernel
  | 1,_ => decide +kernel
  | 2,_ => decide +kernel
  | 3,_ => decide +kernel
  | 4,_ => decide +kernel
theorem kRun_wpn {α : Type} {n : Nat} {cmp : Nat → Nat → (Bool → Shared → Prop) → Shared → Prop} {lt : Nat → Nat → Bool} {s : Shared} {Q : α → Shared → Prop} (hc : ∀ i j Q,i < n → j < n → Q (lt i j) s → cmp i j Q s) :
    ∀ (t : KasT α),kAsks n t = true → Q (kRun lt t) s → t.kasWp cmp Q s
  | .ret a,_,h => h
  | .ask i j k,hk,h => by
    have hk : (decide (i < n) && decide (j < n) && kAsks n (k true) && kAsks n (k false)) = true := hk;rw [Bool.and_eq_true,Bool.and_eq_true,Bool.and_eq_true] at hk;refine hc i j _ (of_decide_eq_true hk.1.1.1) (of_decide_eq_true hk.1.1.2) ?_;refine kRun_wpn hc (k (lt i j)) ?_ h;cases lt i j with
    | true => exact hk.1.2
    | false => exact hk.2
theorem srt_small : ∀ {ks : List (List Int)},ks.length < 2 → srt ks = ks
  | [],_ => rfl
  | [k],_ => rfl
theorem ints_are {h : Heap} {F : Addr → Prop} : ∀ {ks : List Int} {vs : List Value},IsL h F (ks.map V.int) vs → IntsAre vs ks
  | [],_,.nil => .nil
  | k :: ks,_,.cons hv hl => by obtain ⟨_,rfl⟩ := hv.inv; exact .cons _ _ (ints_are hl)
theorem tup_ints {h : Heap} {F : Addr → Prop} {ks : List Int} {v : Value} (h1 : Is h F (.tup (ks.map V.int)) v) : ∃ a xs,v = .ref a ∧ h.IsTuple a xs.toArray ∧ IntsAre xs ks := by
  apply gG;intro nG
  obtain ⟨_,_,_,_,rfl,hF,ho,hc,hd,hl⟩ := h1.tup_inv;apply nG;clear nG
  · exact ⟨_,_,rfl,⟨_,ho,hc,_,hd⟩,ints_are hl⟩
theorem isL_of {h : Heap} {F : Addr → Prop} {l : List V} {vs : List Value} (e : vs.length = l.length) (H : ∀ (i : Nat) (v : V) (x : Value),l[i]? = some v → vs[i]? = some x → Is h F v x) : IsL h F l vs :=
  isL_of_get e fun i v hv => have hi : i < vs.length := e ▸ (List.getElem?_eq_some_iff.mp hv).1; ⟨vs[i],List.getElem?_eq_getElem hi,H i v _ hv (List.getElem?_eq_getElem hi)⟩
section
variable {W : Wd} {Φ : Fx} {ns : List Str} {gs : List (Str × Value)} {μ μ' : Mu} {ℓ : Loc}
theorem l_sorted {d : Addr} {l : List (List Int × V)} {Q : V → Mu → Loc → Prop} (hd : (d == sysModules) = false) (hm : (d,Ce.dict l) ∈ μ) (hz : l.length ≤ 4) (q : ∀ a,Q (.val (.ref a)) ((a,.list ((srt (l.map (·.1))).map fun k => .tup (k.map V.int))) :: μ) ℓ) : XL W RV Φ ns gs μ ℓ [.val (.ref d)] (fun xs => call (.builtin "sorted") xs) Q := by
  intro s F xs G O I hx;apply gG;intro nG
  obtain ⟨x,rfl,ha⟩ := isL1 hx;apply nG;clear nG;cases ha;apply gG;intro nG
  obtain ⟨o,ho,es,ep,rfl,hE,nd⟩ := I.cell hm;obtain ⟨m,hm',hL⟩ := I.loc;apply nG;clear nG;have hlen : es.size = l.length := by rw [← isE_len hE,Array.length_toList]
  have hus : Φ.A.in1.in1.units < cLine := by
    have := O.room.units;unfold cLine;simp only;exact q387 this
  have srtL : ∀ (n : Nat),n = l.length → srt (l.map (·.1)) = (kRun (fun i j => lexLt ((l.map (·.1)).getD i []) ((l.map (·.1)).getD j [])) (kas_sort n)).toList.map fun i => (l.map (·.1)).getD i [] := fun n e => by
    unfold srt; rw [List.length_map,e]
  refine .of (kdu_sorted (K := dk_src (od := ⟨.type "dict",none,.dict es ep,#[]⟩) hd rfl rfl) O.room.handled (In.fr hm') (others_news _ _) ho (by rw [hlen,sizeLine_eq]; (exact Nat.le_trans (by assumption) (by decide))) fun D h' tk vs F' N' l1 hl hv => ?_);rw [hlen] at hl;have hkeys : ∀ (j : Nat) (v : Value),vs[j]? = some v → ∃ p,l[j]? = some p ∧ Is s.heap F (.tup (p.1.map V.int)) v := fun j v e => by
    apply gG;intro nG
    obtain ⟨y,hy,rfl⟩ := hv j v e;have hj : j < l.length := by rw [← hl]; exact (List.getElem?_eq_some_iff.mp e).1
    obtain ⟨y',hy',hk⟩ := isE_at hE (List.getElem?_eq_getElem hj);apply nG;clear nG;rw [← Array.getElem?_toList,hy'] at hy;cases hy;exact ⟨_,List.getElem?_eq_getElem hj,hk⟩
  have fresh : s.heap.get? D = none := by
    cases e : s.heap.get? D with
    | none => rfl
    | some x => exact absurd (l1 (D,x) (others_mem.mpr ⟨(N' _ (.head _)).2.1,e⟩)) (Nat.lt_irrefl _)
  have fin : ∀ (h3 : Heap) (c : Nat) (out : List Value),Fr {} Φ.env.locals h3 m → News {} Φ.env.locals h3 ((D,listOf out.toArray c) :: others s.heap Φ.env.locals) → IsL s.heap F ((srt (l.map (·.1))).map fun k => .tup (k.map V.int)) out → Res W RV Φ ns F s.heap Q (.ref D) { s with heap := h3,toks := tk } := fun h3 c out F3 N3 hI => by
    obtain ⟨J,ex⟩ := I.ledger (k := tk) O hL F3.ns N3 fresh (c := .list ((srt (l.map (·.1))).map fun k => .tup (k.map V.int))) fun ex => ⟨_,_,rfl,hI.ext ex⟩
    exact ⟨F,_,_,ℓ,J,ex,.val,q D⟩
  have one : ∀ i,i < l.length → ∃ v,vs[i]? = some v ∧ Is s.heap F (.tup (((l.map (·.1)).getD i []).map V.int)) v := fun i hi => by
    have hi' : i < vs.length := by exact q388 hl hi
    apply gG;intro nG
    obtain ⟨p,hp,hk⟩ := hkeys i _ (List.getElem?_eq_getElem hi');apply nG;clear nG;refine ⟨_,List.getElem?_eq_getElem hi',?_⟩;rw [List.getD_eq_getElem?_getD,List.getElem?_map,hp];exact hk
  have hn := N' _ (.head _);have hpick : ∀ (p : List Nat),(∀ i ∈ p,i < l.length) → IsL s.heap F (p.map fun i => V.tup (((l.map (·.1)).getD i []).map V.int)) (p.map fun i => vs.getD i Value.none) := fun p => by
    induction p with
    | nil => intro _; exact .nil
    | cons i p ih =>
      intro H;refine .cons ?_ (ih fun j hj => H j (.tail _ hj));apply gG;intro nG
      obtain ⟨v,hv,hk⟩ := one i (H i (.head _));apply nG;clear nG;show Is s.heap F (V.tup (((l.map (·.1)).getD i []).map V.int)) (vs.getD i Value.none);rw [List.getD_eq_getElem?_getD (l := vs),hv];exact hk
  by_cases h2 : vs.length < 2
  · refine wpAny_call_entry slot_list_sort ⟨_,hn.1,rfl⟩ entry_list_sort (sort_small (n := 0) hn.1 h2 ?_) (args_list_sort _);obtain ⟨c,hc⟩ := sortedHeap_at (h := h') (a := D) (vs := vs) (n := 0) (out := vs.toArray) hn.1;have F4 : Fr {} Φ.env.locals (sortedHeap h' D vs vs.toArray) m :=
      kas_fr (((kas_fr F' (Heap.SameBut.update h' D (Obj.mapSeq fun u_ => #[])) hn.2.1 (noObj _)).push (seqObj "tuple" vs.toArray 0)).push (seqObj "list" #[] 0)) (Heap.SameBut.update _ D (Obj.mapSeq fun u_ => vs.toArray)) hn.2.1 (noObj _)
    refine ⟨_,rfl,fin _ c vs F4 (fun p hp => ?_) ?_⟩
    · rcases List.mem_cons.mp hp with rfl | hp
      · exact ⟨hc,hn.2⟩
      · have y := N' p (.tail _ hp);exact ⟨(sortedHeap_old (Nat.ne_of_lt (l1 p hp)) (Heap.lt_size y.1)).trans y.1,y.2⟩
    · rw [srt_small (by rw [List.length_map,← hl]; exact h2)];rw [List.map_map];refine isL_of (by rw [List.length_map]; exact hl) fun i v x e1 e2 => ?_
      apply gG;intro nG
      obtain ⟨p,hp,hk⟩ := hkeys i x e2;apply nG;clear nG;rw [List.getElem?_map,hp] at e1;cases e1;exact hk
  · refine kat_lsort F' N' (.head fun p hp => Nat.ne_of_lt (l1 p hp)) rfl (by simpa using h2) (by simp; exact q389 hz hl) fun e1 h'' F'' N'' => ?_
    obtain ⟨_,ex⟩ := I.kept (k := tk) hL F''.ns (others_keep (more := [_]) N'') O;have one' : ∀ i,i < l.length → ∃ v a xs,vs[i]? = some v ∧ v = .ref a ∧ h''.IsTuple a xs.toArray ∧ IntsAre xs ((l.map (·.1)).getD i []) := fun i hi => by
      apply gG;intro nG
      obtain ⟨v,hv,hk⟩ := one i hi;obtain ⟨a,xs,e,ht,hx⟩ := tup_ints (hk.ext ex);apply nG;clear nG;exact ⟨v,a,xs,hv,e,ht,hx⟩
    have all : ∀ v ∈ vs,∃ a xs k,v = .ref a ∧ h''.IsTuple a xs.toArray ∧ IntsAre xs k := fun v hv => by
      apply gG;intro nG
      obtain ⟨i,hi,rfl⟩ := List.mem_iff_getElem.mp hv;obtain ⟨v,a,xs,hv,e,ht,hx⟩ := one' i (by exact q390 hl hi);apply nG;clear nG;rw [List.getElem?_eq_getElem hi] at hv;cases hv;exact ⟨a,xs,_,e,ht,hx⟩
    have done : ∀ κ : SortKind,(∀ (x y : Addr) (ks js : List Int) (xs ys : List Value) (Q : Bool → Shared → Prop),h''.IsTuple x xs.toArray → h''.IsTuple y ys.toArray → IntsAre xs ks → IntsAre ys js → Q (lexLt ks js) { s with heap := h'',toks := tk } →
        wpAny (model W.prog W.w) Φ.A.in1.in1 (keyLt' κ (.ref x) (.ref y)) Q (fun u_ u_ => False) { s with heap := h'',toks := tk }) →
        (kas_sort vs.length).kasWp (kas_ask W.prog W.w Φ.A.in1.in1 κ vs) (fun p s'' => KasFin {} Φ.env.locals m D e1 (p.toList.map fun i => vs.getD i Value.none) (fun s3 => Res W RV Φ ns F s.heap Q (.ref D) s3) s'') { s with heap := h'',toks := tk } := fun κ hκ => by
      refine kRun_wpn (n := l.length) (lt := fun i j => lexLt ((l.map (·.1)).getD i []) ((l.map (·.1)).getD j [])) (fun i j Q' hi hj hq => ?_) _ (by rw [hl]; exact sort_asks _ hz) ?_
      · apply gG;intro nG
        obtain ⟨v,a,xs,hv,rfl,ht,hx⟩ := one' i hi;obtain ⟨v',a',xs',hv',rfl,ht',hx'⟩ := one' j hj;apply nG;clear nG;unfold kas_ask;rw [List.getD_eq_getElem?_getD,List.getD_eq_getElem?_getD,hv,hv'];exact hκ _ _ _ _ _ _ _ ht ht' hx hx' hq
      · refine KasFin.intro F'' N'' (.head fun p hp => Nat.ne_of_lt (l1 p hp)) fun h3 c F3 N3 => ?_
        refine fin h3 c _ F3 N3 ?_;rw [srtL _ hl,List.map_map];refine hpick _ fun i hi => ?_
        have := kAll_run (lt := fun i j => lexLt ((l.map (·.1)).getD i []) ((l.map (·.1)).getD j [])) (sort_in vs.length (by exact q391 hz hl));rw [Bool.and_eq_true] at this;rw [← hl];exact of_decide_eq_true (List.all_eq_true.mp this.2 i hi)
    refine kind_tups all (fun b => ?_) ?_ ?_
    · exact done _ fun x y ks js xs ys Q' hx hy ix iy h => ask_tuples hx hy ix iy h
    · exact done _ fun x y ks js xs ys Q' hx hy ix iy h => ask_general hus hx hy ix iy h
    · exact done _ fun x y ks js xs ys Q' hx hy ix iy h => ask_oneType hus hx hy ix iy h
end
end
section
open PySem PySem.W PyProof.Rows PySem.Calls
noncomputable def dV (L : List (List Int × Int)) : List (List Int × V) := L.map fun p => (p.1,.int p.2)
noncomputable def sGet (L : List (List Int × Int)) (key : List Int) : Option Int := (L.find? fun p => decide (p.1 = key)).map (·.2)
noncomputable def sPut (L : List (List Int × Int)) (key : List Int) (w : Int) : List (List Int × Int) := if (sGet L key).isSome then L.map (fun p => if p.1 = key then (p.1,w) else p) else L ++ [(key,w)]
noncomputable def sKept (what : Int) (key : List Int) (p : List Int × Int) : Bool := !decide (p.1 = key) || what != 2
noncomputable def sAfter0 (L : List (List Int × Int)) (what : Int) (key : List Int) : List (List Int × Int) := L.filter (sKept what key)
noncomputable def sAfter (L : List (List Int × Int)) (what : Int) (key : List Int) (w : Int) : List (List Int × Int) := if what = 0 then sPut (sAfter0 L what key) key w else sAfter0 L what key
noncomputable def sKeys (L : List (List Int × Int)) (what : Int) : List (List Int) := if what = 3 then srt (L.map (·.1)) else []
noncomputable def sAns (L : List (List Int × Int)) (what : Int) (key : List Int) : V := .tup [.bool (sGet L key).isSome,.int ((sGet L key).getD 0),.lst ((sKeys L what).map fun k => .tup (k.map V.int))]
theorem dGet_dV (L : List (List Int × Int)) (key : List Int) : dGet (dV L) key = (sGet L key).map V.int := by
  unfold dGet dV sGet;rw [List.find?_map,Option.map_map,Option.map_map]
  rfl
theorem dGet_some (L : List (List Int × Int)) (key : List Int) : (dGet (dV L) key).isSome = (sGet L key).isSome := by rw [dGet_dV,Option.isSome_map]
theorem dPut_dV (L : List (List Int × Int)) (key : List Int) (w : Int) : dPut (dV L) key (.int w) = dV (sPut L key w) := by
  unfold dPut sPut;rw [dGet_some];cases (sGet L key).isSome with
  | true =>
    rw [if_pos rfl,if_pos rfl];unfold dV;rw [List.map_map,List.map_map];refine List.map_congr_left fun p u_ => ?_
    show (if p.1 = key then (p.1,V.int w) else (p.1,V.int p.2)) = _;show _ = (fun q : List Int × Int => (q.1,V.int q.2)) (if p.1 = key then (p.1,w) else p)
    by_cases e : p.1 = key
    · rw [if_pos e,if_pos e]
    · rw [if_neg e,if_neg e]
  | false =>
    rw [if_neg Bool.false_ne_true,if_neg Bool.false_ne_true];unfold dV;rw [List.map_append]
    rfl
theorem dV_len (L : List (List Int × Int)) : (dV L).length = L.length := by unfold dV; rw [List.length_map]
theorem dV_keys (L : List (List Int × Int)) : (dV L).map (·.1) = L.map (·.1) := by unfold dV; rw [List.map_map]; rfl
theorem sAfter0_le (L : List (List Int × Int)) (what : Int) (key : List Int) : (sAfter0 L what key).length ≤ L.length := List.length_filter_le _ _
theorem sPut_len (L : List (List Int × Int)) (key : List Int) (w : Int) : (sPut L key w).length ≤ L.length + 1 := by
  unfold sPut
  split
  · rw [List.length_map]; (exact Nat.le_add_right _ _)
  · rw [List.length_append]; exact Nat.le_refl _
theorem sAfter_len (L : List (List Int × Int)) (what : Int) (key : List Int) (w : Int) : (sAfter L what key w).length ≤ L.length + 1 := by
  have h := sAfter0_le L what key;unfold sAfter
  split
  · exact Nat.le_trans (sPut_len ..) (by exact q173 h)
  · exact q174 h
theorem sGet_none {L : List (List Int × Int)} {key : List Int} (h : key ∉ L.map (·.1)) : sGet L key = none := by
  unfold sGet;rw [Option.map_eq_none_iff,List.find?_eq_none];intro p hp;simp only [decide_eq_true_eq];exact fun e => h (List.mem_map.mpr ⟨p,hp,e⟩)
theorem sPut_nodup {L : List (List Int × Int)} {key : List Int} {w : Int} (nd : (L.map (·.1)).Nodup) : ((sPut L key w).map (·.1)).Nodup := by
  unfold sPut
  split
  · rw [List.map_map];have : L.map ((·.1) ∘ fun p => if p.1 = key then (p.1,w) else p) = L.map (·.1) := List.map_congr_left fun p u_ => by
      show (if p.1 = key then (p.1,w) else p).1 = p.1
      split <;> rfl
    rw [this]; exact nd
  · rename_i h
    rw [List.map_append];refine List.nodup_append.mpr ⟨nd,by simp,fun a ha b hb e => h ?_⟩;have hb : b = key := by simpa using hb
    subst e hb;apply gG;intro nG
    obtain ⟨p,hp,hp2⟩ := List.mem_map.mp ha;apply nG;clear nG;unfold sGet;rw [Option.isSome_map,List.find?_isSome];exact ⟨p,hp,by simpa using hp2⟩
theorem sAfter_nodup {L : List (List Int × Int)} {what : Int} {key : List Int} {w : Int} (nd : (L.map (·.1)).Nodup) : ((sAfter L what key w).map (·.1)).Nodup := by
  have h : ((sAfter0 L what key).map (·.1)).Nodup := nd.sublist (List.filter_sublist.map _);unfold sAfter
  split
  · exact sPut_nodup h
  · exact h
theorem nd_inj {L : List (List Int × Int)} (nd : (L.map (·.1)).Nodup) {i j : Nat} (hi : i < L.length) (hj : j < L.length) (e : L[i].1 = L[j].1) : i = j := by
  have nd' : L.Pairwise fun p q => p.1 ≠ q.1 := List.pairwise_map.mp nd
  rcases Nat.lt_trichotomy i j with h | h | h
  · exact absurd e (List.pairwise_iff_getElem.mp nd' i j hi hj h)
  · exact h
  · exact absurd e.symm (List.pairwise_iff_getElem.mp nd' j i hj hi h)
theorem sTake {L : List (List Int × Int)} {P : List Int × Int → Bool} {i : Nat} (hi : i < L.length) : (L.take (i + 1)).filter P = if P L[i] then (L.take i).filter P ++ [L[i]] else (L.take i).filter P := by
  rw [List.take_add_one,List.getElem?_eq_getElem hi,List.filter_append];cases h : P L[i] <;> simp [h]
theorem sPut_new {L : List (List Int × Int)} {P : List Int × Int → Bool} {i : Nat} (nd : (L.map (·.1)).Nodup) (hi : i < L.length) : sPut ((L.take i).filter P) L[i].1 L[i].2 = (L.take i).filter P ++ [L[i]] := by
  unfold sPut;rw [sGet_none,if_neg (by decide)];intro h;apply gG;intro nG
  obtain ⟨p,hp,e⟩ := List.mem_map.mp h;have hp' := (List.mem_filter.mp hp).1;obtain ⟨j,hj,rfl⟩ := List.mem_iff_getElem.mp hp';apply nG;clear nG;rw [List.length_take] at hj;rw [List.getElem_take] at e;have := nd_inj nd (by exact q175 hj) hi e;exact q176 hj this
theorem sGet_at {L : List (List Int × Int)} {i : Nat} (nd : (L.map (·.1)).Nodup) (hi : i < L.length) : sGet L L[i].1 = some L[i].2 := by
  unfold sGet;have h : L.find? (fun p => decide (p.1 = L[i].1)) = some L[i] := by
    cases e : L.find? (fun p => decide (p.1 = L[i].1)) with
    | none =>
      have := List.find?_eq_none.mp e L[i] (List.getElem_mem hi);simp at this
    | some q =>
      have hq := List.find?_some e;have hm := List.mem_of_find?_eq_some e;apply gG;intro nG
      obtain ⟨j,hj,rfl⟩ := List.mem_iff_getElem.mp hm;apply nG;clear nG;have := nd_inj nd hj hi (by simpa using hq);subst this; rfl
  rw [h]; rfl
theorem xl_lst {W : Wd} {Φ : Fx} {ns : List Str} {gs : List (Str × Value)} {μ : Mu} {ℓ : Loc} {l : List V} {t : List Value → Sem Value} {Q : V → Mu → Loc → Prop} (h : XL W RV Φ ns gs μ ℓ l t fun v μ ℓ => ∃ a l ν,v = .val (.ref a) ∧ μ = (a,Ce.list l) :: ν ∧ Q (.lst l) ν ℓ) : XL W RV Φ ns gs μ ℓ l t Q :=
  fun s F a G O I hx => by
    refine wN.mono (h s F a G O I hx) (fun x s' z => ?_) fun u_ u_ z => z
    apply gG;intro nG
    obtain ⟨F',v,μ₁,ℓ',J,e,hv,a,l,ν,rfl,rfl,q⟩ := z;obtain ⟨_,rfl⟩ := hv.inv;obtain ⟨o,ho,hc⟩ := J.cell (.head _);obtain ⟨vs,n,rfl,hl⟩ := hc;obtain ⟨J',e'⟩ := J.freeze;apply nG;clear nG;exact ⟨_,_,_,_,J',e.trans e',.lst (vs := vs.toList) (.inr rfl) ho rfl rfl (hl.ext e'),q⟩
section
variable {W : Wd} (hK : Kn W.K)
include hK
theorem served_rest {Φ : Fx} {k : Nat} {d : Addr} {L : List (List Int × Int)} {what worth : Int} {key : List Int} {held : Bool} {before : Int} {ca : Str → Addr} (hp : Φ.env.kindOf "plain" = some .cell ∧ Φ.env.cells.lookup ("plain" : Str) = some (ca "plain")) (hw : Φ.env.kindOf "what" = some .cell ∧ Φ.env.cells.lookup ("what" : Str) = some (ca "what")) (hk : Φ.env.kindOf "key" = some .cell ∧ Φ.env.cells.lookup ("key" : Str) = some (ca "key"))
    (hd : (d == sysModules) = false) (hL : L.length ≤ 4) (nd : (L.map (·.1)).Nodup) {Q : Fl → Mu → Loc → Prop}
    (hQ : ∀ d' sl μ' ν ℓ,sl = ((sKeys L what).map fun k => V.tup (k.map V.int)) → (d' == sysModules) = false → Take (d',.dict (dV (sAfter L what key worth))) μ' ν → Q (.ret (.tup [.tup [.bool held,.int before,.lst sl],.val (.ref d')])) μ' ℓ) :
    vg W Φ ["worth","held","before","after"] [("sorted",.builtin "sorted")] (k + 40) (.s ((fB (stAt 53)).drop 2) Q) [(ca "plain",Ce.cell (some (.val (.ref d)))),(ca "what",Ce.cell (some (.int what))),(ca "key",Ce.cell (some (.tup (key.map V.int)))),(d,Ce.dict (dV L))] [some (.int worth),some (.bool held),some (.int before),none] := by
  refine x_pin (by repeat' constructor) (fun o => ?_);refine x_compUF (gs' := []) (ca := ca) compOk_dict (free_of (P := fun x => Φ.env.kindOf x = some .cell ∧ Φ.env.cells.lookup x = some (ca x)) ["plain","what","key"] fun x hx => by
    rcases List.mem_cons.mp hx with rfl | hx
    · exact hp
    · rcases List.mem_cons.mp hx with rfl | hx
      · exact hw
      · rw [List.mem_singleton.mp hx]; exact hk) acc_dict ?_ rfl (fun env h1 h2 => swap_yes h1 h2 rfl rfl)
  refine nc hp (by repeat' constructor) ?_;refine ⟨[(d,.dictX o (dV L))],_,fun acc i μ => μ = (acc,Ce.dict (dV ((L.take i).filter (sKept what key)))) :: (d,.dictX o (dV L)) :: [(ca "plain",Ce.cell (some (.val (.ref d)))),(ca "what",Ce.cell (some (.int what))),(ca "key",Ce.cell (some (.tup (key.map V.int))))] ∧ (acc == sysModules) = false,itC_dict hd (by repeat' constructor),fun acc ha => ⟨rfl,ha⟩,?_,?_,?_⟩
  · rintro acc i _ ⟨rfl,_⟩ p hp;rw [List.mem_singleton.mp hp]
    repeat' constructor
  · rintro acc i v I ob _ Φ' hv ⟨rfl,ha⟩ hn' hcf;have hp' := hcf (Str.ofString "plain",.free) (by simp) rfl;have hw' := hcf (Str.ofString "what",.free) (by simp) rfl;have hk' := hcf (Str.ofString "key",.free) (by simp) rfl;have hi : i < L.length := by have := (List.getElem?_eq_some_iff.mp hv).1; rwa [List.length_map,dV_len] at this
    have hv' : v = V.tup (L[i].1.map V.int) := by
      unfold dV at hv;rw [List.map_map,List.getElem?_map,List.getElem?_eq_getElem hi] at hv;exact (Option.some.inj hv).symm
    subst hv';refine td_one (vt ?_);refine nl 0 ?_;refine nc hk' (by repeat' constructor) ?_;refine c_ne_tup ?_;refine if_s (fun h1 => ?_) (fun h1 => ?_)
    · have hkp : sKept what key L[i] = true := by unfold sKept; rw [h1]; rfl
      refine if_t rfl ?_;refine ve ?_;refine nl 0 ?_;refine ve ?_;refine nc hp' (by repeat' constructor) ?_;refine nl 0 ?_;refine ⟨.dictX (by repeat' constructor),?_⟩;refine s_dictX (v := .int L[i].2) (by repeat' constructor) (by rw [dGet_dV,sGet_at nd hi]; rfl) ?_;refine ⟨L[i].1,dV ((L.take i).filter (sKept what key)),_,rfl,by rw [dV_len]; have := List.length_filter_le (sKept what key) (L.take i); rw [List.length_take] at this; exact q177 hL this,by repeat' constructor,?_⟩;rw [dPut_dV,sPut_new nd hi];refine ⟨(acc,Ce.dict (dV ((L.take (i + 1)).filter (sKept what key)))) :: (d,.dictX o (dV L)) :: [(ca "plain",Ce.cell (some (.val (.ref d)))),(ca "what",Ce.cell (some (.int what))),(ca "key",Ce.cell (some (.tup (key.map V.int))))],?_,⟨rfl,ha⟩,_,rfl⟩;rw [sTake hi,if_pos hkp]
    · refine nc hw' (by repeat' constructor) ?_;refine if_s (fun h2 => ?_) (fun h2 => ?_)
      · have hkp : sKept what key L[i] = true := by unfold sKept; rw [h1]; exact h2
        refine if_t rfl ?_;refine ve ?_;refine nl 0 ?_;refine ve ?_;refine nc hp' (by repeat' constructor) ?_;refine nl 0 ?_;refine ⟨.dictX (by repeat' constructor),?_⟩;refine s_dictX (v := .int L[i].2) (by repeat' constructor) (by rw [dGet_dV,sGet_at nd hi]; rfl) ?_;refine ⟨L[i].1,dV ((L.take i).filter (sKept what key)),_,rfl,by rw [dV_len]; have := List.length_filter_le (sKept what key) (L.take i); rw [List.length_take] at this; exact q177 hL this,by repeat' constructor,?_⟩;rw [dPut_dV,sPut_new nd hi];refine ⟨(acc,Ce.dict (dV ((L.take (i + 1)).filter (sKept what key)))) :: (d,.dictX o (dV L)) :: [(ca "plain",Ce.cell (some (.val (.ref d)))),(ca "what",Ce.cell (some (.int what))),(ca "key",Ce.cell (some (.tup (key.map V.int))))],?_,⟨rfl,ha⟩,_,rfl⟩;rw [sTake hi,if_pos hkp]
      · have hkp : ¬ sKept what key L[i] = true := by unfold sKept; rw [h1]; rw [Bool.false_or,h2]; decide
        refine if_f rfl ?_;refine ⟨(acc,Ce.dict (dV ((L.take (i + 1)).filter (sKept what key)))) :: (d,.dictX o (dV L)) :: [(ca "plain",Ce.cell (some (.val (.ref d)))),(ca "what",Ce.cell (some (.int what))),(ca "key",Ce.cell (some (.tup (key.map V.int))))],?_,⟨rfl,ha⟩,_,rfl⟩;rw [sTake hi,if_neg hkp]
  · rintro acc _ ⟨rfl,ha⟩;rw [List.length_map,dV_len,List.take_length];refine ⟨_,lset_of (i := 3) rfl rfl,_,by repeat' constructor,?_⟩;refine nc hw (by repeat' constructor) ?_;refine if_s (fun h0 => ?_) (fun h0 => ?_)
    · refine nl 0 ?_;refine nl 3 ?_;refine nc hk (by repeat' constructor) ?_;refine p_dict (l := dV (L.filter (sKept what key))) (by rw [dV_len]; have := sAfter0_le L what key; exact Nat.le_trans this (by exact Nat.le_trans (by assumption) (by decide))) (by repeat' constructor) ?_;have hA : dPut (dV (L.filter (sKept what key))) key (.int worth) = dV (sAfter L what key worth) := by
        rw [dPut_dV]; unfold sAfter sAfter0; rw [if_pos (by simpa using h0)]
      rw [hA];refine nl 1 ?_;refine nl 2 ?_;refine nc hw (by repeat' constructor) ?_;refine if_s (fun h3 => ?_) (fun h3 => ?_)
      · refine ng_ 0 ?_;refine kb ?_;refine nc hp (by repeat' constructor) ?_;refine xl_lst ?_;refine l_sorted hd (by repeat' constructor) (by rw [dV_len]; exact hL) (fun a => ?_);refine ⟨_,_,_,rfl,rfl,?_⟩;refine ⟨Nat.le_of_ble_eq_true rfl,?_⟩;refine nl 3 ?_;refine ⟨Nat.le_of_ble_eq_true rfl,?_⟩;have hK3 : (srt ((dV L).map (·.1))) = sKeys L what := by unfold sKeys; rw [if_pos (by simpa using h3),dV_keys]
        exact hQ _ _ _ _ _ (by rw [hK3]) ha (by repeat' constructor)
      · refine x_ListF ?_;refine va ?_;refine ⟨Nat.le_of_ble_eq_true rfl,?_⟩;refine ⟨Nat.le_of_ble_eq_true rfl,?_⟩;refine nl 3 ?_;refine ⟨Nat.le_of_ble_eq_true rfl,?_⟩;have hK3 : ([] : List V) = (sKeys L what).map (fun k => .tup (k.map V.int)) := by unfold sKeys; rw [if_neg (by simpa using h3)]; rfl
        exact hQ _ _ _ _ _ hK3 ha (by repeat' constructor)
    · have hA : L.filter (sKept what key) = sAfter L what key worth := by
        unfold sAfter sAfter0; rw [if_neg (by simpa using h0)]
      rw [hA];refine nl 1 ?_;refine nl 2 ?_;refine nc hw (by repeat' constructor) ?_;refine if_s (fun h3 => ?_) (fun h3 => ?_)
      · refine ng_ 0 ?_;refine kb ?_;refine nc hp (by repeat' constructor) ?_;refine xl_lst ?_;refine l_sorted hd (by repeat' constructor) (by rw [dV_len]; exact hL) (fun a => ?_);refine ⟨_,_,_,rfl,rfl,?_⟩;refine ⟨Nat.le_of_ble_eq_true rfl,?_⟩;refine nl 3 ?_;refine ⟨Nat.le_of_ble_eq_true rfl,?_⟩;have hK3 : (srt ((dV L).map (·.1))) = sKeys L what := by unfold sKeys; rw [if_pos (by simpa using h3),dV_keys]
        exact hQ _ _ _ _ _ (by rw [hK3]) ha (by repeat' constructor)
      · refine x_ListF ?_;refine va ?_;refine ⟨Nat.le_of_ble_eq_true rfl,?_⟩;refine ⟨Nat.le_of_ble_eq_true rfl,?_⟩;refine nl 3 ?_;refine ⟨Nat.le_of_ble_eq_true rfl,?_⟩;have hK3 : ([] : List V) = (sKeys L what).map (fun k => .tup (k.map V.int)) := by unfold sKeys; rw [if_neg (by simpa using h3)]; rfl
        exact hQ _ _ _ _ _ hK3 ha (by repeat' constructor)
theorem served_spec {d : Addr} {L : List (List Int × Int)} {what worth : Int} {key : List Int} (hd : (d == sysModules) = false) (hL : L.length ≤ 4) (nd : (L.map (·.1)).Nodup) :
    Spec W 2 (.ref 860) [.val (.ref d),.int what,.tup (key.map V.int),.int worth] [] [(d,.dict (dV L))] (fun v μ' => ∃ d',v = .tup [sAns L what key,.val (.ref d')] ∧ (d' == sysModules) = false ∧ μ' = [(d',.dict (dV (sAfter L what key worth)))]) := by
  refine spec_fnC hK (f_860 hK) ["plain","what","key","worth"] [("worth",some 3),("held",none),("before",none),("after",none)] [("plain",some 0),("what",some 1),("key",some 2)] [("sorted",.builtin "sorted")] (fun u_ u_ u_ u_ u_ u_ u_ u_ => bind_pos (len4 fun u_ u_ u_ u_ => by kernel_rfl)) (fun Φ hn hsc ca hca Q hQ => ?_);have hp := hca _ (.head _);have hw := hca _ (.tail _ (.head _));have hk := hca _ (.tail _ (.tail _ (.head _)));refine nc hk (by repeat' constructor) ?_;refine nc hp (by repeat' constructor) ?_;refine c_in hd (by repeat' constructor) ?_;refine st_ 1 ?_;refine nl 1 ?_;have fin : ∀ d' sl μ' ν,sl = ((sKeys L what).map fun k => V.tup (k.map V.int)) → (d' == sysModules) = false → Take (d',.dict (dV (sAfter L what key worth))) μ' ν → Q (.tup [.tup [.bool (sGet L key).isSome,.int ((sGet L key).getD 0),.lst sl],.val (.ref d')]) μ' := fun d' sl μ' ν e h1 h2 => by
    subst e;exact hQ _ _ _ _ (.cons h2 .nil) ⟨d',rfl,h1,rfl⟩
  rw [dGet_some] at *;refine if_s (fun h1 => ?_) (fun h1 => ?_)
  · obtain ⟨z,hz⟩ := Option.isSome_iff_exists.mp h1;refine nc hp (by repeat' constructor) ?_;refine nc hk (by repeat' constructor) ?_;refine ⟨.dict (by repeat' constructor),?_⟩;refine s_dict (v := .int z) (by repeat' constructor) (by rw [dGet_dV,hz]; rfl) ?_;refine st_ 2 ?_;rw [hz] at fin;rw [hz];exact served_rest hK hp hw hk hd hL nd fun d' sl μ' ν ℓ e h1 h2 => fin d' sl μ' ν e h1 h2
  · have hz : sGet L key = none := Option.not_isSome_iff_eq_none.mp (by rw [h1]; decide);refine st_ 2 ?_;rw [hz] at fin;rw [hz];exact served_rest hK hp hw hk hd hL nd fun d' sl μ' ν ℓ e h1 h2 => fin d' sl μ' ν e h1 h2
end
end
section
open PySem PySem.W PyProof.Rows PySem.Calls
theorem isD_at {h : Heap} {F : Addr → Prop} {L : List (List Int × Int)} {xs : List (List Int × Addr × Value)} (H : IsD h F (dV L) xs) {i : Nat} (hi : i < L.length) : ∃ a t,xs[i]? = some (L[i].1,a,.int L[i].2 t) := by
  induction L generalizing xs i with
  | nil => cases hi
  | cons p L ih =>
    cases H with
    | cons hk hv hl =>
      cases i with
      | zero => obtain ⟨_,rfl⟩ := hv.inv; exact ⟨_,_,rfl⟩
      | succ i => exact ih hl (Nat.lt_of_succ_lt_succ hi)
section
variable {prog : Program} {w : World} {A : Around} {E : Value → Shared → Prop} {s : Shared}
theorem same_pairs {knd : HeapKind prog w (List Int)} {nm : String} {a b : Addr} {xs ys : List (List Int × Addr × Value)} {L : List (List Int × Int)} {Q : Bool → Shared → Prop} (ha : (a == sysModules) = false) (hb : (b == sysModules) = false) (hu : knd.room A)
    (da : s.heap.DictOfH knd a xs) (db : s.heap.DictOfH knd b ys) (hx : xs.length = L.length) (hy : ys.length = L.length) (ax : ∀ {i : Nat} (hi : i < L.length),∃ a t,xs[i]? = some (L[i].1,a,.int L[i].2 t)) (ay : ∀ {i : Nat} (hi : i < L.length),∃ a t,ys[i]? = some (L[i].1,a,.int L[i].2 t)) (h : Q true s) :
    wpAny (model prog w) A (Builtin.Dict.samePairs nm a b) Q E s := by
  apply gG;intro nG
  obtain ⟨oa,es,ep,hoa,_,hda,hea,hka,hna⟩ := da;obtain ⟨ob,es',ep',hob,_,hdb,heb,hkb,hnb⟩ := db;apply nG;clear nG;have hla : es.size = L.length := by rw [size_of_entries hea,hx]
  have hlb : es'.size = L.length := by rw [size_of_entries heb,hy]
  unfold Builtin.Dict.samePairs Builtin.Dict.showsAll;rw [if_neg (show ¬ (a == sysModules) = true by rw [ha]; exact Bool.false_ne_true),if_neg (show ¬ (b == sysModules) = true by rw [hb]; exact Bool.false_ne_true)];refine wpAny_bind (wpAny_pure (wpAny_bind (wpAny_pure ?_)));refine wpAny_bind (wpAny_dictEntries hoa hda ?_);dsimp only;refine wpAny_bind (wpAny_dictEntries hob hdb ?_);rw [if_neg (by rw [hla,hlb]; simp)];refine wpAny_bind (wpAny_dictEpoch hoa hda ?_);refine wpAny_bind ?_;rw [Std.Legacy.Range.forIn_eq_forIn_range'];refine wpAny_forIn_list _
    (fun rest q s' => s' = s ∧ q = (none,()) ∧ ∃ i,rest = List.range' i (es.size - i) ∧ i ≤ es.size)
    _ ?_ ?_ _ _ ⟨rfl,rfl,0,by simp only [Std.Legacy.Range.size,Nat.sub_zero,Nat.add_sub_cancel,Nat.div_one],Nat.zero_le _⟩
  · rintro x rest q s' xC4_; apply gG;intro nG;obtain ⟨rfl,rfl,i,hr,hi⟩ := xC4_
    apply nG;clear nG;have hlt : i < es.size := by
      rcases Nat.lt_or_ge i es.size with h | h
      · exact h
      · rw [Nat.sub_eq_zero_of_le h] at hr; simp at hr
    obtain ⟨rfl,hrest⟩ : x = i ∧ rest = List.range' (i + 1) (es.size - (i + 1)) := by
      have e : es.size - i = (es.size - (i + 1)) + 1 := by (exact q392 hlt)
      rw [e,List.range'_succ] at hr;injection hr with h1 h2
      exact ⟨h1,h2⟩
    have hxL : x < L.length := by rw [← hla]; exact hlt
    apply gG;intro nG
    obtain ⟨a1,t1,e1⟩ := ax hxL;obtain ⟨a2,t2,e2⟩ := ay hxL;apply nG;clear nG;have g1 : es[x]? = some ⟨knd.hash L[x].1,.ref a1,.int L[x].2 t1⟩ := by rw [entry_at hea,e1]; rfl
    have g2 : es'[x]? = some ⟨knd.hash L[x].1,.ref a2,.int L[x].2 t2⟩ := by rw [entry_at heb,e2]; rfl
    refine wpAny_bind (wpAny_dictEntries hoa hda ?_);rw [g1];dsimp only;refine wpAny_bind (wpAny_holding (wpAny_bind (wpAny_dictFind_heap hu (hka _ (List.mem_of_getElem? e1)) hob hdb heb hkb hnb (fun H => absurd e2 (H x _)) fun j p hj => ?_)));have := idxH_unique hnb hj e2;subst this;refine wpAny_bind (wpAny_dictEntries hob hdb ?_);rw [g2];dsimp only;refine wpAny_holding (SeqAt.EqAt.int_int _ _ _ _ prog w _ _ ?_);rw [beq_self_eq_true];show wpAny _ _ (if (!true) = true then _ else _) _ _ _;rw [if_neg (by decide)];refine wpAny_bind (wpAny_dictEpoch hoa hda ?_);rw [if_neg (by simp)];exact wpAny_pure ⟨rfl,rfl,j + 1,hrest,hlt⟩
  · rintro q s' xC2_; apply gG;intro nG;obtain ⟨rfl,rfl,i,hr,hi⟩ := xC2_
    apply nG;clear nG;exact wpAny_pure h
theorem dicts_ne {knd : HeapKind prog w (List Int)} {a b : Addr} {xs ys : List (List Int × Addr × Value)} {L : List (List Int × Int)} {Q : Value → Shared → Prop} (ha : (a == sysModules) = false) (hb : (b == sysModules) = false) (hu : knd.room A.in1) (hA : A.units < cLine)
    (da : s.heap.DictOfH knd a xs) (db : s.heap.DictOfH knd b ys) (hx : xs.length = L.length) (hy : ys.length = L.length) (ax : ∀ {i : Nat} (hi : i < L.length),∃ a t,xs[i]? = some (L[i].1,a,.int L[i].2 t)) (ay : ∀ {i : Nat} (hi : i < L.length),∃ a t,ys[i]? = some (L[i].1,a,.int L[i].2 t)) (h : Q (.bool false) s) :
    wpAny (model prog w) A (compareOp .NotEq (.ref a) (.ref b)) Q E s := by
  refine wpAny_richCompare_same_room (op := .NotEq) da.typeIs db.typeIs PySem.F.slot_dict_ne (wpAny_call_entry PySem.F.slot_dict_ne da.typeIs PySem.F.entry_dict_ne ?_ (PySem.F.args_dict_ne_2 _ _)) hA;show wpAny _ _ (Builtin.Dict.dictSlotArgs "__ne__" ⟨[.ref a,.ref b],[]⟩ >>= _) _ _ s;refine wpAny_bind ?_;unfold Builtin.Dict.dictSlotArgs;refine wpAny_bind (wpAny_notOrdered_dict da.typeIs ?_);show wpAny _ _ (pure (Value.ref a,Value.ref b)) _ _ s;refine wpAny_pure ?_;refine wpAny_bind (wpAny_isInstance (T := "dict") db.typeIs PySem.F.sub_dict_dict ?_);simp only [Bool.not_true,Bool.false_eq_true,if_false];refine wpAny_bind (wpAny_pure (wpAny_bind (wpAny_pure ?_)));refine wpAny_bind (same_pairs ha hb hu da db hx hy ax ay ?_);refine wpAny_pure ⟨_,rfl,?_,?_⟩
  · exact fun x => nomatch x
  · simpa using h
end
section
variable {W : Wd} {Φ : Fx} {ns : List Str} {gs : List (Str × Value)} {μ μ' : Mu} {ℓ : Loc}
theorem c_ne_dict {d e : Addr} {L : List (List Int × Int)} {Q : V → Mu → Loc → Prop} (hd : (d == sysModules) = false) (he : (e == sysModules) = false) (hm : (d,Ce.dict (dV L)) ∈ μ) (hn : (e,Ce.dict (dV L)) ∈ μ) (q : Q (.bool false) μ ℓ) : X2 W RV Φ ns gs μ ℓ (.val (.ref d)) (.val (.ref e)) (compareOp .NotEq) Q := by
  intro s F x y G O I hx hy;obtain ⟨_,rfl⟩ := hx.inv; obtain ⟨_,rfl⟩ := hy.inv;apply gG;intro nG
  obtain ⟨o,ho,hc⟩ := I.cell hm;obtain ⟨o',ho',hc'⟩ := I.cell hn;obtain ⟨xs,ix,hD⟩ := dict_of (W := W) ho hc;obtain ⟨ys,iy,hD'⟩ := dict_of (W := W) ho' hc';apply nG;clear nG;have hA := O.room.units;exact .of (dicts_ne hd he (room_key O) (by unfold cLine; exact q4 hA) hD hD' (by rw [ix.length,dV_len]) (by rw [iy.length,dV_len]) (isD_at ix) (isD_at iy) (res_here I .bool q))
end
end
section
open PySem PySem.W PyProof.Rows PySem.Calls
structure MsgAt (M name : List UInt8) (r : Nat) : Prop where
  len : 12 ≤ M.length
  size : Rd M 0 .i (.int ((M.length - 4 : Nat) : Int))
  root : Rd M 4 .I (.int r)
  name : (M.drop 8).take 4 = name
  near : r ≤ 10000
theorem Rd.pre {M P R : List UInt8} {off : Nat} {f : Fm} {v : V} (h : Rd M off f v) (e : M = P ++ R) (hp : off + f.n ≤ P.length) : Rd P off f v := by
  obtain ⟨_,h2⟩ := h;refine ⟨hp,?_⟩;rw [← h2,e,List.drop_append_of_le_length (by exact q96 hp),List.take_append_of_le_length (by rw [List.length_drop]; exact q97 hp)]
noncomputable def HeldAt (Ms : List (List UInt8)) (S : List UInt8) (j : Nat) (P : List UInt8) : Prop := j ≤ Ms.length ∧ (Ms.take j).flatten ++ P = S
noncomputable def FullAt (Ms : List (List UInt8)) (j : Nat) (P : List UInt8) : Prop := ∃ M,Ms[j]? = some M ∧ M.length ≤ P.length
theorem flat_take_drop (Ms : List (List UInt8)) (j : Nat) : (Ms.take j).flatten ++ (Ms.drop j).flatten = Ms.flatten := by rw [← List.flatten_append,List.take_append_drop]
theorem HeldAt.left {Ms : List (List UInt8)} {S T P : List UInt8} {j : Nat} (h : HeldAt Ms S j P) (e : S ++ T = Ms.flatten) : (Ms.drop j).flatten = P ++ T := by
  have := flat_take_drop Ms j;rw [← e,← h.2,List.append_assoc] at this;exact List.append_cancel_left this
theorem HeldAt.start {Ms : List (List UInt8)} : HeldAt Ms [] 0 [] := ⟨Nat.zero_le _,rfl⟩
theorem HeldAt.more {Ms : List (List UInt8)} {S P p : List UInt8} {j : Nat} (h : HeldAt Ms S j P) : HeldAt Ms (S ++ p) j (P ++ p) := ⟨h.1,by rw [← List.append_assoc,h.2]⟩
theorem HeldAt.full {Ms : List (List UInt8)} {S T P : List UInt8} {j : Nat} (h : HeldAt Ms S j P) (e : S ++ T = Ms.flatten) (hf : FullAt Ms j P) : ∃ M rest,Ms[j]? = some M ∧ P = M ++ rest ∧ HeldAt Ms S (j + 1) rest := by
  apply gG;intro nG
  obtain ⟨M,hM,hl⟩ := hf;apply nG;clear nG;have hj : j < Ms.length := (List.getElem?_eq_some_iff.mp hM).1;have hd := h.left e;rw [List.drop_eq_getElem_cons hj,List.flatten_cons] at hd;have hm : Ms[j] = M := (List.getElem?_eq_some_iff.mp hM).2;rw [hm] at hd;have hp : P = M ++ P.drop M.length := by
    have h1 : (M ++ (Ms.drop (j + 1)).flatten).take M.length = M := List.take_left;rw [hd,List.take_append_of_le_length hl] at h1
    conv => lhs; rw [← List.take_append_drop M.length P,h1]
  refine ⟨M,P.drop M.length,hM,hp,hj,?_⟩;rw [List.take_add_one,hM];show ((Ms.take j) ++ [M]).flatten ++ _ = S;rw [List.flatten_append,List.flatten_cons,List.flatten_nil,List.append_nil,List.append_assoc,← hp];exact h.2
theorem HeldAt.short {Ms : List (List UInt8)} {name S T P : List UInt8} {j : Nat} (hM : ∀ M ∈ Ms,∃ r,MsgAt M name r) (h : HeldAt Ms S j P) (e : S ++ T = Ms.flatten) (hf : ¬ FullAt Ms j P) : P.length < 4 ∨ ∃ z : Int,Rd P 0 .i (.int z) ∧ (P.length : Int) < 4 + z := by
  have hd := h.left e
  by_cases hj : j < Ms.length
  · rw [List.drop_eq_getElem_cons hj,List.flatten_cons] at hd;have hlt : P.length < Ms[j].length := by
      rcases Nat.lt_or_ge P.length Ms[j].length with h1 | h1
      · exact h1
      · exact absurd ⟨_,List.getElem?_eq_getElem hj,h1⟩ hf
    by_cases h4 : P.length < 4
    · exact .inl h4
    · obtain ⟨r,hr⟩ := hM _ (List.getElem_mem hj);have he : Ms[j] = P ++ Ms[j].drop P.length := by
        have h1 : (P ++ T).take P.length = P := List.take_left;rw [← hd,List.take_append_of_le_length (Nat.le_of_lt hlt)] at h1
        conv => lhs; rw [← List.take_append_drop P.length Ms[j],h1]
      have hr1 := hr.len;exact .inr ⟨_,hr.size.pre he (by show 0 + 4 ≤ _; exact q393 h4),by exact q394 hlt⟩
  · rw [List.drop_of_length_le (by exact q136 hj),List.flatten_nil] at hd;have : P.length + T.length = 0 := by rw [← List.length_append,← hd]; rfl
    exact .inl (by exact q395 this)
theorem HeldAt.last {Ms : List (List UInt8)} {S P : List UInt8} {j : Nat} (h : HeldAt Ms S j P) (e : S = Ms.flatten) (hf : ¬ FullAt Ms j P) : j = Ms.length ∧ P = [] := by
  have hd := h.left (T := []) (by rw [List.append_nil]; exact e);rw [List.append_nil] at hd
  by_cases hj : j < Ms.length
  · rw [List.drop_eq_getElem_cons hj,List.flatten_cons] at hd;exact absurd ⟨_,List.getElem?_eq_getElem hj,by rw [← hd,List.length_append]; (exact Nat.le_add_right _ _)⟩ hf
  · have hj' : j = Ms.length := Nat.le_antisymm h.1 (Nat.le_of_not_lt hj);rw [hj',List.drop_length,List.flatten_nil] at hd;exact ⟨hj',hd.symm⟩
noncomputable def endsOf (Ms : List (List UInt8)) : List Nat := (List.range Ms.length).map fun i => ((Ms.take (i + 1)).flatten).length
theorem endsOf_len (Ms : List (List UInt8)) : (endsOf Ms).length = Ms.length := by unfold endsOf; rw [List.length_map,List.length_range]
theorem endsOf_at {Ms : List (List UInt8)} {i : Nat} (h : i < Ms.length) : (endsOf Ms)[i]? = some ((Ms.take (i + 1)).flatten).length := by
  unfold endsOf; rw [List.getElem?_map,List.getElem?_range h]; rfl
theorem endsOf_snoc (Ms : List (List UInt8)) (M : List UInt8) : endsOf (Ms ++ [M]) = endsOf Ms ++ [(Ms.flatten ++ M).length] := by
  apply List.ext_getElem?;intro i;have hl : (Ms ++ [M]).length = Ms.length + 1 := by simp
  rcases Nat.lt_trichotomy i Ms.length with h | h | h
  · rw [endsOf_at (by exact q396 hl h),List.getElem?_append_left (by rw [endsOf_len]; exact h),endsOf_at h,List.take_append_of_le_length (by assumption)]
  · subst h;rw [endsOf_at (by exact q397 hl),List.getElem?_append_right (by rw [endsOf_len]; exact Nat.le_refl _),endsOf_len,Nat.sub_self,← hl,List.take_length,List.flatten_append]
    simp
  · rw [List.getElem?_eq_none (by rw [endsOf_len]; exact q398 hl h),List.getElem?_eq_none (by rw [List.length_append,endsOf_len]; simp; assumption)]
theorem flat_mono {Ms : List (List UInt8)} {i j : Nat} (h : i ≤ j) : ((Ms.take i).flatten).length ≤ ((Ms.take j).flatten).length := by
  have e : Ms.take j = Ms.take i ++ (Ms.take j).drop i := by
    conv => lhs; rw [← List.take_append_drop i (Ms.take j),List.take_take,Nat.min_eq_left h]
  rw [e,List.flatten_append,List.length_append]; (exact Nat.le_add_right _ _)
theorem HeldAt.count {Ms : List (List UInt8)} {S P : List UInt8} {j : Nat} (h : HeldAt Ms S j P) (hf : ¬ FullAt Ms j P) : ((endsOf Ms).filter fun e => decide (e ≤ S.length)).length = j := by
  have hS : S.length = ((Ms.take j).flatten).length + P.length := by rw [← h.2,List.length_append]
  rw [← List.take_append_drop j (endsOf Ms),List.filter_append,List.length_append];have h1 : ((endsOf Ms).take j).filter (fun e => decide (e ≤ S.length)) = (endsOf Ms).take j := by
    rw [List.filter_eq_self];intro e he;apply gG;intro nG
    obtain ⟨i,hi,rfl⟩ := List.mem_iff_getElem.mp he;apply nG;clear nG;rw [List.length_take,endsOf_len] at hi;have hv : ((endsOf Ms).take j)[i]'(by rw [List.length_take,endsOf_len]; exact hi) = ((Ms.take (i + 1)).flatten).length := by
      rw [List.getElem_take];have := endsOf_at (Ms := Ms) (i := i) (by exact q175 hi);exact (List.getElem?_eq_some_iff.mp this).2
    rw [hv];have := flat_mono (Ms := Ms) (i := i + 1) (j := j) (by exact q399 hi);exact decide_eq_true (by exact q400 hS this)
  have h2 : ((endsOf Ms).drop j).filter (fun e => decide (e ≤ S.length)) = [] := by
    rw [List.filter_eq_nil_iff];intro e he;apply gG;intro nG
    obtain ⟨i,hi,rfl⟩ := List.mem_iff_getElem.mp he;apply nG;clear nG;rw [List.length_drop,endsOf_len] at hi;have hv : ((endsOf Ms).drop j)[i]'(by rw [List.length_drop,endsOf_len]; exact hi) = ((Ms.take (j + i + 1)).flatten).length := by
      rw [List.getElem_drop];exact (List.getElem?_eq_some_iff.mp (endsOf_at (Ms := Ms) (i := j + i) (by exact q401 hi))).2
    rw [hv];have hj : j < Ms.length := by exact q402 hi
    have h3 : ((Ms.take (j + 1)).flatten).length = ((Ms.take j).flatten).length + Ms[j].length := by
      rw [List.take_add_one,List.getElem?_eq_getElem hj];show ((Ms.take j ++ [Ms[j]]).flatten).length = _;rw [List.flatten_append,List.length_append]
      simp
    have h4 := flat_mono (Ms := Ms) (i := j + 1) (j := j + i + 1) (by exact q403);have h5 : P.length < Ms[j].length := by
      rcases Nat.lt_or_ge P.length Ms[j].length with h1 | h1
      · exact h1
      · exact absurd ⟨_,List.getElem?_eq_getElem hj,h1⟩ hf
    simp only [decide_eq_true_eq]; exact q404 hS h3 h4 h5
  rw [h1,h2,List.length_take,endsOf_len,Nat.min_eq_left h.1]
  rfl
theorem pieces_next {ps : List (List UInt8)} {i : Nat} {p : List UInt8} (h : ps[i]? = some p) : (ps.take (i + 1)).flatten = (ps.take i).flatten ++ p := by
  rw [List.take_add_one,h];show ((ps.take i) ++ [p]).flatten = _;rw [List.flatten_append]; simp
structure Qn where
  what : Nat
  x : List UInt8
  w : Int
noncomputable def Qn.ok (q : Qn) : Prop := q.what < 4 ∧ q.x.length ≤ 16 ∧ -(2 ^ 31) ≤ q.w ∧ q.w < 2 ^ 31
noncomputable def inz (x : List UInt8) : List Int := x.map fun c => ((c.toNat : Nat) : Int)
theorem bV_ints (x : List UInt8) : bV x = (inz x).map V.int := by unfold bV inz; rw [List.map_map]; rfl
noncomputable def Qn.v (q : Qn) : V := .tup [.int q.what,.tup (bV q.x),.int q.w]
noncomputable def mapOf (qs : List Qn) : List (List Int × Int) := qs.foldl (fun L q => sAfter L q.what (inz q.x) q.w) []
theorem mapOf_snoc (qs : List Qn) (q : Qn) : mapOf (qs ++ [q]) = sAfter (mapOf qs) q.what (inz q.x) q.w := by unfold mapOf; rw [List.foldl_append]; rfl
theorem mapF : ∀ (qs : List Qn) (L : List (List Int × Int)),(L.map (·.1)).Nodup → (qs.foldl (fun L q => sAfter L q.what (inz q.x) q.w) L).length ≤ L.length + qs.length ∧ ((qs.foldl (fun L q => sAfter L q.what (inz q.x) q.w) L).map (·.1)).Nodup
  | [],L,h => ⟨Nat.le_refl _,h⟩
  | q :: qs,L,h => by
    have ih := mapF qs (sAfter L q.what (inz q.x) q.w) (sAfter_nodup h);have := sAfter_len L q.what (inz q.x) q.w;rw [List.foldl_cons,List.length_cons];exact ⟨by lia,ih.2⟩
theorem mapOf_len (qs : List Qn) : (mapOf qs).length ≤ qs.length := by have := (mapF qs [] List.nodup_nil).1; rw [List.length_nil,Nat.zero_add] at this; exact this
theorem mapOf_nodup (qs : List Qn) : ((mapOf qs).map (·.1)).Nodup := (mapF qs [] List.nodup_nil).2
noncomputable def ansV (qs : List Qn) (q : Qn) : V := sAns (mapOf qs) q.what (inz q.x)
noncomputable def duesOf (qs : List Qn) : List V := (List.range qs.length).map fun i => ansV (qs.take i) (qs.getD i ⟨0,[],0⟩)
theorem duesOf_len (qs : List Qn) : (duesOf qs).length = qs.length := by unfold duesOf; rw [List.length_map,List.length_range]
theorem duesOf_at {qs : List Qn} {i : Nat} {q : Qn} (h : qs[i]? = some q) : (duesOf qs)[i]? = some (ansV (qs.take i) q) := by
  unfold duesOf;rw [List.getElem?_map,List.getElem?_range (List.getElem?_eq_some_iff.mp h).1];show some (ansV (qs.take i) (qs.getD i _)) = _;rw [List.getD_eq_getElem?_getD,h]; rfl
theorem duesOf_snoc (qs : List Qn) (q : Qn) : duesOf (qs ++ [q]) = duesOf qs ++ [ansV qs q] := by
  apply List.ext_getElem?;intro i;have hl : (qs ++ [q]).length = qs.length + 1 := by simp
  rcases Nat.lt_trichotomy i qs.length with h | h | h
  · rw [List.getElem?_append_left (by rw [duesOf_len]; exact h),duesOf_at (q := qs[i]) (by rw [List.getElem?_append_left h,List.getElem?_eq_getElem h]),duesOf_at (List.getElem?_eq_getElem h),List.take_append_of_le_length (by exact Nat.le_of_lt (by assumption))]
  · subst h;rw [List.getElem?_append_right (by rw [duesOf_len]; exact Nat.le_refl _),duesOf_len,Nat.sub_self,duesOf_at (q := q) (by simp),List.take_left']
    · rfl
    · rfl
  · rw [List.getElem?_eq_none (by rw [duesOf_len]; exact q398 hl h),List.getElem?_eq_none (by rw [List.length_append,duesOf_len]; simp; assumption)]
end
section
open PySem PySem.W PyProof.Rows PySem.Calls
theorem sAfter_mem {L : List (List Int × Int)} {what w : Int} {key : List Int} {p : List Int × Int} (h : p ∈ sAfter L what key w) : p ∈ L ∨ (p.1 = key ∧ p.2 = w) := by
  unfold sAfter at h;have h0 : ∀ {p},p ∈ sAfter0 L what key → p ∈ L := fun h => (List.mem_filter.mp h).1
  split at h
  · unfold sPut at h
    split at h
    · apply gG;intro nG
      obtain ⟨q,hq,rfl⟩ := List.mem_map.mp h;apply nG;clear nG
      by_cases e : q.1 = key
      · rw [if_pos e]; exact .inr ⟨e,rfl⟩
      · rw [if_neg e]; exact .inl (h0 hq)
    · rcases List.mem_append.mp h with h | h
      · exact .inl (h0 h)
      · rw [List.mem_singleton.mp h]; exact .inr ⟨rfl,rfl⟩
  · exact .inl (h0 h)
noncomputable def RowOk (p : List Int × Int) : Prop := (∃ x : List UInt8,p.1 = inz x ∧ x.length ≤ 16) ∧ -(2 ^ 31) ≤ p.2 ∧ p.2 < 2 ^ 31
theorem mapF_ok : ∀ (qs : List Qn) (L : List (List Int × Int)),(∀ q ∈ qs,q.ok) → (∀ p ∈ L,RowOk p) → ∀ p ∈ qs.foldl (fun L q => sAfter L q.what (inz q.x) q.w) L,RowOk p
  | [],L,_,h => h
  | q :: qs,L,hq,h => mapF_ok qs _ (fun q hq' => hq q (.tail _ hq')) fun p hp => by
    rcases sAfter_mem hp with hp | ⟨e1,e2⟩
    · exact h p hp
    · have := hq q (.head _);exact ⟨⟨q.x,e1,this.2.1⟩,by rw [e2]; exact this.2.2⟩
theorem mapOf_ok {qs : List Qn} (h : ∀ q ∈ qs,q.ok) : ∀ p ∈ mapOf qs,RowOk p := mapF_ok qs [] h fun u_ hp => nomatch hp
theorem srt_len {ks : List (List Int)} (h : ks.length ≤ 4) : (srt ks).length = ks.length := by
  have := kAll_run (lt := fun i j => lexLt (ks.getD i []) (ks.getD j [])) (sort_in ks.length h);rw [Bool.and_eq_true,beq_iff_eq] at this;unfold srt;rw [List.length_map,Array.length_toList];exact this.1
theorem srt_mem {ks : List (List Int)} (h : ks.length ≤ 4) {k : List Int} (hk : k ∈ srt ks) : k ∈ ks := by
  have := kAll_run (lt := fun i j => lexLt (ks.getD i []) (ks.getD j [])) (sort_in ks.length h);rw [Bool.and_eq_true] at this;unfold srt at hk;apply gG;intro nG
  obtain ⟨i,hi,rfl⟩ := List.mem_map.mp hk;apply nG;clear nG;have hlt := of_decide_eq_true (List.all_eq_true.mp this.2 i hi);rw [List.getD_eq_getElem?_getD,List.getElem?_eq_getElem hlt];exact List.getElem_mem hlt
theorem inz_list : ∀ (l : List (List Int)),(∀ k ∈ l,∃ x : List UInt8,k = inz x ∧ x.length ≤ 16) → ∃ ks : List (List UInt8),l = ks.map inz ∧ ks.length = l.length ∧ ∀ x ∈ ks,x.length ≤ 16
  | [],_ => ⟨[],rfl,rfl,fun u_ h => nomatch h⟩
  | k :: l,h => by
    apply gG;intro nG
    obtain ⟨x,rfl,hx⟩ := h k (.head _);obtain ⟨ks,rfl,e,hk⟩ := inz_list l fun k hk => h k (.tail _ hk)
    apply nG;clear nG;exact ⟨x :: ks,rfl,by rw [List.length_cons,List.length_cons,e],fun y hy => by
      rcases List.mem_cons.mp hy with rfl | hy
      · exact hx
      · exact hk y hy⟩
structure AnsIs (v : V) (held : Bool) (before : Int) (ks : List (List UInt8)) : Prop where
  eq : v = .tup [.bool held,.int before,.lst (ks.map fun x => .tup (bV x))]
  few : ks.length ≤ 4
  short : ∀ x ∈ ks,x.length ≤ 16
  low : -(2 ^ 31) ≤ before
  high : before < 2 ^ 31
theorem sGet_mem {L : List (List Int × Int)} {key : List Int} {z : Int} (h : sGet L key = some z) : (key,z) ∈ L := by
  unfold sGet at h;apply gG;intro nG
  obtain ⟨p,hp,rfl⟩ := Option.map_eq_some_iff.mp h;apply nG;clear nG;have h1 := List.find?_some hp;have h2 := List.mem_of_find?_eq_some hp;have : p.1 = key := of_decide_eq_true h1;rw [← this]; exact h2
theorem ans_is {qs : List Qn} {q : Qn} (h : ∀ q ∈ qs,q.ok) (hn : qs.length ≤ 4) : ∃ held before ks,AnsIs (ansV qs q) held before ks := by
  have hok := mapOf_ok h;have hl := mapOf_len qs;obtain ⟨ks,hks,hkl,hsh⟩ : ∃ ks : List (List UInt8),sKeys (mapOf qs) q.what = ks.map inz ∧ ks.length = (sKeys (mapOf qs) q.what).length ∧ ∀ x ∈ ks,x.length ≤ 16 := by
    refine inz_list _ fun k hk => ?_
    unfold sKeys at hk
    split at hk
    · have := srt_mem (by rw [List.length_map]; (exact Nat.le_trans (by assumption) (by assumption))) hk;apply gG;intro nG
      obtain ⟨p,hp,rfl⟩ := List.mem_map.mp this;apply nG;clear nG;exact (hok p hp).1
    · cases hk
  refine ⟨(sGet (mapOf qs) (inz q.x)).isSome,(sGet (mapOf qs) (inz q.x)).getD 0,ks,?_,?_,hsh,?_,?_⟩
  · unfold ansV sAns;rw [hks,List.map_map];refine congrArg (fun l => V.tup [_,_,V.lst l]) (List.map_congr_left fun x u_ => ?_);rw [bV_ints]; rfl
  · rw [hkl];unfold sKeys
    split
    · rw [srt_len (by rw [List.length_map]; (exact Nat.le_trans (by assumption) (by assumption))),List.length_map]; (exact Nat.le_trans (by assumption) (by assumption))
    · exact Nat.zero_le _
  · cases e : sGet (mapOf qs) (inz q.x) with
    | none => decide
    | some z => exact (hok _ (sGet_mem e)).2.1
  · cases e : sGet (mapOf qs) (inz q.x) with
    | none => decide
    | some z => exact (hok _ (sGet_mem e)).2.2
noncomputable def Dat (v : V) (n : Nat) : Prop := ∃ d : PyData,v = toV d ∧ d.canLay0 = true ∧ d.depth ≤ n
theorem dat_list : ∀ {l : List V} {n : Nat},(∀ v ∈ l,Dat v n) → ∃ ds,l = toVL ds ∧ PyData.canLayAll0 ds = true ∧ PyData.depthAll ds ≤ n
  | [],_,_ => ⟨[],rfl,rfl,Nat.zero_le _⟩
  | v :: l,n,h => by
    apply gG;intro nG
    obtain ⟨d,rfl,h1,h2⟩ := h v (.head _);obtain ⟨ds,rfl,h3,h4⟩ := dat_list fun v hv => h v (.tail _ hv)
    apply nG;clear nG;exact ⟨d :: ds,rfl,by rw [PyData.canLayAll0,h1,h3]; rfl,by rw [PyData.depthAll]; exact Nat.max_le.mpr ⟨h2,h4⟩⟩
theorem dat_tup {l : List V} {n : Nat} (h : ∀ v ∈ l,Dat v n) : Dat (.tup l) (n + 1) := by
  apply gG;intro nG
  obtain ⟨ds,rfl,h1,h2⟩ := dat_list h;apply nG;clear nG;exact ⟨.tuple ds,by rw [toV],by rw [PyData.canLay0]; exact h1,by rw [PyData.depth]; exact q173 h2⟩
theorem dat_lst {l : List V} {n : Nat} (h : ∀ v ∈ l,Dat v n) : Dat (.lst l) (n + 1) := by
  apply gG;intro nG
  obtain ⟨ds,rfl,h1,h2⟩ := dat_list h;apply nG;clear nG;exact ⟨.list ds,by rw [toV],by rw [PyData.canLay0]; exact h1,by rw [PyData.depth]; exact q173 h2⟩
theorem dat_int {i : Int} {n : Nat} : Dat (.int i) n := ⟨.int i,by rw [toV],by rw [PyData.canLay0],by rw [PyData.depth]; exact Nat.zero_le _⟩
theorem dat_bool {b : Bool} {n : Nat} : Dat (.bool b) n := ⟨.bool b,by rw [toV],by rw [PyData.canLay0],by rw [PyData.depth]; exact Nat.zero_le _⟩
theorem dat_bV {x : List UInt8} {n : Nat} : Dat (.tup (bV x)) (n + 1) := dat_tup fun v hv => by
  unfold bV at hv;apply gG;intro nG
  obtain ⟨c,_,rfl⟩ := List.mem_map.mp hv;apply nG;clear nG;exact dat_int
theorem dat_qn (qs : List Qn) : Dat (.lst (qs.map Qn.v)) 50 := dat_lst fun v hv => by
  apply gG;intro nG
  obtain ⟨q,_,rfl⟩ := List.mem_map.mp hv;apply nG;clear nG;refine dat_tup (n := 48) fun v hv => ?_
  simp only [List.mem_cons,List.not_mem_nil,or_false] at hv;rcases hv with rfl | rfl | rfl
  · exact dat_int
  · exact dat_bV
  · exact dat_int
theorem dat_ans {v : V} {held : Bool} {before : Int} {ks : List (List UInt8)} (h : AnsIs v held before ks) : Dat v 49 := by
  rw [h.eq];refine dat_tup (n := 48) fun v hv => ?_
  simp only [List.mem_cons,List.not_mem_nil,or_false] at hv;rcases hv with rfl | rfl | rfl
  · exact dat_bool
  · exact dat_int
  · refine dat_lst (n := 47) fun v hv => ?_
    apply gG;intro nG
    obtain ⟨x,_,rfl⟩ := List.mem_map.mp hv;apply nG;clear nG;exact dat_bV
section
variable {W : Wd} {Φ : Fx} {ns : List Str} {gs : List (Str × Value)} {μ μ' : Mu} {ℓ : Loc}
theorem c_ne_self {v : V} {Q : V → Mu → Loc → Prop} (h : Dat v 50) (q : Q (.bool false) μ ℓ) : X2 W RV Φ ns gs μ ℓ v v (compareOp .NotEq) Q := by
  apply gG;intro nG
  obtain ⟨d,e,h1,h2⟩ := h;apply nG;clear nG;exact c_ne_dat e e h1 h1 h2 (by rw [SeqAt.eqv_refl d h1]; exact q)
theorem c_eq_self {v : V} {Q : V → Mu → Loc → Prop} (h : Dat v 50) (q : Q (.bool true) μ ℓ) : X2 W RV Φ ns gs μ ℓ v v (compareOp .Eq) Q := by
  apply gG;intro nG
  obtain ⟨d,e,h1,h2⟩ := h;apply nG;clear nG;exact c_eq_dat e e h1 h1 h2 (by rw [SeqAt.eqv_refl d h1]; exact q)
end
end
section
open PySem PySem.W PyProof.Rows PySem.Calls
noncomputable abbrev lwN : List Str := ["script","box","cuts","one","two","plain","questions","due","stream","ends","turn","what","text","octets","worth","answer","pile","asked","served","back","piece","message","key","told"]
noncomputable abbrev lwG : List (Str × Value) := [("Builder",.ref 693),("_law_take",.ref 808),("range",.type "range"),("_law_text",.ref 815),("_law_served",.ref 860),("tuple",.type "tuple"),("_law_question",.ref 822),("len",.builtin "len"),("_law_pieces",.ref 867),("_law_whole",.ref 834),("_law_asked",.ref 848),("_law_answer",.ref 827),("_law_told",.ref 855)]
noncomputable abbrev Talk := List (Qn × List UInt8)
noncomputable def Talk.q (T : Talk) : List Qn := T.map (·.1)
noncomputable def Talk.m (T : Talk) : List (List UInt8) := T.map (·.2)
noncomputable def Talk.Ok (T : Talk) : Prop := ∀ t ∈ T,t.1.ok ∧ AskT t.2 t.1.what t.1.x t.1.w ∧ t.2.length ≤ 300
theorem Talk.q_snoc (T : Talk) (t : Qn × List UInt8) : Talk.q (T ++ [t]) = T.q ++ [t.1] := by unfold Talk.q; rw [List.map_append]; rfl
theorem Talk.m_snoc (T : Talk) (t : Qn × List UInt8) : Talk.m (T ++ [t]) = T.m ++ [t.2] := by unfold Talk.m; rw [List.map_append]; rfl
theorem Talk.q_len (T : Talk) : T.q.length = T.length := by unfold Talk.q; rw [List.length_map]
theorem Talk.m_len (T : Talk) : T.m.length = T.length := by unfold Talk.m; rw [List.length_map]
theorem flat_le {c : Nat} : ∀ {Ms : List (List UInt8)},(∀ M ∈ Ms,M.length ≤ c) → Ms.flatten.length ≤ c * Ms.length
  | [],_ => Nat.zero_le _
  | M :: Ms,h => by
    have := flat_le fun M hM => h M (.tail _ hM)
    have h1 := h M (.head _);rw [List.flatten_cons,List.length_append,List.length_cons,Nat.mul_succ]; exact q405 this h1
theorem Talk.Ok.flat {T : Talk} (h : T.Ok) : T.m.flatten.length ≤ 300 * T.length := by
  rw [← T.m_len];refine flat_le fun M hM => ?_
  apply gG;intro nG
  obtain ⟨t,ht,rfl⟩ := List.mem_map.mp hM;apply nG;clear nG;exact (h t ht).2.2
theorem Talk.Ok.snoc {T : Talk} (h : T.Ok) {t : Qn × List UInt8} (h1 : t.1.ok) (h2 : AskT t.2 t.1.what t.1.x t.1.w) (h3 : t.2.length ≤ 300) : Talk.Ok (T ++ [t]) := fun s hs => by
  rcases List.mem_append.mp hs with hs | hs
  · exact h s hs
  · rw [List.mem_singleton.mp hs]; exact ⟨h1,h2,h3⟩
theorem Talk.Ok.qs {T : Talk} (h : T.Ok) : ∀ q ∈ T.q,q.ok := fun q hq => by
  apply gG;intro nG
  obtain ⟨t,ht,rfl⟩ := List.mem_map.mp hq;apply nG;clear nG;exact (h t ht).1
theorem flat_snoc (Ms : List (List UInt8)) (M : List UInt8) : (Ms ++ [M]).flatten = Ms.flatten ++ M := by rw [List.flatten_append]; simp
theorem three {r : Nat} (h : (r : Int) < 3) : ∃ n : Nat,n ≤ 60 ∧ [V.int 0,V.int 2,V.int 60][r]? = some (V.int n) := by
  have h : r < 3 := by exact q406 h
  match r,h with
  | 0,_ => exact ⟨0,by decide,rfl⟩
  | 1,_ => exact ⟨2,by decide,rfl⟩
  | 2,_ => exact ⟨60,by decide,rfl⟩
section
variable {W : Wd} (hK : Kn W.K)
include hK
theorem served_q {d : Addr} {qs : List Qn} {q : Qn} (hd : (d == sysModules) = false) (hl : qs.length ≤ 4) :
    Spec W 2 (.ref 860) [.val (.ref d),.int q.what,.tup (bV q.x),.int q.w] [] [(d,.dict (dV (mapOf qs)))] (fun v μ' => ∃ d',v = .tup [ansV qs q,.val (.ref d')] ∧ (d' == sysModules) = false ∧ μ' = [(d',.dict (dV (mapOf (qs ++ [q]))))]) := by
  rw [bV_ints,mapOf_snoc];exact served_spec hK hd (Nat.le_trans (mapOf_len qs) hl) (mapOf_nodup qs)
end
end
section
open PySem PySem.W PyProof.Rows PySem.Calls
theorem rd_suf {M r : List UInt8} {f : Fm} {v : V} {n : Nat} (hv : f.fits v) (h : f.enc v ++ r <:+ M) (hn : n + (f.n + r.length) = M.length) : Rd M n f v := by
  obtain ⟨p,rfl⟩ := h;refine Rd.of hv rfl ?_;rw [List.length_append,List.length_append,Fm.enc_length hv] at hn;exact q410 hn
theorem padT_suf {s k : Nat} {t : List UInt8} : t <:+ padT s k t := List.suffix_append ..
theorem refT_suf {t : List UInt8} {p : Nat} : t <:+ refT t p := padT_suf.trans (List.suffix_append ..)
theorem SlT.suf {f : Fm} {z : V} {P : Prop} {t t' : List UInt8} {u : Nat} (h : SlT f z P t t' u) : t <:+ t' := by
  (apply gG;intro nG; rcases h with ⟨_,rfl,_⟩ | ⟨_,rfl,_⟩ <;> refine nG ?_ <;> clear nG)
  · exact List.suffix_refl _
  · exact padT_suf.trans (List.suffix_append ..)
theorem trimZ_get : ∀ (us : List Nat) (i : Nat),(trimZ us).getD i 0 = us.getD i 0
  | [],_ => rfl
  | u :: r,i => by
    have ih := trimZ_get r;rw [trimZ_cons]
    by_cases h : trimZ r = [] ∧ u = 0
    · rw [if_pos h];cases i with
      | zero => exact h.2.symm
      | succ i => have := ih i; rw [h.1] at this; exact this
    · rw [if_neg h];cases i with
      | zero => rfl
      | succ i => exact ih i
theorem vtEnc_at {O : Nat} : ∀ {us : List Nat} {i : Nat},i < us.length → ∃ pre,vtEnc O us = pre ++ (Fm.enc .H (.int (offV O (us.getD i 0))) ++ vtEnc O (us.drop (i + 1)))
  | u :: r,0,_ => ⟨[],rfl⟩
  | u :: r,i + 1,h => by
    obtain ⟨pre,e⟩ := vtEnc_at (O := O) (us := r) (i := i) (Nat.lt_of_succ_lt_succ h);exact ⟨Fm.enc .H (.int (offV O u)) ++ pre,by rw [vtEnc_cons,e,List.append_assoc]; rfl⟩
structure ObjIn (M : List UInt8) (oe : Nat) (us : List Nat) (t : List UInt8) (p : Nat) : Prop where
  suf : objT oe us t <:+ M
  place : p + (4 + (padT 4 0 t).length) = M.length
  small : (padT 4 0 t).length < 2000
  end_ : oe ≤ 2000
  three : us.length ≤ 3
  near : ∀ u ∈ us,u ≤ (padT 4 0 t).length
section
variable {M : List UInt8} {oe : Nat} {us : List Nat} {t : List UInt8} {p : Nat}
theorem ObjIn.vt (h : ObjIn M oe us t p) : (vtab (4 + (padT 4 0 t).length) oe us).length = 4 + 2 * (trimZ us).length :=
  vtab_length (by have := h.small; exact q411 this) h.three fun u hu => by have := h.near u hu; exact q412 this
theorem ObjIn.len (h : ObjIn M oe us t p) : (objT oe us t).length = 8 + 2 * (trimZ us).length + (padT 4 0 t).length := by
  have hv := h.vt;have := trimZ_length us;have := h.three;unfold objT;rw [List.length_append,List.length_append,hv,enci (by (first | with_reducible exact Int.natCast_nonneg _ | with_reducible exact nn31 | lia)) (by lia)];exact q413
theorem ObjIn.off (h : ObjIn M oe us t p) (i : Nat) : ∃ r : Nat,OffAt M p (4 + 2 * i) r ∧ (r : Int) = offV (4 + (padT 4 0 t).length) (us.getD i 0) := by
  have hv := h.vt;have hl := h.len;have h3 := h.three;have htl := trimZ_length us;have hsm := h.small;have hend := h.end_;have hle := h.suf.length_le;have hp := h.place;generalize hO : 4 + (padT 4 0 t).length = O at *;have hz : 0 ≤ offV O (us.getD i 0) := by
    unfold offV
    split
    · exact Int.le_refl _
    · by_cases hi : i < us.length
      · have := h.near (us.getD i 0) (by rw [List.getD_eq_getElem?_getD,List.getElem?_eq_getElem hi]; exact List.getElem_mem hi); exact q414 hO this
      · rename_i hne
        exact absurd (by rw [List.getD_eq_getElem?_getD,List.getElem?_eq_none (by exact q136 hi)]; rfl) hne
  apply gG;intro nG
  obtain ⟨r,hr⟩ : ∃ r : Nat,offV O (us.getD i 0) = r := ⟨_,(Int.toNat_of_nonneg hz).symm⟩
  apply nG;clear nG;refine ⟨r,⟨((vtab O oe us).length : Nat),M.length - (objT oe us t).length,2 * ((trimZ us).length + 2),?_,?_,?_,?_⟩,hr.symm⟩
  · refine rd_suf (f := .i) (r := padT 4 0 t) ⟨by (first | with_reducible exact Int.natCast_nonneg _ | with_reducible exact nn31 | (clear hv; lia)),by exact q415 h3 htl hv⟩ ?_ (by show _ + (4 + _) = _; exact q416 hO hp);refine List.IsSuffix.trans ?_ h.suf;unfold objT;rw [hO];exact List.suffix_append ..
  · exact q417 hl hle hO hv hp
  · refine rd_suf (f := .H) (r := Fm.enc .H (.int ((O - oe : Nat) : Int)) ++ vtEnc O (trimZ us) ++ (Fm.enc .i (.int ((vtab O oe us).length : Nat)) ++ padT 4 0 t)) ⟨by (first | with_reducible exact Int.natCast_nonneg _ | with_reducible exact nn31 | lia),by exact q302 h3 htl⟩ ?_ ?_
    · refine List.IsSuffix.trans ?_ h.suf;unfold objT;rw [hO];unfold vtab;rw [List.append_assoc,List.append_assoc,List.append_assoc];exact List.suffix_refl _
    · rw [List.length_append,List.length_append,List.length_append,encH (by (first | with_reducible exact Int.natCast_nonneg _ | with_reducible exact nn31 | lia)) (by exact q418 hsm hO),enci (by (first | with_reducible exact Int.natCast_nonneg _ | with_reducible exact nn31 | omega)) (by exact q415 h3 htl hv),vtEnc_length (by exact q419 hsm hO) fun u hu => by have := h.near u (trimZ_sub hu); exact q420 hO this];show _ + (2 + _) = _;exact q421 hl hle
  · by_cases hi : i < (trimZ us).length
    · rw [if_pos (by exact q422 hi)];obtain ⟨pre,e⟩ := vtEnc_at (O := O) hi;have hlen : (vtEnc O ((trimZ us).drop (i + 1))).length = 2 * ((trimZ us).length - (i + 1)) := by
        rw [vtEnc_length (by exact q419 hsm hO) fun u hu => by have := h.near u (trimZ_sub (List.mem_of_mem_drop hu)); exact q420 hO this,List.length_drop]
      rw [trimZ_get,hr] at e;have hrO : (r : Int) < 2 ^ 16 := by
        rw [← hr]; unfold offV; split <;> lia
      refine rd_suf (f := .H) (r := vtEnc O ((trimZ us).drop (i + 1)) ++ (Fm.enc .i (.int ((vtab O oe us).length : Nat)) ++ padT 4 0 t)) ⟨by (first | with_reducible exact Int.natCast_nonneg _ | with_reducible exact nn31 | (clear hr; lia)),hrO⟩ ?_ ?_
      · refine List.IsSuffix.trans ?_ h.suf;unfold objT;rw [hO];refine ⟨Fm.enc .H (.int ((2 * ((trimZ us).length + 2) : Nat) : Int)) ++ (Fm.enc .H (.int ((O - oe : Nat) : Int)) ++ pre),?_⟩;have hvt : vtab O oe us = Fm.enc .H (.int ((2 * ((trimZ us).length + 2) : Nat) : Int)) ++ (Fm.enc .H (.int ((O - oe : Nat) : Int)) ++ (pre ++ (Fm.enc .H (.int (r : Nat)) ++ vtEnc O ((trimZ us).drop (i + 1))))) := by unfold vtab; rw [e]
        generalize (vtab O oe us).length = n;rw [hvt];simp only [List.append_assoc]
      · rw [List.length_append,List.length_append,enci (by (first | with_reducible exact Int.natCast_nonneg _ | with_reducible exact nn31 | omega)) (by exact q415 h3 htl hv),hlen];show _ + (2 + _) = _;exact q425 hl hle hi
    · rw [if_neg (by exact q426 hi)];have : us.getD i 0 = 0 := by rw [← trimZ_get,List.getD_eq_getElem?_getD,List.getElem?_eq_none (by exact q136 hi)]; rfl
      rw [this] at hr;have h0 : offV O 0 = 0 := rfl;rw [h0] at hr;exact q427 hr
theorem ObjIn.slot (h : ObjIn M oe us t p) {f : Fm} {z d : V} {P : Prop} {t0 t1 : List UInt8} {i u : Nat} (hs : SlT f z P t0 t1 u) (hz : f.fits z) (ht : t1 <:+ t) (hu : us.getD i 0 = u) (hd : P → z = d) : SlotB M p (4 + 2 * i) f d z := by
  apply gG;intro nG
  obtain ⟨r,ho,hr⟩ := h.off i;apply nG;clear nG;rw [hu] at hr;have hp := h.place;have hsuf : t1 <:+ M := (ht.trans (padT_suf (s := 4) (k := 0))).trans ((List.suffix_append ..).trans ((List.suffix_append ..).trans h.suf));have hle := (ht.trans (padT_suf (s := 4) (k := 0))).length_le;refine ⟨r,ho,?_⟩
  (apply gG;intro nG; rcases hs with ⟨hP,rfl,rfl⟩ | ⟨hP,rfl,rfl⟩ <;> refine nG ?_ <;> clear nG)
  · exact .inl ⟨by have : offV (4 + (padT 4 0 t).length) 0 = 0 := rfl; exact q428 hr this,hd hP⟩
  · have hn : 1 ≤ f.n := by cases f <;> decide
    rw [List.length_append,Fm.enc_length hz] at hle;unfold offV at hr;rw [if_neg (by exact q429 hn)] at hr;refine .inr ⟨by exact q430 hle hr,rd_suf hz hsuf (by exact q431 hp hr)⟩
end
theorem fin4_msg {as obj : List UInt8} {root : Nat} (ha : as.length = 4) (hr : root ≤ obj.length) (hz : obj.length ≤ 4000) : ∃ r,MsgAt (fin4 as obj root) as r ∧ 4 + r + root = (fin4 as obj root).length ∧ obj <:+ fin4 as obj root := by
  have hl := fin4_len (root := root) ha hz;have hb : (as ++ obj).length = 4 + obj.length := by rw [List.length_append,ha]
  refine ⟨(as ++ obj).length - root + 4,⟨by exact q432 hl,?_,?_,?_,by exact q433 hz hb⟩,by exact q434 hr hl hb,?_⟩
  · have e : (fin4 as obj root).length - 4 = 4 + (as ++ obj).length := by exact q435 hl hb
    rw [e];exact Rd.of (f := .i) (p := []) ⟨by (first | with_reducible exact Int.natCast_nonneg _ | with_reducible exact nn31 | lia),by exact q436 hz hb⟩ rfl rfl
  · exact Rd.of (f := .I) (p := Fm.enc .i (.int ((4 + (as ++ obj).length : Nat) : Int))) ⟨by (first | with_reducible exact Int.natCast_nonneg _ | with_reducible exact nn31 | lia),by exact q437 hz hb⟩ rfl (by rw [enci (by (first | with_reducible exact Int.natCast_nonneg _ | with_reducible exact nn31 | (clear hb; lia))) (by exact q436 hz hb)])
  · unfold fin4;rw [← List.append_assoc,List.drop_left' (by rw [List.length_append,enci (by (first | with_reducible exact Int.natCast_nonneg _ | with_reducible exact nn31 | omega)) (by exact q436 hz hb),encI (by (first | with_reducible exact Int.natCast_nonneg _ | with_reducible exact nn31 | omega)) (by exact q437 hz hb)]),List.take_left' ha]
  · unfold fin4;rw [← List.append_assoc,← List.append_assoc];exact List.suffix_append ..
theorem msg_obj {as t : List UInt8} {oe : Nat} {us : List Nat} (ha : as.length = 4) (hsm : (padT 4 0 t).length < 1000) (he : oe ≤ 2000) (h3 : us.length ≤ 3) (hn : ∀ u ∈ us,u ≤ (padT 4 0 t).length) : ∃ r,MsgAt (msgT as oe us t) as r ∧ ObjIn (msgT as oe us t) oe us t (4 + r) := by
  have hv := vtab_length (O := 4 + (padT 4 0 t).length) (oe := oe) (us := us) (by exact q438 hsm) h3 fun u hu => by have := hn u hu; exact q412 this
  have htl := trimZ_length us;have hol : (objT oe us t).length = 8 + 2 * (trimZ us).length + (padT 4 0 t).length := by
    unfold objT;rw [List.length_append,List.length_append,hv,enci (by (first | with_reducible exact Int.natCast_nonneg _ | with_reducible exact nn31 | lia)) (by exact q78 h3 htl)];exact q413
  have h1 := padT_ge (size := 4) (k := 12) (tail := objT oe us t);have h2 := padT_le (size := 4) (k := 12) (tail := objT oe us t) (by decide);apply gG;intro nG
  obtain ⟨r,hm,hp,hs⟩ := fin4_msg (as := as) (obj := padT 4 12 (objT oe us t)) (root := 4 + (padT 4 0 t).length) ha (by exact q439 hol h1) (by exact q440 hsm h3 htl hol h2);apply nG;clear nG;exact ⟨r,hm,padT_suf.trans hs,by unfold msgT; exact q441 hp,by (exact Nat.le_trans (by assumption) (by decide)),he,h3,hn⟩
end
section
open PySem PySem.W PyProof.Rows PySem.Calls
theorem vec_suf {M r1 r2 : List UInt8} {n k off at_ : Nat} (h1 : Fm.enc .I (.int ((r1.length - k + 4 : Nat) : Int)) ++ r1 <:+ M) (h2 : Fm.enc .I (.int (n : Nat)) ++ r2 <:+ M) (hk : 4 + r2.length = k) (hle : k ≤ r1.length) (hz : r1.length ≤ 100000) (hn : n ≤ 100000)
    (ho : off + (4 + r1.length) = M.length) (ha : at_ + r2.length = M.length) : VecAt M off n at_ :=
  ⟨r1.length - k + 4,rd_suf (f := .I) ⟨by (first | with_reducible exact Int.natCast_nonneg _ | with_reducible exact nn31 | lia),by (exact q442 hz)⟩ h1 ho,rd_suf (f := .I) ⟨by (first | with_reducible exact Int.natCast_nonneg _ | with_reducible exact nn31 | lia),by exact q443 hn⟩ h2 (by show _ + (4 + _) = _; exact q444 hk hle ho),by exact q445 hk hle ho ha⟩
theorem drop_suf {M x r : List UInt8} {i : Nat} (h : x ++ r <:+ M) (hi : i + (x.length + r.length) = M.length) : (M.drop i).take x.length = x ∧ i + x.length ≤ M.length := by
  obtain ⟨p,rfl⟩ := h;rw [List.length_append,List.length_append] at hi;have e : i = p.length := Nat.add_right_cancel hi;subst e;rw [List.drop_left,List.take_left,List.length_append,List.length_append];exact ⟨rfl,by exact q446⟩
theorem ObjIn.laid {M : List UInt8} {oe : Nat} {us : List Nat} {t : List UInt8} {p : Nat} (h : ObjIn M oe us t p) (i : Nat) {u : Nat} (hu : us.getD i 0 = u) (h0 : u ≠ 0) (hle : u ≤ (padT 4 0 t).length) : ∃ r,OffAt M p (4 + 2 * i) r ∧ p + r + u = M.length := by
  apply gG;intro nG
  obtain ⟨r,hr,hv⟩ := h.off i;apply nG;clear nG;rw [hu] at hv;unfold offV at hv;rw [if_neg h0] at hv;have := h.place;exact ⟨r,hr,by exact q447 hv this⟩
theorem ObjIn.tail {M : List UInt8} {oe : Nat} {us : List Nat} {t : List UInt8} {p : Nat} (h : ObjIn M oe us t p) : t <:+ M := padT_suf.trans ((List.suffix_append ..).trans ((List.suffix_append ..).trans h.suf))
theorem refT_lens {t : List UInt8} {k : Nat} (h : t.length ≤ 2000) : (refT t k).length = 4 + (padT 4 0 t).length ∧ t.length ≤ (padT 4 0 t).length ∧ (padT 4 0 t).length < t.length + 4 :=
  ⟨refT_len (by exact Nat.le_trans (by assumption) (by decide)),padT_ge,padT_le (by decide)⟩
theorem strT_len {x : List UInt8} (hx : x.length ≤ 16) : (strT x).length = 4 + (x ++ (0 :: padT 4 (x.length + 1) [])).length ∧ (strT x).length ≤ 25 := by
  have p1 := padT_le (size := 4) (k := x.length + 1) (tail := []) (by decide);rw [List.length_nil] at p1;unfold strT;rw [List.length_append,List.length_append,encI (by (first | with_reducible exact Int.natCast_nonneg _ | with_reducible exact nn31 | lia)) (by exact q74 hx),List.length_cons];exact q448 hx p1
theorem ask_msg {M x : List UInt8} {what : Nat} {worth : Int} (h : AskT M what x worth) (hw : what < 4) (hx : x.length ≤ 16) (h0 : -(2 ^ 31) ≤ worth) (h1 : worth < 2 ^ 31) : ∃ r,MsgAt M [65,83,75,83] r ∧ AskB M (4 + r) what x worth := by
  apply gG;intro nG
  obtain ⟨t2,t4,u0,u2,s2,s0,rfl⟩ := h;have f2 : Fm.fits .i (.int worth) := ⟨h0,h1⟩
  have f0 : Fm.fits .B (.int what) := ⟨Int.natCast_nonneg _,by exact q87 hw⟩
  obtain ⟨a2,b2,c2,_⟩ := s2.len f2;obtain ⟨a0,b0,c0,_⟩ := s0.len f0;obtain ⟨hs,hs25⟩ := strT_len hx;apply nG;clear nG;change t2.length ≤ (strT x).length + 4 + (4 - 1) at b2;change t4.length ≤ _ + 1 + (1 - 1) at b0;apply gG;intro nG
  obtain ⟨g1,g2,g3⟩ := refT_lens (t := t2) (k := (strT x).length) (by exact q449 hs25 b2);obtain ⟨_,q2,q3⟩ := refT_lens (t := t4) (k := 0) (by exact q450 hs25 b2 b0 g1 g3);obtain ⟨r,hm,ho⟩ := msg_obj (as := [65,83,75,83]) (t := t4) (oe := (strT x).length) (us := [u0,(refT t2 (strT x).length).length,u2]) rfl (by exact q451 hs25 b2 b0 g1 g3 q3) (by exact Nat.le_trans (by assumption) (by decide)) (Nat.le_refl 3) (by intro u hu; simp only [List.mem_cons,List.not_mem_nil,or_false] at hu; exact q452 c2 a0 c0 g1 g2 q2 hu);apply nG;clear nG;refine ⟨r,hm,ho.slot (i := 0) s0 f0 (List.suffix_refl _) rfl fun e => by rw [e],ho.slot (i := 2) s2 f2 (refT_suf.trans s0.suf) rfl fun e => by rw [e],?_⟩;apply gG;intro nG
  obtain ⟨q,hq,hp⟩ := ho.laid 1 (u := (refT t2 (strT x).length).length) rfl (by exact q453 g1) (Nat.le_trans a0 q2);apply nG;clear nG;have s4 := s0.suf.trans ho.tail;have s5 := s2.suf.trans (refT_suf.trans s4);generalize msgT [65,83,75,83] (strT x).length [u0,(refT t2 (strT x).length).length,u2] t4 = M at hq hp s4 s5 ⊢;apply gG;intro nG
  obtain ⟨i,hi⟩ : ∃ i,i + (x ++ (0 :: padT 4 (x.length + 1) [])).length = M.length := ⟨_,Nat.sub_add_cancel (Nat.le_trans (by exact q454 hs) s5.length_le)⟩
  apply nG;clear nG;refine ⟨q,i,hq,vec_suf s4 s5 hs.symm (Nat.le_trans a2 g2) (by (exact q455 hs25 b2 g3)) (by exact Nat.le_trans (by assumption) (by decide)) (by rw [← g1]; exact hp) hi,?_⟩;exact drop_suf ((List.suffix_append ..).trans s5) (by rw [← List.length_append]; exact hi)
theorem bvsT_suf {ks : List (List UInt8)} {i : Nat} (hi : i < ks.length) : bvsT (ks.take (i + 1)) <:+ bvsT ks := by
  have key : ∀ k,i + 1 + k ≤ ks.length → bvsT (ks.take (i + 1)) <:+ bvsT (ks.take (i + 1 + k)) := fun k => by
    induction k with
    | zero => intro _; exact List.suffix_refl _
    | succ k ih =>
      intro hk;rw [show i + 1 + (k + 1) = i + 1 + k + 1 from rfl,bvsT_take (show i + 1 + k < ks.length by assumption)];exact (ih (Nat.le_of_succ_le hk)).trans (padT_suf.trans ((List.suffix_append ..).trans (List.suffix_append ..)))
  have := key (ks.length - (i + 1)) (Nat.le_of_eq (Nat.add_sub_cancel' hi))
  rwa [Nat.add_sub_cancel' hi,List.take_length] at this
theorem rowsT_suf {t : List UInt8} : ∀ (ps : List Nat) (k : Nat),rowsT (ps.drop k) t <:+ rowsT ps t := fun ps => by
  induction ps with
  | nil => intro k; rw [List.drop_nil]; exact List.suffix_refl _
  | cons p ps ih =>
    intro k;cases k with
    | zero => exact List.suffix_refl _
    | succ k => exact (ih k).trans refT_suf
structure RowsAt (ks : List (List UInt8)) (T0 : List UInt8) : Prop where
  suf : bvsT ks <:+ T0
  four : T0.length % 4 = 0
  few : ks.length ≤ 4
  small : T0.length ≤ 100
  short : ∀ x ∈ ks,x.length ≤ 16
theorem RowsAt.len {ks : List (List UInt8)} {T0 : List UInt8} (h : RowsAt ks T0) (k : Nat) : (rowsT ((plc ks).drop k) T0).length = T0.length + 4 * (ks.length - k) := by
  have := h.few;have := h.small;rw [rowsT_len h.four (by exact Nat.le_trans (by assumption) (by decide)) _ (by rw [List.length_drop,plc_len]; lia),List.length_drop,plc_len]
theorem RowsAt.row {ks : List (List UInt8)} {M T0 x : List UInt8} {i k : Nat} (h : RowsAt ks T0) (hs : rowsT (plc ks) T0 <:+ M) (hi : i + (rowsT (plc ks) T0).length = M.length) (hkx : ks[k]? = some x) : ∃ j,VecAt M (i + 4 * k) x.length j ∧ (M.drop j).take x.length = x ∧ j + x.length ≤ M.length := by
  have hkl : k < ks.length := (List.getElem?_eq_some_iff.mp hkx).1;have hxe : ks[k] = x := (List.getElem?_eq_some_iff.mp hkx).2;have hxl := h.short x (List.mem_of_getElem? hkx);have hf := h.few;have hsm := h.small;have hbt : bvsT (ks.take (k + 1)) = Fm.enc .I (.int x.length) ++ (x ++ padT 4 x.length (bvsT (ks.take k))) := by rw [bvsT_take hkl,hxe]; rfl
  have sT : T0 <:+ rowsT (plc ks) T0 := by have := rowsT_suf (t := T0) (plc ks) ks.length; rwa [List.drop_of_length_le (by rw [plc_len]; exact Nat.le_refl _)] at this
  have sb : bvsT (ks.take (k + 1)) <:+ M := (bvsT_suf hkl).trans (h.suf.trans (sT.trans hs));have hbT := ((bvsT_suf hkl).trans h.suf).length_le;have hd : (plc ks).drop k = (bvsT (ks.take (k + 1))).length :: (plc ks).drop (k + 1) := by
    have hpk := plc_at hkl;have hkp : k < (plc ks).length := by rw [plc_len]; exact hkl
    rw [List.drop_eq_getElem_cons hkp];rw [List.getElem?_eq_getElem hkp] at hpk;rw [Option.some.inj hpk]
  have hr0 := h.len 0;have hr1 := h.len (k + 1);rw [List.drop_zero,Nat.sub_zero] at hr0;have sr := (rowsT_suf (t := T0) (plc ks) k).trans hs;rw [hd] at sr;change refT (rowsT ((plc ks).drop (k + 1)) T0) _ <:+ M at sr;have h4 := h.four;rw [refT_at (by (exact q456 hr1 h4))] at sr;rw [hbt] at sb;have hbl : (bvsT (ks.take (k + 1))).length = 4 + (x ++ padT 4 x.length (bvsT (ks.take k))).length := by rw [hbt,List.length_append,encI (by (first | with_reducible exact Int.natCast_nonneg _ | with_reducible exact nn31 | lia)) (by exact q74 hxl)]
  apply gG;intro nG
  obtain ⟨j,hj⟩ : ∃ j,j + (x ++ padT 4 x.length (bvsT (ks.take k))).length = M.length := ⟨_,Nat.sub_add_cancel (Nat.le_trans (by rw [List.length_append (as := Fm.enc .I _)]; (exact Nat.le_add_left _ _)) sb.length_le)⟩
  apply nG;clear nG;exact ⟨j,vec_suf sr sb hbl.symm (by (exact q457 hbT hr1)) (by (exact q458 hf hsm hr1)) (by exact Nat.le_trans (by assumption) (by decide)) (by (exact q459 hi hkl hr0 hr1)) hj,drop_suf ((List.suffix_append ..).trans sb) (by rw [← List.length_append]; exact hj)⟩
theorem tell_msg {M : List UInt8} {held : Bool} {worth : Int} {ks : List (List UInt8)} (h : TellT M held worth ks) (hk : ks.length ≤ 4) (hx : ∀ x ∈ ks,x.length ≤ 16) (h0 : -(2 ^ 31) ≤ worth) (h1 : worth < 2 ^ 31) : ∃ r,MsgAt M [84,69,76,76] r ∧ TellB M (4 + r) ks ∧ SlotB M (4 + r) 8 .q (.bool false) (.bool held) ∧ SlotB M (4 + r) 6 .i (.int 0) (.int worth) := by
  apply gG;intro nG
  obtain ⟨t3,t4,u1,u2,s1,s2,rfl⟩ := h;have f1 : Fm.fits .i (.int worth) := ⟨h0,h1⟩
  have f2 : Fm.fits .q (.bool held) := trivial;obtain ⟨a1,b1,c1,_⟩ := s1.len f1;obtain ⟨a2,b2,c2,_⟩ := s2.len f2;apply nG;clear nG;change t3.length ≤ _ + 4 + (4 - 1) at b1;change t4.length ≤ _ + 1 + (1 - 1) at b2;have hb := bvsT_len ks hx ks.length;rw [List.take_length] at hb;have q0 := padT_le (size := 4) (k := 4 * ks.length) (tail := bvsT ks) (by decide);have hR : RowsAt ks (padT 4 (4 * ks.length) (bvsT ks)) := ⟨padT_suf,by have := padOf_add (s := 4) (t := (bvsT ks).length) (x := 4 * ks.length) (.inr (.inr rfl)); rw [padT_len]; exact q157 this,hk,by exact q460 hk hb q0,hx⟩
  have hV : tellV ks = Fm.enc .I (.int ks.length) ++ rowsT (plc ks) (padT 4 (4 * ks.length) (bvsT ks)) := rfl;generalize padT 4 (4 * ks.length) (bvsT ks) = T0 at q0 hR hV;have hrow0 := hR.len 0;rw [List.drop_zero] at hrow0;have hVl : (tellV ks).length = 4 + (rowsT (plc ks) T0).length := by rw [hV,List.length_append,encI (by (first | with_reducible exact Int.natCast_nonneg _ | with_reducible exact nn31 | lia)) (by exact q170 hk)]
  clear hb;have hsm := hR.small;apply gG;intro nG
  obtain ⟨g1,g2,g3⟩ := refT_lens (t := tellV ks) (k := (tellV ks).length) (by exact q461 hk hrow0 hVl hsm);obtain ⟨_,q2,q3⟩ := refT_lens (t := t4) (k := 0) (by exact q462 hk b1 b2 hrow0 hVl hsm g1 g3);obtain ⟨r,hm,ho⟩ := msg_obj (as := [84,69,76,76]) (t := t4) (oe := (tellV ks).length) (us := [(refT (tellV ks) (tellV ks).length).length,u1,u2]) rfl (by exact q463 hk b1 b2 hrow0 hVl hsm g1 g3 q3) (by exact q461 hk hrow0 hVl hsm) (Nat.le_refl 3) (by intro u hu; simp only [List.mem_cons,List.not_mem_nil,or_false] at hu; (exact q464 a1 c1 a2 c2 q2 hu));apply nG;clear nG;refine ⟨r,hm,?_,ho.slot (i := 2) s2 f2 (List.suffix_refl _) rfl fun e => by rw [e],ho.slot (i := 1) s1 f1 s2.suf rfl fun e => by rw [e]⟩;apply gG;intro nG
  obtain ⟨q,hq,hp⟩ := ho.laid 0 (u := (refT (tellV ks) (tellV ks).length).length) rfl (by exact q453 g1) (Nat.le_trans (Nat.le_trans a1 a2) q2);apply nG;clear nG;have hpl := ho.place;have s4 := s1.suf.trans (s2.suf.trans ho.tail);have s5 := refT_suf.trans s4;generalize msgT [84,69,76,76] (tellV ks).length [(refT (tellV ks) (tellV ks).length).length,u1,u2] t4 = M at hq hp s4 s5 hpl ⊢;have s6 : rowsT (plc ks) T0 <:+ M := (by rw [hV]; exact List.suffix_append .. : rowsT (plc ks) T0 <:+ tellV ks).trans s5;apply gG;intro nG
  obtain ⟨i,hi⟩ : ∃ i,i + (rowsT (plc ks) T0).length = M.length := ⟨_,Nat.sub_add_cancel s6.length_le⟩
  apply nG;clear nG;exact ⟨q,i,hq,vec_suf s4 (hV ▸ s5) hVl.symm g2 (by (exact q465 hk hrow0 hVl hsm g3)) (by exact Nat.le_trans (by assumption) (by decide)) (by rw [← g1]; exact hp) hi,by (exact q466 hVl g1 g2 hp hi),fun k x hkx => hR.row s6 hi hkx⟩
end
section
open PySem PySem.W PyProof.Rows PySem.Calls
noncomputable def WholeV (Ms : List (List UInt8)) (S : List UInt8) (R : Nat → Nat → Prop) (j : Nat) (P : List UInt8) (v : V) : Prop := (¬ FullAt Ms j P ∧ v = .none) ∨ ∃ M rest r,Ms[j]? = some M ∧ P = M ++ rest ∧ HeldAt Ms S (j + 1) rest ∧ R j r ∧ 4 + r ≤ 100000 ∧ v = .tup [.bool true,.tab 788 M ((4 + r : Nat) : Int),.bytes rest]
noncomputable def TellsA (A : List UInt8) (v : V) : Prop := ∃ held before ks,AnsIs v held before ks ∧ TellT A held before ks ∧ A.length ≤ 600
noncomputable def Told (vs : List V) (As : List (List UInt8)) (j : Nat) : Prop := As.length = j ∧ ∀ (k : Nat) (A : List UInt8) (v : V),As[k]? = some A → vs[k]? = some v → TellsA A v
theorem Told.nil {vs : List V} : Told vs [] 0 := ⟨rfl,fun u_ u_ u_ h => nomatch h⟩
theorem Told.snoc {vs : List V} {As : List (List UInt8)} {A : List UInt8} {j : Nat} {v : V} (h : Told vs As j) (hv : vs[j]? = some v) (ha : TellsA A v) : Told vs (As ++ [A]) (j + 1) := by
  refine ⟨by rw [List.length_append,h.1]; rfl,fun k B w hB hw => ?_⟩
  by_cases hk : k < As.length
  · rw [List.getElem?_append_left hk] at hB;exact h.2 k B w hB hw
  · have hk' : k = As.length := by
      have := (List.getElem?_eq_some_iff.mp hB).1;rw [List.length_append] at this;simp only [List.length_cons,List.length_nil] at this;exact q407 hk this
    subst hk';rw [List.getElem?_append_right (Nat.le_refl _),Nat.sub_self] at hB;cases hB;rw [h.1,hv] at hw;cases hw;exact ha
theorem Told.flat {vs : List V} {As : List (List UInt8)} {j : Nat} (h : Told vs As j) (hv : j ≤ vs.length) : As.flatten.length ≤ 600 * j := by
  rw [← h.1];refine flat_le fun A hA => ?_
  apply gG;intro nG
  obtain ⟨k,hk,rfl⟩ := List.mem_iff_getElem.mp hA;obtain ⟨_,_,_,_,_,z⟩ := h.2 k _ _ (List.getElem?_eq_getElem hk) (List.getElem?_eq_getElem (by rw [h.1] at hk; (exact Nat.lt_of_lt_of_le (by assumption) (by assumption))));apply nG;clear nG;exact z
theorem xl_lstT {W : Wd} {Φ : Fx} {ns : List Str} {gs : List (Str × Value)} {μ : Mu} {ℓ : Loc} {l : List V} {t : List Value → Sem Value} {Q : V → Mu → Loc → Prop} (h : XL W RV Φ ns gs μ ℓ l t fun v μ ℓ => ∃ a l ν,v = .val (.ref a) ∧ Take (a,Ce.list l) μ ν ∧ Q (.lst l) ν ℓ) : XL W RV Φ ns gs μ ℓ l t Q :=
  fun s F a G O I hx => by
    refine wN.mono (h s F a G O I hx) (fun x s' z => ?_) fun u_ u_ z => z
    apply gG;intro nG
    obtain ⟨F',v,μ₁,ℓ',J,e,hv,a,l,ν,rfl,tk,q⟩ := z;obtain ⟨_,rfl⟩ := hv.inv;have J := J.perm tk.perm;obtain ⟨o,ho,hc⟩ := J.cell (.head _);obtain ⟨vs,n,rfl,hl⟩ := hc;obtain ⟨J',e'⟩ := J.freeze;apply nG;clear nG;exact ⟨_,_,_,_,J',e.trans e',.lst (vs := vs.toList) (.inr rfl) ho rfl rfl (hl.ext e'),q⟩
section
variable {W : Wd} (hK : Kn W.K)
include hK
theorem whole_at {Ms : List (List UInt8)} {name S T P : List UInt8} {R : Nat → Nat → Prop} {j : Nat} (hM : ∀ j M,Ms[j]? = some M → ∃ r,MsgAt M name r ∧ R j r) (hne : name ≠ [69,76,83,69]) (h : HeldAt Ms S j P) (e : S ++ T = Ms.flatten) (hz : Ms.flatten.length ≤ 90000) :
    Spec W 4 (.ref 834) [.bytes P,.bytes name] [] [] (fun v μ' => WholeV Ms S R j P v ∧ μ' = []) := by
  have hP : P.length ≤ Ms.flatten.length := by
    have h1 : S.length ≤ Ms.flatten.length := by rw [← e,List.length_append]; (exact Nat.le_add_right _ _)
    have h2 : S.length = ((Ms.take j).flatten).length + P.length := by rw [← h.2,List.length_append]
    exact q197 h1 h2
  by_cases hf : FullAt Ms j P
  · apply gG;intro nG
    obtain ⟨M,rest,hMj,rfl,hr⟩ := h.full e hf;obtain ⟨r,hm,hR⟩ := hM j M hMj;apply nG;clear nG;have hn := hm.near;refine Spec.mono (whole_some hK (p := 4 + r) hm.len hm.size hm.root rfl (by exact q408 hn) hm.name hne (by exact q409 hz hP)) fun v μ' z => ?_
    exact ⟨.inr ⟨M,rest,r,hMj,rfl,hr,hR,by exact q408 hn,z.1⟩,z.2⟩
  · refine Spec.mono (whole_none hK (h.short (name := name) (fun M hM' => ?_) e hf) (by exact q409 hz hP)) fun v μ' z => ⟨.inl ⟨hf,z.1⟩,z.2⟩
    apply gG;intro nG
    obtain ⟨k,hk⟩ := List.mem_iff_getElem?.mp hM';obtain ⟨r,hr,_⟩ := hM k M hk;apply nG;clear nG;exact ⟨r,hr⟩
end
end
section
open PySem PySem.W PyProof.Rows PySem.Calls
noncomputable def FindA (vs : List V) (As : List (List UInt8)) (j r : Nat) : Prop := ∃ v held before ks A,vs[j]? = some v ∧ As[j]? = some A ∧ AnsIs v held before ks ∧ TellB A (4 + r) ks ∧ SlotB A (4 + r) 8 .q (.bool false) (.bool held) ∧ SlotB A (4 + r) 6 .i (.int 0) (.int before)
theorem told_msgs {vs : List V} {As : List (List UInt8)} {n : Nat} (h : Told vs As n) (hn : vs.length = n) : ∀ j A,As[j]? = some A → ∃ r,MsgAt A [84,69,76,76] r ∧ FindA vs As j r := fun j A hA => by
  have hj := (List.getElem?_eq_some_iff.mp hA).1;have hj' : j < vs.length := by rw [hn,← h.1]; exact hj
  apply gG;intro nG
  obtain ⟨held,before,ks,hi,ht,_⟩ := h.2 j A _ hA (List.getElem?_eq_getElem hj');obtain ⟨r,h1,h2,h3,h4⟩ := tell_msg ht hi.few hi.short hi.low hi.high;apply nG;clear nG;exact ⟨r,h1,_,held,before,ks,A,List.getElem?_eq_getElem hj',hA,hi,h2,h3,h4⟩
theorem not_full {Ms : List (List UInt8)} {name : List UInt8} {R : Nat → Nat → Prop} {j : Nat} (hM : ∀ j M,Ms[j]? = some M → ∃ r,MsgAt M name r ∧ R j r) : ¬ FullAt Ms j [] := fun ⟨M,h1,h2⟩ => by
  apply gG;intro nG
  obtain ⟨r,hm,_⟩ := hM j M h1;apply nG;clear nG;have := hm.len;rw [List.length_nil] at h2;exact q196 h2 this
theorem told_dat {vs : List V} {As : List (List UInt8)} (h : Told vs As vs.length) : Dat (.lst vs) 50 := dat_lst fun v hv => by
  apply gG;intro nG
  obtain ⟨j,hj,rfl⟩ := List.mem_iff_getElem.mp hv;obtain ⟨_,_,_,ha,_⟩ := h.2 j _ _ (List.getElem?_eq_getElem (by rw [h.1]; exact hj)) (List.getElem?_eq_getElem hj);apply nG;clear nG;exact dat_ans ha
theorem held_le {Ms : List (List UInt8)} {S T P : List UInt8} {j : Nat} (h : HeldAt Ms S j P) (e : S ++ T = Ms.flatten) : P.length ≤ Ms.flatten.length ∧ S.length ≤ Ms.flatten.length := by
  have h1 : S.length ≤ Ms.flatten.length := by rw [← e,List.length_append]; (exact Nat.le_add_right _ _)
  have h2 : S.length = ((Ms.take j).flatten).length + P.length := by rw [← h.2,List.length_append]
  exact ⟨by exact q197 h1 h2,h1⟩
inductive LJ3 (vs : List V) (As ps : List (List UInt8)) (cx tl : Addr) (jc2 : Nat) (C : List Int) (ν : Mu) (sc o1 o3 o4 o5 o6 o8 o9 o10 o11 o12 o13 o14 o15 o17 o18 o22 : Option V) (i : Nat) (μ : Mu) (ℓ : Loc) : Prop
  | mk (j : Nat) (P : List UInt8) (o20 o21 : Option V) (h0 : HeldAt As ((ps.take i).flatten) j P) (h1 : ¬ FullAt As j P) (h2 : μ = bxC cx C jc2 :: (tl,.list (vs.take j)) :: ν) (h3 : ℓ = [sc,o1,some (.val (.ref cx)),o3,o4,o5,o6,some (.lst vs),o8,o9,o10,o11,o12,o13,o14,o15,some (.bytes P),o17,o18,some (.bytes As.flatten),o20,o21,o22,some (.val (.ref tl))]) : LJ3 vs As ps cx tl jc2 C ν sc o1 o3 o4 o5 o6 o8 o9 o10 o11 o12 o13 o14 o15 o17 o18 o22 i μ ℓ
inductive LW3 (vs : List V) (As ps : List (List UInt8)) (p : List UInt8) (i : Nat) (I : Addr) (ob : Ce) (cx tl : Addr) (jc2 : Nat) (C : List Int) (ν : Mu) (sc o1 o3 o4 o5 o6 o8 o9 o10 o11 o12 o13 o14 o15 o17 o18 o22 : Option V) (m : Nat) (μ : Mu) (ℓ : Loc) : Prop
  | mk (j : Nat) (P : List UInt8) (msg : V) (h0 : m = As.length - j) (h1 : HeldAt As ((ps.take (i + 1)).flatten) j P) (h2 : WholeV As ((ps.take (i + 1)).flatten) (FindA vs As) j P msg) (h3 : μ = (I,ob) :: bxC cx C jc2 :: (tl,.list (vs.take j)) :: ν) (h4 : ℓ = [sc,o1,some (.val (.ref cx)),o3,o4,o5,o6,some (.lst vs),o8,o9,o10,o11,o12,o13,o14,o15,some (.bytes P),o17,o18,some (.bytes As.flatten),some (.bytes p),some msg,o22,some (.val (.ref tl))]) : LW3 vs As ps p i I ob cx tl jc2 C ν sc o1 o3 o4 o5 o6 o8 o9 o10 o11 o12 o13 o14 o15 o17 o18 o22 m μ ℓ
section
variable {W : Wd} (hK : Kn W.K)
include hK
theorem law_3 {Φ : Fx} {k : Nat} (hn : Φ.n = 7) {cx : Addr} {C : List Int} {jc : Nat} {μ ν : Mu} {vs : List V} {As : List (List UInt8)} {sc o1 o3 o4 o5 o6 o8 o9 o10 o11 o12 o13 o14 o15 o17 o18 o20 o21 o22 : Option V} (hC : C.length ≤ 1000) (hjc : jc ≤ C.length) (hm : Take (bxC cx C jc) μ ν) (hT : Told vs As vs.length) (hv4 : vs.length ≤ 4) {Q : Fl → Mu → Loc → Prop} (hQ : ∀ μ ℓ,Q (.ret (.bool true)) μ ℓ) :
    vg W Φ lwN lwG (k + 60) (.s ((fB (stAt 55)).drop 17) Q) μ [sc,o1,some (.val (.ref cx)),o3,o4,o5,o6,some (.lst vs),o8,o9,o10,o11,o12,o13,o14,o15,some (.bytes []),o17,o18,some (.bytes As.flatten),o20,o21,o22,none] := by
  have hM := told_msgs hT rfl;have hfl := hT.flat (Nat.le_refl _);refine x_List ?_;refine va ?_;refine ⟨Nat.le_of_ble_eq_true rfl,fun tl => ?_⟩;refine st_ 23 ?_;refine vfe ?_;refine ng_ 8 ?_;refine kf (kp_867 hK) ?_;refine nl 19 ?_;refine nl 2 ?_;refine xl_lstT ?_;refine xl_use (pieces_spec hK (b := cx) (xs := C) (i := jc) (S := As.flatten) hjc hC (by exact q198 hv4 hfl)) (.cons (.there hm) .nil) hn ?_;rintro v _ xC2_; apply gG;intro nG;obtain ⟨pl,jc2,ps,rfl,hjc2,hps,hpl,rfl⟩ := xC2_
  apply nG;clear nG;refine ⟨pl,_,_,rfl,.there .here,?_⟩;refine ⟨ps.map V.bytes,LJ3 vs As ps cx tl jc2 C ν sc o1 o3 o4 o5 o6 o8 o9 o10 o11 o12 o13 o14 o15 o17 o18 o22,it_lst,⟨0,[],_,_,.start,not_full hM,rfl,rfl⟩,?_,?_⟩
  · rintro i v I ob _ _ hv xC7_; apply gG;intro nG;obtain ⟨j,P,o20,o21,hH,hF,rfl,rfl⟩ := xC7_
    rw [List.getElem?_map] at hv;obtain ⟨p,hp,rfl⟩ := Option.map_eq_some_iff.mp hv;apply nG;clear nG;have hS := pieces_next hp;have hH' := hH.more (p := p);rw [← hS] at hH';have hST : (ps.take (i + 1)).flatten ++ (ps.drop (i + 1)).flatten = As.flatten := by rw [flat_take_drop,hps]
    have hll := held_le hH' hST;rw [List.length_append] at hll;refine an 20 ?_;refine nl 16 ?_;refine nl 20 ?_;refine o_add_bytes (by exact q199 hv4 hfl hll) ?_;refine st_ 16 ?_;refine ng_ 9 ?_;refine kf (kp_834 hK) ?_;refine nl 16 ?_;refine xl_use (whole_at hK hM (by decide) hH' hST (by exact q200 hv4 hfl)) .nil hn ?_;rintro msg _ ⟨hW,rfl⟩;refine st_ 21 ?_;refine vw (LW3 vs As ps p i I ob cx tl jc2 C ν sc o1 o3 o4 o5 o6 o8 o9 o10 o11 o12 o13 o14 o15 o17 o18 o22) (As.length - j) ⟨j,P ++ p,msg,rfl,hH',hW,rfl,rfl⟩ ?_;rintro m _ _ xC3_; apply gG;intro nG;obtain ⟨j,P,msg,rfl,hH,hW,rfl,rfl⟩ := xC3_
    apply nG;clear nG
    (apply gG;intro nG; rcases hW with ⟨hF,rfl⟩ | ⟨M,rest,r,hMj,rfl,hH2,hR,hr,rfl⟩ <;> refine nG ?_ <;> clear nG)
    · refine nl 21 ?_;refine if_f rfl ?_;exact ⟨_,List.Perm.refl _,j,P,_,_,hH,hF,rfl,rfl⟩
    · apply gG;intro nG
      obtain ⟨v,held,before,ks,A,hdj,hAj,hA,hTB,hS2,hS1⟩ := hR;apply nG;clear nG;rw [hMj] at hAj;cases hAj;have hjl := (List.getElem?_eq_some_iff.mp hMj).1;have hll := held_le hH hST;rw [List.length_append] at hll;have htk : vs.take (j + 1) = vs.take j ++ [.tup [.bool held,.int before,.lst (ks.map fun x => .tup (bV x))]] := by rw [List.take_add_one,hdj,hA.eq]; rfl
      refine nl 21 ?_;refine if_t rfl ?_;refine nl 21 ?_;refine ⟨.tup,?_⟩;refine s_tup (by decide) (by decide) rfl ?_;refine if_f (by rfl) ?_;refine nl 23 ?_;refine m_append (by repeat' constructor) ?_;refine ⟨.inr rfl,?_⟩;refine ng_ 12 ?_;refine kf (kp_855 hK) ?_;refine nl 21 ?_;refine ⟨.tup,?_⟩;refine s_tup (by decide) (by decide) rfl ?_;refine xl_eq (told_spec hK hTB hS2 hS1 (by exact q201 hv4 hfl hll) (by exact q189 hr) (by have := hA.few; (exact Nat.le_trans (by assumption) (by decide)))) (by repeat' constructor) hn ?_;refine l_append (l := vs.take j) (by rw [List.length_take]; exact q155 hv4) (by repeat' constructor) ?_;rw [← htk];refine nl 21 ?_;refine ⟨.tup,?_⟩;refine s_tup (by decide) (by decide) rfl ?_;refine st_ 16 ?_;refine ng_ 9 ?_;refine kf (kp_834 hK) ?_;refine nl 16 ?_;refine xl_use (whole_at hK hM (by decide) hH2 hST (by exact q200 hv4 hfl)) .nil hn ?_;rintro msg _ ⟨hW,rfl⟩;refine st_ 21 ?_;exact ⟨As.length - (j + 1),by exact q192 hjl,j + 1,rest,msg,rfl,hH2,hW,rfl,rfl⟩
  · rintro _ _ xC2_; apply gG;intro nG;obtain ⟨j,P,o20,o21,hH,hF,rfl,rfl⟩ := xC2_
    rw [List.length_map,List.take_length] at hH;obtain ⟨rfl,rfl⟩ := hH.last hps hF;apply nG;clear nG;rw [hT.1,List.take_length];refine nf 23 (.there .here) ?_;refine nl 7 ?_;refine c_eq_self (told_dat hT) ?_;refine if_t rfl ?_;refine nl 16 ?_;refine c_eq_bytes ?_;exact hQ _ _
end
end
section
open PySem PySem.W PyProof.Rows PySem.Calls
theorem ends_yes {E : List Nat} {n c : Nat} (h : n < E.length) (hc : E[n] ≤ c) : (E.take (n + 1)).filter (fun e => decide (e ≤ c)) = (E.take n).filter (fun e => decide (e ≤ c)) ++ [E[n]] := by
  rw [List.take_add_one,List.getElem?_eq_getElem h,List.filter_append];show _ ++ [E[n]].filter _ = _;rw [List.filter_cons,if_pos (decide_eq_true hc),List.filter_nil]
theorem ends_no {E : List Nat} {n c : Nat} (h : n < E.length) (hc : ¬ E[n] ≤ c) : (E.take (n + 1)).filter (fun e => decide (e ≤ c)) = (E.take n).filter (fun e => decide (e ≤ c)) := by
  rw [List.take_add_one,List.getElem?_eq_getElem h,List.filter_append];show _ ++ [E[n]].filter _ = _;rw [List.filter_cons,if_neg (by rw [decide_eq_false hc]; decide),List.filter_nil,List.append_nil]
noncomputable def FindQ (T : Talk) (j r : Nat) : Prop := ∃ q M,T[j]? = some (q,M) ∧ AskB M (4 + r) q.what q.x q.w
theorem ask_msgs {T : Talk} (h : T.Ok) : ∀ j M,T.m[j]? = some M → ∃ r,MsgAt M [65,83,75,83] r ∧ FindQ T j r := fun j M hM => by
  unfold Talk.m at hM;rw [List.getElem?_map] at hM;apply gG;intro nG
  obtain ⟨⟨q,M'⟩,ht,rfl⟩ := Option.map_eq_some_iff.mp hM;obtain ⟨⟨h1,h2,h3,h4⟩,h5,_⟩ := h _ (List.mem_of_getElem? ht);obtain ⟨r,hr,ha⟩ := ask_msg h5 h1 h2 h3 h4;apply nG;clear nG;exact ⟨r,hr,q,M',ht,ha⟩
inductive LJ2 (T : Talk) (ps : List (List UInt8)) (a2 bx cx al d cc : Addr) (jc : Nat) (C : List Int) (sc o3 o10 o12 o13 : Option V) (i : Nat) (μ : Mu) (ℓ : Loc) : Prop
  | mk (j : Nat) (P : List UInt8) (e : Addr) (As : List (List UInt8)) (μ2 G : Mu) (o11 o14 o15 o20 o21 o22 : Option V) (h0 : HeldAt T.m ((ps.take i).flatten) j P) (h1 : ¬ FullAt T.m j P) (h2 : (e == sysModules) = false) (h3 : Told (duesOf T.q) As j) (h4 : BSt a2 μ2) (h5 : (bxC cx C jc :: (e,.dict (dV (mapOf (T.q.take j)))) :: (al,.list ((T.q.take j).map Qn.v)) :: (μ2 ++ ([(d,.dict (dV (mapOf T.q))),(cc,.cell (some (.int (((ps.take i).flatten).length : Nat))))] ++ G))).Perm μ) (h6 : ℓ = [sc,some (.val (.ref bx)),some (.val (.ref cx)),o3,some (.val (.ref a2)),some (.val (.ref d)),some (.lst (T.q.map Qn.v)),some (.lst (duesOf T.q)),some (.bytes T.m.flatten),some (.lst ((endsOf T.m).map fun e : Nat => V.int (e : Nat))),o10,o11,o12,o13,o14,o15,some (.bytes P),some (.val (.ref al)),some (.val (.ref e)),some (.bytes As.flatten),o20,o21,o22,none]) : LJ2 T ps a2 bx cx al d cc jc C sc o3 o10 o12 o13 i μ ℓ
inductive LW2 (T : Talk) (ps : List (List UInt8)) (p : List UInt8) (i : Nat) (I : Addr) (ob : Ce) (a2 bx cx al d cc : Addr) (jc : Nat) (C : List Int) (sc o3 o10 o12 o13 : Option V) (m : Nat) (μ : Mu) (ℓ : Loc) : Prop
  | mk (j : Nat) (P : List UInt8) (msg : V) (e : Addr) (As : List (List UInt8)) (μ2 G : Mu) (o11 o14 o15 o22 : Option V) (h0 : m = T.length - j) (h1 : HeldAt T.m ((ps.take (i + 1)).flatten) j P) (h2 : WholeV T.m ((ps.take (i + 1)).flatten) (FindQ T) j P msg) (h3 : (e == sysModules) = false) (h4 : Told (duesOf T.q) As j) (h5 : BSt a2 μ2) (h6 : ((I,ob) :: bxC cx C jc :: (e,.dict (dV (mapOf (T.q.take j)))) :: (al,.list ((T.q.take j).map Qn.v)) :: (μ2 ++ ([(d,.dict (dV (mapOf T.q))),(cc,.cell (some (.int (((ps.take (i + 1)).flatten).length : Nat))))] ++ G))).Perm μ) (h7 : ℓ = [sc,some (.val (.ref bx)),some (.val (.ref cx)),o3,some (.val (.ref a2)),some (.val (.ref d)),some (.lst (T.q.map Qn.v)),some (.lst (duesOf T.q)),some (.bytes T.m.flatten),some (.lst ((endsOf T.m).map fun e : Nat => V.int (e : Nat))),o10,o11,o12,o13,o14,o15,some (.bytes P),some (.val (.ref al)),some (.val (.ref e)),some (.bytes As.flatten),some (.bytes p),some msg,o22,none]) : LW2 T ps p i I ob a2 bx cx al d cc jc C sc o3 o10 o12 o13 m μ ℓ
section
variable {W : Wd} (hK : Kn W.K)
include hK
theorem law_2 {Φ : Fx} {k : Nat} {cc : Addr} (hn : Φ.n = 7) (hcm : Φ.env.kindOf "came" = some .cell ∧ Φ.env.cells.lookup ("came" : Str) = some cc) {T : Talk} {a1 a2 bx cx ql dl el d : Addr} {g1 g2 : Addr × Ce} {μ1 μ2 ν : Mu} {C : List Int} {sc o3 o10 o11 o12 o13 o14 o15 : Option V} (hT : T.Ok) (hl : T.length ≤ 4) (hC : C.length ≤ 1000) (hd : (d == sysModules) = false) (hB1 : BSt a1 μ1) (hB2 : BSt a2 μ2) {Q : Fl → Mu → Loc → Prop} (hQ : ∀ μ ℓ,Q (.ret (.bool true)) μ ℓ) :
    vg W Φ lwN lwG (k + 80) (.s ((fB (stAt 55)).drop 10) Q) (g1 :: g2 :: (μ1 ++ (μ2 ++ ([bxC cx C 0,(ql,.list (T.q.map Qn.v)),(dl,.list (duesOf T.q)),(el,.list ((endsOf T.m).map fun e : Nat => V.int (e : Nat))),(d,.dict (dV (mapOf T.q))),(cc,.cell none)] ++ ν)))) [sc,some (.val (.ref bx)),some (.val (.ref cx)),o3,some (.val (.ref a2)),some (.val (.ref d)),some (.val (.ref ql)),some (.val (.ref dl)),some (.bytes T.m.flatten),some (.val (.ref el)),o10,o11,o12,o13,o14,o15,none,none,none,none,none,none,none,none] := by
  have hM := ask_msgs hT;have hfl := hT.flat;have hTl := T.q_len;have hml := T.m_len;have hdl := duesOf_len T.q;apply gG;intro nG
  obtain ⟨ba1,cv1,oe1,vt1,fin1,ne1,pre1,tail1,ma1,vne1,rfl,hz1⟩ := hB1;obtain ⟨ba2,cv2,oe2,vt2,fin2,ne2,pre2,tail2,ma2,vne2,rfl,hz2⟩ := hB2;apply nG;clear nG;refine st_ 16 ?_;refine sc_ hcm (by repeat' constructor) ?_;refine x_relab 6 (by repeat' constructor) ?_;refine x_relab 7 (by repeat' constructor) ?_;refine x_relab 9 (by repeat' constructor) ?_;refine x_perm (Sel.perm (ν := g1 :: g2 :: ([(a1,.inst 693 (bsl ba1 cv1 fin1 (pre1.length : Nat) ma1 ne1 oe1 vne1 vt1)),(ba1,.ba (pre1 ++ tail1))] ++ ν)) (l := [bxC cx C 0,(a2,.inst 693 (bsl ba2 cv2 fin2 (pre2.length : Nat) ma2 ne2 oe2 vne2 vt2)),(ba2,.ba (pre2 ++ tail2)),(d,.dict (dV (mapOf T.q))),(cc,.cell (some (.int 0)))]) (by repeat' constructor)) ?_;refine x_List ?_;refine va ?_;refine ⟨Nat.le_of_ble_eq_true rfl,fun al => ?_⟩;refine st_ 17 ?_;refine x_Dict1 (fun e0 he0 => ?_);refine st_ 18 ?_;refine st_ 19 ?_;refine vfe ?_;refine ng_ 8 ?_;refine kf (kp_867 hK) ?_;refine nl 8 ?_;refine nl 2 ?_;refine xl_lstT ?_;refine xl_use (pieces_spec hK (b := cx) (xs := C) (i := 0) (S := T.m.flatten) (Nat.zero_le _) hC (by exact q178 hl hfl)) (.cons (by repeat' constructor) .nil) hn ?_;rintro v _ xC2_; apply gG;intro nG;obtain ⟨pl,jc,ps,rfl,hjc,hps,hpl,rfl⟩ := xC2_
  apply nG;clear nG;refine ⟨pl,_,_,rfl,.there .here,?_⟩;refine ⟨ps.map V.bytes,LJ2 T ps a2 bx cx al d cc jc C sc o3 o10 o12 o13,it_lst,⟨0,[],e0,[],_,g1 :: g2 :: ([(a1,.inst 693 (bsl ba1 cv1 fin1 (pre1.length : Nat) ma1 ne1 oe1 vne1 vt1)),(ba1,.ba (pre1 ++ tail1))] ++ ν),_,_,_,_,_,_,.start,not_full hM,he0,.nil,⟨ba2,cv2,oe2,vt2,fin2,ne2,pre2,tail2,ma2,vne2,rfl,hz2⟩,List.Perm.refl _,rfl⟩,?_,?_⟩
  ·
    rintro i v I ob _ _ hv xC7_; apply gG;intro nG;obtain ⟨j,P,e,As,μ2,G,o11,o14,o15,o20,o21,o22,hH,hF,he,hTo,hB2,hp,rfl⟩ := xC7_
    obtain ⟨ba2,cv2,oe2,vt2,fin2,ne2,pre2,tail2,ma2,vne2,rfl,hz2⟩ := hB2;rw [List.getElem?_map] at hv;obtain ⟨p,hp',rfl⟩ := Option.map_eq_some_iff.mp hv;apply nG;clear nG;have hS := pieces_next hp';have hH' := hH.more (p := p);rw [← hS] at hH';have hST : (ps.take (i + 1)).flatten ++ (ps.drop (i + 1)).flatten = T.m.flatten := by rw [flat_take_drop,hps]
    have hll := held_le hH' hST;rw [List.length_append] at hll;have hSl := hll.2;rw [hS,List.length_append] at hSl;refine an 20 ?_;refine x_perm (List.Perm.cons _ hp) ?_;refine nl 16 ?_;refine nl 20 ?_;refine o_add_bytes (by exact q179 hl hfl hll) ?_;refine st_ 16 ?_;refine nc hcm (by repeat' constructor) ?_;refine ng_ 7 ?_;refine kb ?_;refine nl 20 ?_;refine l_len_bytes (by exact q180 hl hfl hll) ?_;refine o_addc (c := (((ps.take (i + 1)).flatten).length : Nat)) (by rw [hS,List.length_append]; exact q30) ?_;refine sc_ hcm (by repeat' constructor) ?_;refine ng_ 9 ?_;refine kf (kp_834 hK) ?_;refine nl 16 ?_;refine xl_use (whole_at hK hM (by decide) hH' hST (by exact q181 hl hfl)) .nil hn ?_;rintro msg _ ⟨hW,rfl⟩;refine st_ 21 ?_;refine vw (LW2 T ps p i I ob a2 bx cx al d cc jc C sc o3 o10 o12 o13) (T.length - j) ⟨j,P ++ p,msg,e,As,_,G,_,_,_,_,rfl,hH',hW,he,hTo,⟨ba2,cv2,oe2,vt2,fin2,ne2,pre2,tail2,ma2,vne2,rfl,hz2⟩,List.Perm.refl _,rfl⟩ ?_;rintro m _ _ xC3_; apply gG;intro nG;obtain ⟨j,P,msg,e,As,μ2,G,o11,o14,o15,o22,rfl,hH,hW,he,hTo,hB2,hp,rfl⟩ := xC3_
    obtain ⟨ba2,cv2,oe2,vt2,fin2,ne2,pre2,tail2,ma2,vne2,rfl,hz2⟩ := hB2;apply nG;clear nG
    (apply gG;intro nG; rcases hW with ⟨hF,rfl⟩ | ⟨M,rest,r,hMj,rfl,hH2,hR,hr,rfl⟩ <;> refine nG ?_ <;> clear nG)
    · refine x_perm hp ?_;refine nl 21 ?_;refine if_f rfl ?_;refine ng_ 7 ?_;refine kb ?_;refine nl 17 ?_;refine l_len_listV (.list (by repeat' constructor)) (by rw [List.length_map,List.length_take]; exact q182 hl hTl) ?_;refine ng_ 7 ?_;refine kb ?_;refine x_compF (gs' := []) (ca := fun u_ => cc) compOk_list (free_of (P := fun x => Φ.env.kindOf x = some .cell ∧ Φ.env.cells.lookup x = some cc) ["came"] fun x hx => by rw [List.mem_singleton.mp hx]; exact hcm) acc_list ?_;refine nl 9 ?_;refine ⟨[],(endsOf T.m).map fun e : Nat => V.int (e : Nat),fun acc n μ => μ = (acc,Ce.list ((((endsOf T.m).take n).filter fun e => decide (e ≤ ((ps.take (i + 1)).flatten).length)).map fun e : Nat => V.int (e : Nat))) :: (I,ob) :: bxC cx C jc :: (e,.dict (dV (mapOf (T.q.take j)))) :: (al,.list ((T.q.take j).map Qn.v)) :: (bB a2 ba2 cv2 fin2 pre2 tail2 ma2 ne2 oe2 vne2 vt2 ++ ([(d,.dict (dV (mapOf T.q))),(cc,.cell (some (.int (((ps.take (i + 1)).flatten).length : Nat))))] ++ G)),itC_lst,fun acc u_ => rfl,fun u_ u_ u_ u_ p h => absurd h (List.not_mem_nil),?_,?_⟩
      · rintro acc n v I' ob' _ Φ' hv rfl hn' hcf;have hc' := hcf (Str.ofString "came",.free) (by simp) rfl;have hni : n < (endsOf T.m).length := by have := (List.getElem?_eq_some_iff.mp hv).1; rwa [List.length_map] at this
        rw [List.getElem?_map,List.getElem?_eq_getElem hni] at hv;cases hv;refine tl_one (vt ?_);refine nl 0 ?_;refine nc hc' (by repeat' constructor) ?_;refine if_s (fun h1 => ?_) (fun h1 => ?_)
        · have h2 : (endsOf T.m)[n] ≤ ((ps.take (i + 1)).flatten).length := Int.ofNat_le.mp (of_decide_eq_true h1);refine ve ?_;refine nl 0 ?_;refine ⟨_,_,?_,(by repeat' constructor),?_⟩
          · rw [List.length_map]; have h3 := List.length_filter_le (fun e => decide (e ≤ ((ps.take (i + 1)).flatten).length)) ((endsOf T.m).take n); rw [List.length_take] at h3; have := endsOf_len T.m; exact q183 hl hml h3 this
          · refine ⟨_,List.Perm.refl _,?_,_,rfl⟩;show ((acc,Ce.list _) :: _ : Mu) = (acc,Ce.list _) :: _;rw [ends_yes hni h2,List.map_append]; rfl
        · have h2 : ¬ (endsOf T.m)[n] ≤ ((ps.take (i + 1)).flatten).length := fun h => of_decide_eq_false h1 (Int.ofNat_le.mpr h)
          refine ⟨_,List.Perm.refl _,?_,_,rfl⟩;show ((acc,Ce.list _) :: _ : Mu) = (acc,Ce.list _) :: _;rw [ends_no hni h2]
      rintro acc _ rfl;rw [show ((endsOf T.m).map fun e : Nat => V.int (e : Nat)).length = (endsOf T.m).length from List.length_map ..,List.take_length];refine l_len_listV (.list (by repeat' constructor)) (by have h3 := List.length_filter_le (fun e => decide (e ≤ ((ps.take (i + 1)).flatten).length)) (endsOf T.m); rw [List.length_map]; have := endsOf_len T.m; exact q184 hl hml h3 this) ?_;have hcnt := hH.count hF;have hj1 := hH.1;rw [List.length_map,List.length_map,hcnt,List.length_take,Nat.min_eq_left (by exact q185 hTl hml hj1)];refine if_f (by simp) ?_;refine ⟨_,List.Perm.swap _ _ _,j,P,e,As,_,(acc,Ce.list (((endsOf T.m).filter fun e => decide (e ≤ ((ps.take (i + 1)).flatten).length)).map fun e : Nat => V.int (e : Nat))) :: G,_,_,_,_,_,_,hH,hF,he,hTo,⟨ba2,cv2,oe2,vt2,fin2,ne2,pre2,tail2,ma2,vne2,rfl,hz2⟩,?_,rfl⟩;refine Sel.perm (l := [bxC cx C jc,(e,.dict (dV (mapOf (T.q.take j)))),(al,.list ((T.q.take j).map Qn.v)),(a2,.inst 693 (bsl ba2 cv2 fin2 (pre2.length : Nat) ma2 ne2 oe2 vne2 vt2)),(ba2,.ba (pre2 ++ tail2)),(d,.dict (dV (mapOf T.q))),(cc,.cell (some (.int (((ps.take (i + 1)).flatten).length : Nat))))]) ?_
      repeat' constructor
    · apply gG;intro nG
      obtain ⟨q,M',ht,hAB⟩ := hR;apply nG;clear nG;have hM' : T.m[j]? = some M' := by unfold Talk.m; rw [List.getElem?_map,ht]; rfl
      rw [hMj] at hM';cases hM';have hq : T.q[j]? = some q := by unfold Talk.q; rw [List.getElem?_map,ht]; rfl
      have hjl : j < T.length := (List.getElem?_eq_some_iff.mp ht).1;have hll := held_le hH hST;rw [List.length_append] at hll;have hq1 : T.q.take (j + 1) = T.q.take j ++ [q] := by rw [List.take_add_one,hq]; rfl
      have hqv : (T.q.take (j + 1)).map Qn.v = (T.q.take j).map Qn.v ++ [.tup [.int (q.what : Nat),.tup (bV q.x),.int q.w]] := by rw [hq1,List.map_append]; rfl
      have hdj := duesOf_at hq;apply gG;intro nG
      obtain ⟨held,before,ks,hA⟩ := ans_is (qs := T.q.take j) (q := q) (fun q hq => hT.qs q (List.mem_of_mem_take hq)) (by rw [List.length_take]; (exact q186 hl hjl));apply nG;clear nG;have hAf := hTo.flat (by exact q187 hTl hdl hjl);refine x_perm hp ?_;refine nl 21 ?_;refine if_t rfl ?_;refine nl 21 ?_;refine ⟨.tup,?_⟩;refine s_tup (by decide) (by decide) rfl ?_;refine if_f (by rfl) ?_;refine ng_ 10 ?_;refine kf (kp_848 hK) ?_;refine nl 21 ?_;refine ⟨.tup,?_⟩;refine s_tup (by decide) (by decide) rfl ?_;refine xl_eq (asked_spec hK (what := (q.what : Nat)) hAB (by exact q188 hl hfl hll) (by exact q189 hr)) (by repeat' constructor) hn ?_;refine a_tuple (xa_cons (an 11 (xa_cons (an 22 (xa_cons (an 14 (xa_nil ?_)))))));refine nl 17 ?_;refine m_append (by repeat' constructor) ?_;refine ⟨.inr rfl,?_⟩;refine nl 11 ?_;refine nl 22 ?_;refine nl 14 ?_;refine ⟨Nat.le_of_ble_eq_true rfl,?_⟩;refine l_append (l := (T.q.take j).map Qn.v) (by rw [List.length_map,List.length_take]; (exact q190 hl hjl)) (by repeat' constructor) ?_;rw [← hqv];refine ng_ 4 ?_;refine kf (kp_860 hK) ?_;refine nl 18 ?_;refine nl 11 ?_;refine nl 22 ?_;refine nl 14 ?_;refine xl_use (served_q hK (d := e) (qs := T.q.take j) (q := q) he (by rw [List.length_take]; (exact q186 hl hjl))) (by repeat' constructor) hn ?_;rintro v _ xC2_; apply gG;intro nG;obtain ⟨e2,rfl,he2,rfl⟩ := xC2_
      apply nG;clear nG;refine a_tuple (xa_cons (an 15 (xa_cons (an 18 (xa_nil ?_)))));rw [← hq1,hA.eq];refine nl 19 ?_;refine ng_ 11 ?_;refine kf (kp_827 hK) ?_;refine nl 4 ?_;refine nl 15 ?_;refine ⟨.tup,?_⟩;refine s_tup (by decide) (by decide) rfl ?_;refine nl 15 ?_;refine ⟨.tup,?_⟩;refine s_tup (by decide) (by decide) rfl ?_;refine nl 15 ?_;refine ⟨.tup,?_⟩;refine s_tup (by decide) (by decide) rfl ?_;refine xl_use (answer_spec hK (ks := ks) ⟨ba2,cv2,oe2,vt2,fin2,ne2,pre2,tail2,ma2,vne2,rfl,hz2⟩ hA.low hA.high hA.few hA.short) (by repeat' constructor) hn ?_;rintro v _ xC2_; apply gG;intro nG;obtain ⟨A,rfl,hAt,hAl,hB2⟩ := xC2_
      obtain ⟨ba3,cv3,oe3,vt3,fin3,ne3,pre3,tail3,ma3,vne3,rfl,hz3⟩ := hB2;apply nG;clear nG;refine o_add_bytes (by exact q191 hl hjl hAf hAl) ?_;refine st_ 19 ?_;refine nl 21 ?_;refine ⟨.tup,?_⟩;refine s_tup (by decide) (by decide) rfl ?_;refine st_ 16 ?_;refine ng_ 9 ?_;refine kf (kp_834 hK) ?_;refine nl 16 ?_;refine xl_use (whole_at hK hM (by decide) hH2 hST (by exact q181 hl hfl)) .nil hn ?_;rintro msg _ ⟨hW,rfl⟩;refine st_ 21 ?_;refine ⟨T.length - (j + 1),by exact q192 hjl,j + 1,rest,msg,e2,As ++ [A],_,G,some (.int (q.what : Nat)),some (.int q.w),some (.tup [.bool held,.int before,.lst (ks.map fun x => .tup (bV x))]),some (.tup (bV q.x)),rfl,hH2,hW,he2,hTo.snoc hdj ⟨held,before,ks,hA,hAt,hAl⟩,⟨ba3,cv3,oe3,vt3,fin3,ne3,pre3,tail3,ma3,vne3,rfl,hz3⟩,?_,by rw [flat_snoc]; rfl⟩;refine Sel.perm (ν := G) (l := [(I,ob),bxC cx C jc,(e2,.dict (dV (mapOf (T.q.take (j + 1))))),(al,.list ((T.q.take (j + 1)).map Qn.v)),(a2,.inst 693 (bsl ba3 cv3 fin3 (pre3.length : Nat) ma3 ne3 oe3 vne3 vt3)),(ba3,.ba (pre3 ++ tail3)),(d,.dict (dV (mapOf T.q))),(cc,.cell (some (.int (((ps.take (i + 1)).flatten).length : Nat))))]) ?_
      repeat' constructor
  · rintro _ _ xC2_; apply gG;intro nG;obtain ⟨j,P,e,As,μ2,G,o11,o14,o15,o20,o21,o22,hH,hF,he,hTo,hB2,hp,rfl⟩ := xC2_
    obtain ⟨ba2,cv2,oe2,vt2,fin2,ne2,pre2,tail2,ma2,vne2,rfl,hz2⟩ := hB2;rw [List.length_map,List.take_length] at hH;obtain ⟨hjm,rfl⟩ := hH.last hps hF;apply nG;clear nG;have hj4 : j = T.length := by exact q193 hml hjm
    subst hj4;rw [List.take_of_length_le (show T.q.length ≤ T.length by exact q194 hTl)] at hp;refine x_perm hp ?_;refine nf 17 (by repeat' constructor) ?_;refine nl 6 ?_;refine c_ne_self (dat_qn _) ?_;refine if_f rfl ?_;refine nl 16 ?_;refine c_ne_bytes ?_;refine if_f rfl ?_;refine nl 18 ?_;refine nl 5 ?_;refine c_ne_dict he hd (by repeat' constructor) (by repeat' constructor) ?_;refine if_f rfl ?_;refine if_f rfl ?_;have hTo' : Told (duesOf T.q) As (duesOf T.q).length := by rw [hdl,hTl]; exact hTo
    exact law_3 hK hn (cx := cx) (jc := jc) hC hjc .here hTo' (by exact q195 hl hTl hdl) hQ
end
end
section
open PySem PySem.W PyProof.Rows PySem.Calls
inductive LJ1 (a1 a2 bx cx ql dl el cc r : Addr) (t u w : Tok) (r4 : Nat) (B C xs : List Int) (i : Nat) (μ : Mu) (ℓ : Loc) : Prop
  | mk (T : Talk) (j : Nat) (d : Addr) (μ1 μ2 ν : Mu) (o10 o11 o12 o13 o14 o15 : Option V) (h0 : T.Ok) (h1 : T.length = i) (h2 : j ≤ B.length) (h3 : (d == sysModules) = false) (h4 : BSt a1 μ1) (h5 : BSt a2 μ2) (h6 : μ = (r,.raw (rangeObj 0 ((1 + r4 : Nat) : Int) 1 t u w)) :: bxC bx B j :: (μ1 ++ (μ2 ++ ([bxC cx C 0,(ql,.list (T.q.map Qn.v)),(dl,.list (duesOf T.q)),(el,.list ((endsOf T.m).map fun e : Nat => V.int (e : Nat))),(d,.dict (dV (mapOf T.q))),(cc,.cell none)] ++ ν)))) (h7 : ℓ = [some (.lst (xs.map V.int)),some (.val (.ref bx)),some (.val (.ref cx)),some (.val (.ref a1)),some (.val (.ref a2)),some (.val (.ref d)),some (.val (.ref ql)),some (.val (.ref dl)),some (.bytes T.m.flatten),some (.val (.ref el)),o10,o11,o12,o13,o14,o15,none,none,none,none,none,none,none,none]) : LJ1 a1 a2 bx cx ql dl el cc r t u w r4 B C xs i μ ℓ
section
variable {W : Wd} (hK : Kn W.K)
include hK
theorem law_1 {Φ : Fx} {cc : Addr} (hn : Φ.n = 7) (hcm : Φ.env.kindOf "came" = some .cell ∧ Φ.env.cells.lookup ("came" : Str) = some cc) {xs : List Int} (hxs : xs.length ≤ 63) {Q : Fl → Mu → Loc → Prop} (hQ : ∀ μ ℓ,Q (.ret (.bool true)) μ ℓ) :
    vg W Φ lwN lwG 99 (.s (fB (stAt 55)) Q) [(cc,Ce.cell none)] [some (.lst (xs.map V.int)),none,none,none,none,none,none,none,none,none,none,none,none,none,none,none,none,none,none,none,none,none,none,none] := by
  refine x_ListR ?_;refine va ?_;refine nl 0 ?_;refine ⟨.lst,?_⟩;refine x2_lst ?_;refine s_cutList .lst .none .int (by rw [List.length_map]; (exact Nat.le_trans (by assumption) (by decide))) (fun a0 => ?_);refine ⟨_,_,_,rfl,rfl,?_⟩;rw [← List.map_drop,← List.map_take];have hB : ((xs.drop ((none : Option Int).elim 0 (clipAt (xs.map V.int).length))).take ((some (32 : Int)).elim (xs.map V.int).length (clipAt (xs.map V.int).length) - (none : Option Int).elim 0 (clipAt (xs.map V.int).length))).length ≤ 1000 := by rw [List.length_take,List.length_drop]; exact q229 hxs
  generalize (xs.drop ((none : Option Int).elim 0 (clipAt (xs.map V.int).length))).take ((some (32 : Int)).elim (xs.map V.int).length (clipAt (xs.map V.int).length) - (none : Option Int).elim 0 (clipAt (xs.map V.int).length)) = B at *;refine ⟨Nat.le_of_ble_eq_true rfl,fun bx => ?_⟩;refine st_ 1 ?_;refine x_ListR ?_;refine va ?_;refine nl 0 ?_;refine x_Rev (ve ?_);refine ⟨rfl,?_⟩;refine ⟨.lst,?_⟩;refine x2_lst ?_;refine s_rev .lst (by rw [List.length_map]; (exact Nat.le_trans (by assumption) (by decide))) (fun rv => ?_);refine ⟨_,_,_,rfl,rfl,?_⟩;refine ⟨.lst,?_⟩;refine x2_lst ?_;rw [← List.map_reverse];refine s_cutList .lst .none .int (by rw [List.length_map,List.length_reverse]; exact q230 hxs) (fun a1 => ?_);refine ⟨_,_,_,rfl,rfl,?_⟩;rw [← List.map_drop,← List.map_take];have hC : ((xs.reverse.drop ((none : Option Int).elim 0 (clipAt (xs.reverse.map V.int).length))).take ((some (16 : Int)).elim (xs.reverse.map V.int).length (clipAt (xs.reverse.map V.int).length) - (none : Option Int).elim 0 (clipAt (xs.reverse.map V.int).length))).length ≤ 1000 := by rw [List.length_take,List.length_drop,List.length_reverse]; exact q229 hxs
  generalize (xs.reverse.drop ((none : Option Int).elim 0 (clipAt (xs.reverse.map V.int).length))).take ((some (16 : Int)).elim (xs.reverse.map V.int).length (clipAt (xs.reverse.map V.int).length) - (none : Option Int).elim 0 (clipAt (xs.reverse.map V.int).length)) = C at *;refine ⟨Nat.le_of_ble_eq_true rfl,fun cx => ?_⟩;refine st_ 2 ?_;refine ng_ 0 ?_;refine kf (kp_693 hK) ?_;refine x_ListF ?_;refine va ?_;refine ⟨Nat.le_of_ble_eq_true rfl,?_⟩;refine ng_ 1 ?_;refine kf (kp_808 hK) ?_;refine nl 1 ?_;refine xl_use (take_spec hK (b := bx) (xs := B) (i := 0) (m := 3) (by decide) (Nat.zero_le _) hB) (by repeat' constructor) hn ?_;rintro v _ xC2_; apply gG;intro nG;obtain ⟨r1,j1,rfl,hr1,hj1,rfl⟩ := xC2_
  obtain ⟨n1,n1z,n1e⟩ := three hr1;apply nG;clear nG;refine ⟨.lst,?_⟩;refine s_lst (by (first | with_reducible exact Int.natCast_nonneg _ | with_reducible exact nn31 | lia)) (by exact q231 hr1) (by rw [Int.toNat_natCast]; exact n1e) ?_;refine l_make (mk_B hK) (mB_init hK) (fun a => (init_spec hK (n := n1) n1z).le (by decide)) hn (fun a1 μ' h => ?_);apply gG;intro nG
  obtain ⟨ba1,ta1,pa1,ea1,rfl⟩ := h;apply nG;clear nG;refine st_ 3 ?_;refine ng_ 0 ?_;refine kf (kp_693 hK) ?_;refine x_ListF ?_;refine va ?_;refine ⟨Nat.le_of_ble_eq_true rfl,?_⟩;refine ng_ 1 ?_;refine kf (kp_808 hK) ?_;refine nl 1 ?_;refine xl_use (take_spec hK (b := bx) (xs := B) (i := j1) (m := 3) (by decide) hj1 hB) (by repeat' constructor) hn ?_;rintro v _ xC2_; apply gG;intro nG;obtain ⟨r2,j2,rfl,hr2,hj2,rfl⟩ := xC2_
  obtain ⟨n2,n2z,n2e⟩ := three hr2;apply nG;clear nG;refine ⟨.lst,?_⟩;refine s_lst (by (first | with_reducible exact Int.natCast_nonneg _ | with_reducible exact nn31 | lia)) (by exact q231 hr2) (by rw [Int.toNat_natCast]; exact n2e) ?_;refine l_make (mk_B hK) (mB_init hK) (fun a => (init_spec hK (n := n2) n2z).le (by decide)) hn (fun a2 μ' h => ?_);apply gG;intro nG
  obtain ⟨ba2,ta2,pa2,ea2,rfl⟩ := h;apply nG;clear nG;refine st_ 4 ?_;refine x_Dict1 (fun d0 hd0 => ?_);refine st_ 5 ?_;refine x_List ?_;refine va ?_;refine ⟨Nat.le_of_ble_eq_true rfl,fun ql => ?_⟩;refine st_ 6 ?_;refine x_List ?_;refine va ?_;refine ⟨Nat.le_of_ble_eq_true rfl,fun dl => ?_⟩;refine st_ 7 ?_;refine st_ 8 ?_;refine x_List ?_;refine va ?_;refine ⟨Nat.le_of_ble_eq_true rfl,fun el => ?_⟩;refine st_ 9 ?_;refine vfe ?_;refine x_perm (μ' := bxC bx B j2 :: (bB a1 ba1 .none false pa1 [] 1 false .none none ta1 ++ (bB a2 ba2 .none false pa2 [] 1 false .none none ta2 ++ [bxC cx C 0,(ql,Ce.list []),(dl,Ce.list []),(el,Ce.list []),(d0,Ce.dict []),(cc,Ce.cell none)]))) (Sel.perm (ν := []) (l := [bxC bx B j2,bI a1 ba1 .none false (pa1.length : Nat) 1 false .none none ta1,(ba1,.ba (pa1 ++ [])),bI a2 ba2 .none false (pa2.length : Nat) 1 false .none none ta2,(ba2,.ba (pa2 ++ [])),bxC cx C 0,(ql,Ce.list []),(dl,Ce.list []),(el,Ce.list []),(d0,Ce.dict []),(cc,Ce.cell none)]) (by repeat' constructor)) ?_;refine ng_ 2 ?_;refine kb ?_;refine ng_ 1 ?_;refine kf (kp_808 hK) ?_;refine nl 1 ?_;refine xl_use (take_spec hK (b := bx) (xs := B) (i := j2) (m := 4) (by decide) hj2 hB) (by repeat' constructor) hn ?_;rintro v _ xC2_; apply gG;intro nG;obtain ⟨r4,j4,rfl,hr4,hj4,rfl⟩ := xC2_
  apply nG;clear nG;refine o_addc (c := ((1 + r4 : Nat) : Int)) (by exact q118) ?_;refine l_range1 (fun r t u w => ?_);refine ⟨_,LJ1 a1 a2 bx cx ql dl el cc r t u w r4 B C xs,it_range1 (n := 1 + r4) (by repeat' constructor) (by exact q232 hr4),⟨[],j4,d0,bB a1 ba1 .none false pa1 [] 1 false .none none ta1,bB a2 ba2 .none false pa2 [] 1 false .none none ta2,[],none,none,none,none,none,none,(fun u_ h => nomatch h),rfl,hj4,hd0,⟨ba1,_,_,_,_,_,_,_,_,_,rfl,by rw [ea1]; simp; (exact Nat.le_trans (by assumption) (by decide))⟩,⟨ba2,_,_,_,_,_,_,_,_,_,rfl,by rw [ea2]; simp; (exact Nat.le_trans (by assumption) (by decide))⟩,rfl,rfl⟩,?_,?_⟩
  ·
    rintro i v I ob _ _ hv xC7_; apply gG;intro nG;obtain ⟨T,j,d,μ1,μ2,ν,o10,o11,o12,o13,o14,o15,hT,rfl,hj,hd,hB1,hB2,rfl,rfl⟩ := xC7_
    obtain ⟨ba,cv,oe,vt,fin,ne,pre,tail,ma,vne,rfl,hz⟩ := hB1;obtain ⟨ba2,cv2,oe2,vt2,fin2,ne2,pre2,tail2,ma2,vne2,rfl,hz2⟩ := hB2;apply nG;clear nG;have hi : T.length < 1 + r4 := by have := (List.getElem?_eq_some_iff.mp hv).1; rwa [List.length_map,List.length_range] at this
    have hTl := T.q_len;have hfl := hT.flat;refine an 10 ?_;refine ng_ 1 ?_;refine kf (kp_808 hK) ?_;refine nl 1 ?_;refine xl_use (take_spec hK (b := bx) (xs := B) (i := j) (m := 4) (by decide) hj hB) (by repeat' constructor) hn ?_;rintro v _ xC2_; apply gG;intro nG;obtain ⟨what,j5,rfl,hwh,hj5,rfl⟩ := xC2_
    apply nG;clear nG;refine st_ 11 ?_;refine ng_ 3 ?_;refine kf (kp_815 hK) ?_;refine nl 1 ?_;refine xl_use (text_spec hK (b := bx) (xs := B) (i := j5) hj5 hB) (by repeat' constructor) hn ?_;rintro v _ xC2_; apply gG;intro nG;obtain ⟨j6,ks,hj6,hks,hk4,rfl,rfl⟩ := xC2_
    apply nG;clear nG;refine a_tuple (xa_cons (an 12 (xa_cons (an 13 (xa_nil ?_)))));refine ng_ 1 ?_;refine kf (kp_808 hK) ?_;refine nl 1 ?_;refine xl_use (take_spec hK (b := bx) (xs := B) (i := j6) (m := 5) (by decide) hj6 hB) (by repeat' constructor) hn ?_;rintro v _ xC2_; apply gG;intro nG;obtain ⟨rw_,j7,rfl,hrw,hj7,rfl⟩ := xC2_
    apply nG;clear nG;refine o_mul (by exact (by decide)) ?_;refine st_ 14 ?_;refine ng_ 4 ?_;refine kf (kp_860 hK) ?_;refine nl 5 ?_;refine nl 11 ?_;refine ng_ 5 ?_;refine kb ?_;refine nl 13 ?_;apply gG;intro nG
    obtain ⟨wv,hwv⟩ : ∃ wv : Int,wv = (rw_ : Int) * 70000 - 140000 := ⟨_,rfl⟩
    apply nG;clear nG;rw [← hwv];refine l_tuple_list .lst (by rw [bV_ints]; unfold inz; rw [List.length_map,List.length_map]; have := octB_len ks; exact q233 hks this) ?_;refine nl 14 ?_;refine xl_use (served_q hK (d := d) (qs := T.q) (q := ⟨what,octB ks,wv⟩) hd (by exact q234 hr4 hi hTl)) (by repeat' constructor) hn ?_;rintro v _ xC2_; apply gG;intro nG;obtain ⟨d2,rfl,hd2,rfl⟩ := xC2_
    apply nG;clear nG;refine a_tuple (xa_cons (an 15 (xa_cons (an 5 (xa_nil ?_)))));refine nl 6 ?_;refine m_append (by repeat' constructor) ?_;refine ⟨.inr rfl,?_⟩;refine nl 11 ?_;refine ng_ 5 ?_;refine kb ?_;refine nl 13 ?_;refine l_tuple_list .lst (by rw [bV_ints]; unfold inz; rw [List.length_map,List.length_map]; have := octB_len ks; exact q233 hks this) ?_;refine nl 14 ?_;refine ⟨Nat.le_of_ble_eq_true rfl,?_⟩;refine l_append (l := T.q.map Qn.v) (by rw [List.length_map]; exact q235 hr4 hi hTl) (by repeat' constructor) ?_;refine nl 7 ?_;refine m_append (by repeat' constructor) ?_;refine ⟨.inr rfl,?_⟩;refine nl 15 ?_;refine l_append (l := duesOf T.q) (by rw [duesOf_len]; exact q235 hr4 hi hTl) (by repeat' constructor) ?_;refine nl 8 ?_;refine ng_ 6 ?_;refine kf (kp_822 hK) ?_;refine nl 3 ?_;refine nl 11 ?_;refine nl 12 ?_;refine nl 14 ?_;have ho : (octB ks).length ≤ 16 := by have := octB_len ks; exact q236 hks this
    refine xl_use (question_spec hK (what := what) (x := octB ks) (tx := textOf ks) (worth := wv) ⟨ba,cv,oe,vt,fin,ne,pre,tail,ma,vne,rfl,hz⟩ (enc_text hks hk4) ho (by exact q58 hwh) (by exact q237 hwv) (by exact q238 hrw hwv)) (by repeat' constructor) hn ?_;rintro v _ xC2_; apply gG;intro nG;obtain ⟨M,rfl,hM,hMl,hB1⟩ := xC2_
    obtain ⟨ba_,cv_,oe_,vt_,fin_,ne_,pre_,tail_,ma_,vne_,rfl,hz_⟩ := hB1;apply nG;clear nG;refine o_add_bytes (by exact q239 hr4 hi hfl hMl) ?_;refine st_ 8 ?_;refine nl 9 ?_;refine m_append (by repeat' constructor) ?_;refine ⟨.inr rfl,?_⟩;refine ng_ 7 ?_;refine kb ?_;refine nl 8 ?_;refine l_len_bytes (by rw [List.length_append]; exact q239 hr4 hi hfl hMl) ?_;refine l_append (l := (endsOf T.m).map fun e : Nat => V.int (e : Nat)) (by rw [List.length_map,endsOf_len,T.m_len]; exact q240 hr4 hi) (by repeat' constructor) ?_;have hT2 : Talk.Ok (T ++ [(⟨what,octB ks,wv⟩,M)]) := hT.snoc (t := (⟨what,octB ks,wv⟩,M)) ⟨by show what < 4; exact q58 hwh,ho,by show -(2 ^ 31) ≤ wv; exact q237 hwv,by show wv < 2 ^ 31; exact q238 hrw hwv⟩ hM hMl;refine ⟨[(r,.raw (rangeObj 0 ((1 + r4 : Nat) : Int) 1 t u w)),bxC bx B j7,bI a1 ba_ cv_ fin_ (pre_.length : Nat) ma_ ne_ oe_ vne_ vt_,(ba_,.ba (pre_ ++ tail_)),bI a2 ba2 cv2 fin2 (pre2.length : Nat) ma2 ne2 oe2 vne2 vt2,(ba2,.ba (pre2 ++ tail2)),bxC cx C 0,(ql,.list ((Talk.q (T ++ [(⟨what,octB ks,wv⟩,M)])).map Qn.v)),(dl,.list (duesOf (Talk.q (T ++ [(⟨what,octB ks,wv⟩,M)])))),(el,.list ((endsOf (Talk.m (T ++ [(⟨what,octB ks,wv⟩,M)]))).map fun e : Nat => V.int (e : Nat))),(d2,.dict (dV (mapOf (Talk.q (T ++ [(⟨what,octB ks,wv⟩,M)]))))),(cc,.cell none)] ++ ν,?_,T ++ [(⟨what,octB ks,wv⟩,M)],j7,d2,_,_,ν,some v,some (.int (what : Nat)),some (.str (textOf ks)),some (.lst (bV (octB ks))),some (.int (wv)),some (ansV T.q ⟨what,octB ks,wv⟩),hT2,by rw [List.length_append]; rfl,hj7,hd2,⟨ba_,_,_,_,_,_,_,_,_,_,rfl,hz_⟩,⟨ba2,_,_,_,_,_,_,_,_,_,rfl,hz2⟩,rfl,?_⟩
    · rw [Talk.q_snoc,Talk.m_snoc,duesOf_snoc,endsOf_snoc,List.map_append,List.map_append];refine Sel.perm (ν := ν) (l := [(I,ob),(r,.raw (rangeObj 0 ((1 + r4 : Nat) : Int) 1 t u w)),bxC bx B j7,bI a1 ba_ cv_ fin_ (pre_.length : Nat) ma_ ne_ oe_ vne_ vt_,(ba_,.ba (pre_ ++ tail_)),bI a2 ba2 cv2 fin2 (pre2.length : Nat) ma2 ne2 oe2 vne2 vt2,(ba2,.ba (pre2 ++ tail2)),bxC cx C 0,(ql,.list (T.q.map Qn.v ++ [Qn.v ⟨what,octB ks,wv⟩])),(dl,.list (duesOf T.q ++ [ansV T.q ⟨what,octB ks,wv⟩])),(el,.list (((endsOf T.m).map fun e : Nat => V.int (e : Nat)) ++ [V.int ((T.m.flatten ++ M).length : Nat)])),(d2,.dict (dV (mapOf (T.q ++ [⟨what,octB ks,wv⟩])))),(cc,.cell none)]) ?_;refine .cons (by repeat' constructor) ?_;refine .cons (by repeat' constructor) ?_;refine .cons (by repeat' constructor) ?_;refine .cons (by repeat' constructor) ?_;refine .cons (by repeat' constructor) ?_;refine .cons (by repeat' constructor) ?_;refine .cons (by repeat' constructor) ?_;refine .cons (by repeat' constructor) ?_;refine .cons (by repeat' constructor) ?_;refine .cons (by repeat' constructor) ?_;refine .cons (by repeat' constructor) ?_;refine .cons (by repeat' constructor) ?_;refine .cons (by repeat' constructor) ?_;exact .nil
    · rw [Talk.m_snoc,flat_snoc]; rfl
  ·
    rintro _ _ xC2_; apply gG;intro nG;obtain ⟨T,j,d,μ1,μ2,ν,o10,o11,o12,o13,o14,o15,hT,hTl,hj,hd,hB1,hB2,rfl,rfl⟩ := xC2_
    apply nG;clear nG;rw [List.length_map,List.length_range] at hTl;exact law_2 hK hn hcm hT (by exact q241 hr4 hTl) hC hd hB1 hB2 hQ
theorem law_spec {xs : List Int} (hxs : xs.length ≤ 63) : Spec W 8 (.ref 872) [.lst (xs.map V.int)] [] [] (fun v u_ => v = .bool true) := by
  refine spec_fnC hK (f_872 hK) ["script"] [("script",some 0),("box",none),("cuts",none),("one",none),("two",none),("plain",none),("questions",none),("due",none),("stream",none),("ends",none),("turn",none),("what",none),("text",none),("octets",none),("worth",none),("answer",none),("pile",none),("asked",none),("served",none),("back",none),("piece",none),("message",none),("key",none),("told",none)] [("came",none)] lwG (fun u_ u_ u_ u_ u_ u_ u_ u_ => bind_pos (len1 fun u_ => by kernel_rfl)) (fun Φ hn hsc ca hca Q hQ => ?_);exact law_1 hK hn (hca _ (.head _)) hxs fun μ ℓ => hQ _ _ _ _ (Sel.all μ) rfl
end
end
section
open PySem PySem.W PyProof.Rows PySem.Calls
theorem isL_ints {h : Heap} {F : Addr → Prop} : ∀ {ks : List Int} {vs : List Value},IntsAre vs ks → IsL h F (ks.map V.int) vs
  | [],_,.nil => .nil
  | _ :: _,_,.cons _ _ hl => .cons .int (isL_ints hl)
theorem walk : Walk := by
  intro W hp G hK s a xs vs n o hg hh hos ho hc hd hI hl;have st : St W (fun b => ∃ o,W.H₀.get? b = some o) [] s := ⟨hg,hos,fun b o q => by rw [hh]; exact q,fun u_ h => (nomatch h),List.nodup_nil,fun b ⟨o,q⟩ => ⟨⟨o,by rw [hh]; exact q⟩,fun h => (nomatch h)⟩,fun b o q => ⟨o,q⟩⟩
  refine wN.mono ((law_spec hK hl).go (A := callerA) (vals := [.ref a]) (kvals := []) G ⟨by decide +kernel,by decide +kernel,rfl,rfl⟩ st (.cons (.lst ⟨o,ho⟩ (by rw [hh]; exact ho) hc hd (isL_ints hI)) .nil) .nil) (fun v s' z => ?_) fun u_ u_ z => z
  apply gG;intro nG
  obtain ⟨F',v',μ',st',gr,hv,e⟩ := z;apply nG;clear nG;subst e;cases hv;exact ⟨rfl,fun b o q => st'.base b o q,st'.os,st'.gens⟩
end
end Mine
theorem PySem.Challenge.cw_ar0015_01_holds : PySem.Challenge.rw_ar0015_01.Holds :=
  Mine.close Mine.walk
