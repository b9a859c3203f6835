import PyProof.Rows.All
import Wide.All
import OpenK.AllK
import Wide.FinOn
import KE.KIntText
import PyProof.CallStr
import PyProof.PureStr
import PyProof.Comp
import PyProof.MeetsDict
import PyProof.WalksMore
import PyProof.ListNew
import PyProof.SeqWrite
import PyProof.SumWalk
import Lean
import PySem.Challenge.RW_ta0116_01
set_option Elab.async false
set_option maxRecDepth 1000000
set_option maxHeartbeats 0
set_option linter.all false
local macro_rules | `(tactic| rfl') => `(tactic| kernel_rfl!)
namespace Mine
theorem nb{a:Int}{c:Nat}(h:0≤a)(k:a<c):a.natAbs<c:=by omega
theorem dl{a m b m' b':Nat}(h:a+m<b)(e:Nat.ble (m'+b) (b'+m)=true):a+m'<b':=by
 have:=Nat.le_of_ble_eq_true e;omega
theorem oae:∀{a:Nat},a<800→a+0<900:=by decide
theorem oan:∀{a:Nat},a<60→a≤2^24:=by decide
theorem oaC:∀{a:Nat},0≤(↑a:Int):=by intros;constructor<;>assumption
theorem oaF:∀{a:Nat},a<900→a<1000:=by decide
theorem oaG:∀{a:Nat},a<500→a+1<600:=by decide
theorem oaH:∀{a:Int},0≤a→¬a<0:=by lia
theorem obb:∀{a:Int},0<a→0≤a:=by intros;subst_vars;lia
theorem obd:∀{a:Nat},a<500→a<1000:=by decide
theorem obp:∀{a b:Nat},(↑a:Int)< (↑b:Int)→a<b:=by simp+arith;done
theorem obC:∀{a:Int},0<a→¬a=0:=by lia
theorem oct:∀{a:Int},a=2^23→0<2^24-a:=by intros;subst_vars;decide
theorem ocv:∀{a:Nat},a≤2^10→a≤2^20:=by decide
theorem ocw:∀{a:Nat},a<600→a+1<800:=by decide
theorem oda:∀{a:Nat},¬(↑a:Int)<0:=by intros;simp
theorem odb:∀{a:Nat},a<2000→a≤2000:=by lia
theorem odc:∀{a:Nat},a<700→a+1<800:=by decide
theorem odD:∀{a:Nat},0<a+1:=by intros;simp
theorem odE:∀{a:Int},¬a<0→0≤a:=by lia
theorem odF:∀{a:Int},0<a→¬a<0:=by intros;subst_vars;lia
theorem odM:∀{a b c:Nat},a+3*(b-c)<900→a<1000:=by lia
theorem oej:∀{a b:Nat},a<b→¬a≥b:=by simp+arith;done
theorem oek:∀{a b:Nat},¬a<b→a≥b:=by simp+arith;done
theorem oel:∀{a:Nat},¬0≤-(↑a:Int)-1:=by intros;simp+arith
theorem oem:∀{a:Nat},(-(-(↑a:Int)-1)-1).toNat=a:=by intros;simp+arith
theorem oeJ:∀{a:Nat},a+1<60→a+1<2^63:=by intros;rename_i h;exact dl h rfl
theorem oeK:∀{a:Int},0<a→a≠0:=by lia
theorem oeL:∀{a b:Nat},a<60→b+0=a→b≤2^24:=by intros;subst_vars;lia
theorem oeM:∀{a:Nat},a<550→a<600:=by decide
theorem oeN:∀{a:Nat},a<500→a+1<550:=by decide
theorem oeO:∀{a:Nat},(↑(a+1):Int)-1=(↑a:Int):=by intros;simp
theorem oeQ:∀{a:Nat},a<53→53=a+1+(52-a):=by decide
theorem oeR:∀{a:Int},a*2^24<0→a<0:=by simp+arith;done
theorem oeS:∀{a:Int},0<a→0<a.natAbs:=by omega
theorem oeT:∀{a b:Int},a<b→¬b<a:=by lia
theorem ofG:∀{a:Nat},0<a→0+a-1<a:=by intros;rename_i h;cases h<;>lia
theorem ofI:∀{a:Int},a<0→a<0:=by intros;assumption
theorem ofJ:∀{a b:Nat},a+1=b→(↑a:Int)+1=(↑b:Int):=by intros;subst_vars;rfl
theorem ofK:∀{a b:Nat},a+1≤b→a<b:=by intros;assumption
theorem ofL:∀{a b c:Nat},a<b→¬a+1=b→(a+b)/2=c→(↑a:Int)< (↑c:Int):=by intros;subst_vars;lia
theorem ofM:∀{a b c:Nat},(a+b)/2=c→((↑a:Int)+(↑b:Int))/2=(↑c:Int):=by intros;subst_vars;rfl
theorem ofN:∀{a b:Nat},(↑a:Int)< (↑b:Int)→(↑b:Int)- (↑a:Int)=(↑(b-a):Int):=by lia
theorem ofO:∀{a b:Nat},a≤4000*2000→b≤2000*4000→(↑b:Int)+(↑a:Int)≤2^27:=by lia
theorem ofP:∀{a:Nat},-2^64< (↑a:Int):=by intros;constructor<;>assumption
theorem ofQ:∀{a:Nat},a<2000→(↑a:Int)<2^64:=by lia
theorem ofR:∀{a b c d:Nat},((↑a:Int)- (↑b:Int))*(↑c:Int)=(↑d:Int)→((↑a:Int)- (↑b:Int))*(↑c:Int)=(↑d:Int):=by intros;assumption
theorem ofS:∀{a b c d:Nat},a-b≤c+1→(↑d:Int)< (↑a:Int)→d-b≤c:=by lia
theorem ofT:∀{a b c d:Nat},a+3*(b-c)<900→(↑c:Int)< (↑d:Int)→(↑d:Int)< (↑b:Int)→a+1+3*(d-c)<900:=by lia
theorem ofU:∀{a b c:Nat},a≤b→(↑c:Int)< (↑a:Int)→c≤b:=by lia
theorem ofV:∀{a b c d:Nat},a-b≤c+1→(↑b:Int)< (↑d:Int)→a-d≤c:=by lia
theorem ofW:∀{a b c d:Nat},a+3*(b-c)<900→(↑c:Int)< (↑d:Int)→(↑d:Int)< (↑b:Int)→a+1+3*(b-d)<900:=by lia
theorem ofX:∀{a b:Nat},a≤b→a≤b:=by intros;assumption
theorem ofY:∀{a:Int},1≤a→¬a-1<0:=by lia
theorem ofZ:∀{a:Int},a<1→a-1<0:=by simp+arith;done
theorem oga:∀{a:Nat},a≤2^20→a≤16777216:=by lia
theorem ogb:∀{a:Nat},a≤2^10→(↑a:Int)<2^63:=by decide
theorem ogc:∀{a:Nat},a≤2^10→a≤1048576:=by decide
theorem ohh:∀{a b c:Nat},a<2^b→c*2^b+a<c*2^b+2^b:=by simp+arith;done
theorem ohi:∀{a b c:Nat},a<2^b→c<a→c+1≤2^b:=by lia
theorem ohj:∀{a b c:Nat},a<2^b→c<a→c<2^b:=by lia
theorem ohl:∀{a:Nat},a<600→a+0<900:=by decide
theorem ohn:∀{a:Nat},0<a→0< (↑a:Int):=by simp+arith;done
theorem ohM:∀{a b c d:Nat},a=b*c→a-b*d+(b*d-a)≤0→b*d=b*c:=by intros;subst_vars;lia
theorem ohN:∀{a:Int},¬a=0→¬a<0→0<a:=by lia
theorem ohO:∀{a:Nat},a-0≤a:=by intros;constructor<;>assumption
theorem ohP:∀{a b:Nat},a*((b+a-1)/a)+(b+a-1)%a=b+a-1→(b+a-1)%a<a→b≤a*((b+a-1)/a):=by omega
theorem ohQ:∀{a b:Nat},a≤b*0→a=0:=by simp+arith;done
theorem ohR:∀{a b c:Nat},a<4000→b≤a→b-c≤4000:=by lia
theorem ohT:∀{a b c d:Nat},a%2^b=c→d*2^b+c<d*2^b+2^b:=by intros;subst_vars;omega
theorem ohU:∀{a b:Nat},a<b→a+1≤b:=by intros;assumption
theorem nb2{a:Int}(h:0≤a)(k:a≤2^24):a.natAbs<2^53:=by omega
theorem nb3{a:Int}(h:-(2^53)<a)(k:a<2^53):a.natAbs<2^53:=by omega
theorem zqaa:∀{a:Int},0≤a→a≤2^24→a.natAbs<2^53:=by intros;exact nb2 ‹_› ‹_›
theorem zqab:∀{a b:Int},0≤a→b≤2^24→a=b→b.natAbs<2^53:=by intros;subst_vars;lia
theorem zqac:∀{a:Int},0≤a→0≤a:=by exact fun h=>h
theorem zqad:∀{a b c:Int},a≤2^24→0≤b→a-b=c→0<c→c.natAbs<2^53:=by intros;exact nb3 (by lia) (by lia)
theorem zqae:∀{a:Nat},a<5→a=0∨a=1∨a=2∨a=3∨a=4:=by decide
theorem zqaf:∀{a b:Int},a≤b→a≤b:=by exact fun h=>h
theorem zqag:∀{a b:Int},a-b=a-b:=by intros;rfl
theorem zqah:∀{a:Int},0<a→0<a:=by exact fun h=>h
theorem zqai:∀{a b c d:Int},(a-b)*2^24=c*d→(a-b)*2^24=c*d:=by exact fun h=>h
theorem zqaj:∀{a b:Int},0≤a→b≤2^24→a<b→a.natAbs<2^53:=by intros;exact nb3 (by lia) (by lia)
theorem zqak:∀{a b:Int},0≤a→b≤2^24→a<b→b.natAbs<2^53:=by intros;exact nb3 (by lia) (by lia)
theorem zqal:∀{a b:Int},0≤a→b≤2^24→a≤b→(b-a).natAbs<2^53:=by intros;exact nb3 (by lia) (by lia)
theorem zqam:∀{a:Int},0<a→0≤a:=by exact Int.le_of_lt
theorem zqan:∀{a:Int},8≤a→0<a:=by lia
theorem zqao:∀{a b:Int},0≤a→b≤2^24→a<b→(b-a).natAbs<2^53:=by intros;exact nb3 (by lia) (by lia)
theorem zqap:∀{a b c:Int},a≤2^24→0≤b→a-b=c→0<c→b.natAbs<2^53:=by intros;exact nb3 (by lia) (by lia)
theorem zqaq:∀{a b:Int},a*2^20≤b→0≤b-a*2^20:=by lia
theorem zqar:∀{a b:Int},0<a→b-a*2^20≤b:=by lia
theorem zqas:∀{a:Int},1000<a→0<a:=by lia
theorem zqat:∀{a b:Int},0≤a→b≤2^24→a≤b→a.natAbs<2^53:=by intros;exact nb3 (by lia) (by lia)
theorem zqau:∀{a b:Int},a<b→a<b:=by exact fun h=>h
theorem zqav:∀{a:Nat},a<490→a<1000:=by intros;exact Nat.lt_of_lt_of_le ‹_› (by decide)
theorem zqaw:∀{a:Nat},0≤(↑a:Int):=by intros;exact Int.natCast_nonneg _
theorem zqax:∀{a b:Int},a≤b→¬b<a:=by intros;exact Int.not_lt.mpr ‹_›
theorem zqay:∀{a b:Int},a≤2^24→b≤a→b≤2^24:=by exact fun h k=>Int.le_trans k h
theorem zqaz:∀{a b:Int},0≤a→b≤2^24→a=b→a.natAbs<2^53:=by intros;subst_vars;lia
theorem zqaA:∀{a b:Int},a=b→(b-a).natAbs<2^53:=by intros;subst_vars;lia
theorem zqaB:∀{a:Nat},a<6→(↑a:Int)<2^63:=by decide
theorem zqaC:∀{a b:Int},a<b→¬a=b:=by intros;exact Int.ne_of_lt ‹_›
theorem zqaD:∀{a:Nat},a<900→a<1000:=by intros;exact Nat.lt_of_lt_of_le ‹_› (by decide)
theorem zqaE:∀{a:Int},0<a→a≤2^24→a.natAbs<2^53:=by intros;exact nb3 (by lia) (by lia)
theorem zqaF:∀{a:Int},0≤a→0≤16*a:=by lia
theorem zqaG:∀{a:Int},0<a→a≠0:=by exact fun h=>Int.ne_of_gt h
theorem zqaH:∀{a:Nat},a<370→a<380:=by intros;exact Nat.lt_of_lt_of_le ‹_› (by decide)
theorem zqaI:∀{a:Int},a≤2^24→0≤a→a.natAbs<2^53:=by intros;exact nb2 ‹_› ‹_›
theorem zqaJ:∀{a:Int},a≤2^24→a≤2^24:=by exact fun h=>h
theorem zqaK:∀{a b c:Int},a-b=c→a-b=c:=by exact fun h=>h
theorem zqaL:∀{a b c:Int},a-b=c→0<c→¬b=a:=by intros;subst_vars;lia
theorem zqaM:∀{a b:Int},a<b→a≤b:=by exact Int.le_of_lt
theorem zqaN:∀{a b:Int},a≤2^24→b<a→b≤2^24:=by intros;exact Int.le_trans (Int.le_of_lt ‹_›) ‹_›
theorem zqaO:∀{a b c:Int},a≤2^24→0≤b→a-b=c→0<c→(a+b).natAbs<2^53:=by intros;exact nb3 (by lia) (by lia)
theorem zqaP:∀{a b c d:Int},a≤2^24→a-b=c→0<c→a+b=2*d→2^23<d→(2*2^24-a-b).natAbs<2^53:=by intros;exact nb3 (by lia) (by lia)
theorem zqaQ:∀{a b:Int},0<a→a*2^20≤b→0≤b:=by lia
theorem zqaR:∀{a:Int},a≤a:=by exact Int.le_refl _
theorem zqaS:∀{a b:Int},a-b*2^20≤a-b*2^20:=by exact Int.le_refl _
theorem zqaT:∀{a:Int},0<a→0<a*2^20:=by intros;subst_vars;lia
theorem zqaU:∀{a:Nat},a<100→a≤2^24:=by decide
theorem zqaV:∀{a:Int},8≤a→a≠0:=by lia
theorem zqaW:∀{a:Nat},a<6→a=0∨a=1∨a=2∨a=3∨a=4∨a=5:=by decide
theorem zqaX:∀{a:Nat},a<490→a+1<550:=by lia
theorem zqaY:∀{a:Int},1000<a→1000≤a:=by exact Int.le_of_lt
theorem zqaZ:∀{a b:Int},a≤2^24→0≤b→b<a→a.natAbs<2^53:=by intros;exact nb3 (by lia) (by lia)
theorem zqba:∀{a:Int},1000<a→0≤a:=by lia
theorem zqbb:∀{a b:Nat},a<b→0<b:=by lia
theorem zqbc:∀{a b c:Nat},a<b→c<a+1→c<b:=by lia
theorem zqbd:∀{a:Nat},a<4→a=0∨a=1∨a=2∨a=3:=by decide
theorem zqbe:∀{a:Nat},(↑a:Int)%6=(↑(a%6):Int):=by intros;rfl
theorem zqbf:∀{a:Nat},0≤(↑(a%6):Int):=by intros;exact Int.natCast_nonneg _
theorem zqbg:∀{a:Nat},(↑(a%6):Int)<2^63:=by lia
theorem zqbh:∀{a b c:Nat},a=b+(c+1)→b<a:=by intros;subst_vars;lia
theorem zqbi:∀{a:Int},0≤a→a<2^25→(6*a).natAbs<2^53:=by intros;exact nb3 (by lia) (by lia)
theorem zqbj:∀{a b:Int},a=b→a≤b:=by intros;exact Int.le_of_eq ‹_›
theorem zqbk:∀{a b:Int},a≤2^24→b=a→b≤2^24:=by intros;subst_vars;assumption
theorem zqbl:∀{a b c d:Int},a-b=c→0<c→d=a→b≤d:=by intros;subst_vars;lia
theorem zqbm:∀{a b:Int},a=b→a=b:=by exact fun h=>h
theorem zqbn:∀{a b:Int},0≤a→a≤2^24→0≤b→b≤2^24→(b-a).natAbs<2^53:=by intros;exact nb3 (by lia) (by lia)
theorem zqbo:∀{a b c:Int},a≤2^24→b≤c→0≤b→c<a→b.natAbs<2^53:=by intros;exact nb3 (by lia) (by lia)
theorem zqbp:∀{a:Int},0≤a→a≤2^24→(33554432+a).natAbs<2^53:=by intros;exact nb3 (by lia) (by lia)
theorem zqbq:∀{a b:Int},0≤a→a≤2^24→0≤b→b≤2^24→(33554432+a-b).natAbs<2^53:=by intros;exact nb3 (by lia) (by lia)
theorem zqbr:∀{a:Int},0≤a→a≤2^24→(67108864+a).natAbs<2^53:=by intros;exact nb3 (by lia) (by lia)
theorem zqbs:∀{a b:Int},0≤a→a≤2^24→0≤b→b≤2^24→(67108864+b-a).natAbs<2^53:=by intros;exact nb3 (by lia) (by lia)
theorem zqbt:∀{a b:Int},0≤a→b≤2^24→a=b→(2*2^24-b).natAbs<2^53:=by intros;exact nb3 (by lia) (by lia)
theorem zqbu:∀{a b:Int},0<a→b-a*2^20<b:=by lia
theorem zqbv:∀{a:Int},0≤a→a<2^21→(16*a).natAbs<2^53:=by intros;exact nb3 (by lia) (by lia)
theorem zqbw:∀{a:Nat},a≤10→a≤2^24:=by decide
theorem zqbx:∀{a:Int},0≤a→a<1024→(a*2^24).natAbs<2^53:=by intros;exact nb3 (by lia) (by lia)
theorem zqby:∀{a:Nat},a<5→a<6:=by intros;constructor<;>assumption
theorem zqbz:∀{a:Nat},a<5→a+1<6:=by decide
theorem zqbA:∀{a:Nat},a<200→a<2000:=by intros;exact Nat.lt_of_lt_of_le ‹_› (by decide)
theorem zqbB:∀{a:Nat},a<480→a+1<490:=by lia
theorem zqbC:∀{a:Nat},¬a+1=a:=by intros;exact Nat.succ_ne_self _
theorem zqbD:∀{a:Nat},a<310→a<380:=by intros;exact Nat.lt_of_lt_of_le ‹_› (by decide)
theorem zqbE:∀{a:Int},0≤a→a<2^24→a.natAbs<2^53:=by intros;exact nb ‹_› (Int.lt_trans ‹_› (by decide))
theorem zqbF:∀{a:Int},16777216-a=2^24-a:=by intros;rfl
theorem zqbG:∀{a b:Int},a≤2^24→0≤b→b≤a→a.natAbs<2^53:=by intros;exact nb3 (by lia) (by lia)
theorem zqbH:∀{a b c:Int},a*2^24=b*c→a*2^24=b*c:=by exact fun h=>h
theorem zqbI:∀{a b:Int},a+b=a+b:=by intros;rfl
theorem zqbJ:∀{a b c d:Int},a≤2^24→0≤b→a-b=c→0<c→a+b=2*d→d.natAbs<2^53:=by intros;exact nb3 (by lia) (by lia)
theorem zqbK:∀{a b c:Int},a+b=2*c→(a+b)*2^24=c*33554432:=by simp+arith;done
theorem zqbL:∀{a b c d:Int},a≤2^24→a-b=c→0<c→a+b=2*d→2^23<d→d.natAbs<2^53:=by intros;exact nb3 (by lia) (by lia)
theorem zqbM:∀{a:Int},2^23<a→¬a≤8388608:=by intros;exact Int.not_le.mpr ‹_›
theorem zqbN:∀{a:Int},33554432-a=2*2^24-a:=by intros;rfl
theorem zqbO:∀{a b:Int},2*2^24-a-b=2*2^24-a-b:=by intros;rfl
theorem zqbP:∀{a b c:Int},a≤2^24→a-b=c→0<c→0<2*2^24-a-b:=by intros;subst_vars;lia
theorem zqbQ:∀{a b c d:Int},0≤a→b-a=c→0<c→b+a=2*d→d≤2^23→d.natAbs<2^53:=by intros;exact nb3 (by lia) (by lia)
theorem zqbR:∀{a:Int},a≤2^23→a≤8388608:=by exact fun h=>h
theorem zqbS:∀{a b c:Int},a*2^20≤b→0≤c→0≤b-a*2^20+c:=by lia
theorem zqbT:∀{a b c:Int},a<b*2^20→c-b*2^20+a≤c:=by lia
theorem zqbU:∀{a b c:Int},0≤a→b-c*2^20≤b-c*2^20+a:=by lia
theorem zqbV:∀{a:Int},a<2^20→0≤2^24-16*a:=by intros;subst_vars;lia
theorem zqbW:∀{a:Int},0≤a→2^24-16*a≤2^24:=by lia
theorem zqbX:∀{a b c:Int},a*2^20≤b→c<a*2^20→0≤b-c:=by lia
theorem zqbY:∀{a b:Int},0≤a→b-a≤b:=by lia
theorem zqbZ:∀{a b c:Int},a<b*2^20→c-b*2^20≤c-a:=by lia
theorem zqca:∀{a:Int},a<2^20→16*a≤2^24:=by intros;subst_vars;lia
theorem zqcb:∀{a b:Int},a/95=b→a/95=b:=by exact fun h=>h
theorem zqcc:∀{a:Int},a*2^24/2^24=a:=by intros;simp
theorem zqcd:∀{a:Nat},a<390→a+0<800:=by intros;exact Nat.lt_of_lt_of_le ‹_› (by decide)
theorem zqce:∀{a:Nat},0≤(↑a:Int)+1:=by intros;exact Int.natCast_nonneg _
theorem zqcf:∀{a:Nat},a<5→(↑a:Int)+1<2^63:=by decide
theorem zqcg:∀{a:Int},8≤a→0≤a:=by lia
theorem zqch:∀{a:Nat},a<480→a<1000:=by intros;exact Nat.lt_of_lt_of_le ‹_› (by decide)
theorem zqci:∀{a:Int},8≤a→8≤a:=by exact fun h=>h
theorem zqcj:∀{a b:Nat},min (↑a:Int) (↑b:Int)=(↑(min a b):Int):=by intros;subst_vars;omega
theorem zqck:∀{a b:Nat},max (↑a:Int) (↑b:Int)=(↑(max a b):Int):=by intros;subst_vars;omega
theorem zqcl:∀{a b:Nat},a<6→b<6→max a b<6:=by lia
theorem zqcm:∀{a:Nat},a<380→a+0<390:=by intros;exact Nat.lt_of_lt_of_le ‹_› (by decide)
theorem zqcn:∀{a:Nat},a<380→a+0<470:=by intros;exact Nat.lt_of_lt_of_le ‹_› (by decide)
theorem zqco:∀{a:Int},a≤1024→a<2^64:=by lia
theorem zqcp:∀{a:Nat},a<490→a+1<600:=by lia
theorem zqcq:∀{a:Nat},a<380→a+0<480:=by intros;exact Nat.lt_of_lt_of_le ‹_› (by decide)
theorem zqcr:∀{a b:Int},a≤2^61→-a<b∧b<a→b.natAbs<10^100:=by intros;subst_vars;omega
theorem zqcs:∀{a:Int},(a%5).toNat<5:=by lia
theorem zqct:∀{a:Int},a.natAbs<2^62→-2^63≤a∧a<2^63:=by intros;subst_vars;omega
theorem zqcu:∀{a:Int},0<a∧a≤2^30→(-a).natAbs≤2^30:=by intros;subst_vars;omega
theorem zqcv:∀{a b:Int},a<0→0≤a*2^24→b<0:=by lia
theorem zqcw:∀{a:Nat},a+1+1-0=a+1+1:=by intros;rfl
theorem zqcx:∀{a:Nat},48≤a∧a≤57→32≤a∧a<127:=by lia
theorem zqcy:∀{a:Nat},a%6<6:=by intros;exact Nat.mod_lt _ (by decide)
theorem zqcz:∀{a b:Int},a%1000000=b→a%1000000=b:=by exact fun h=>h
theorem zqcA:∀{a b:Nat},a=6→(↑(b%6):Int)< (↑a:Int):=by intros;subst_vars;lia
theorem zqcB:∀{a b c:Int},a%1000000=b→0≤c→0≤c+b:=by intros;subst_vars;lia
theorem zqcC:∀{a b c d:Int},a%1000000=b→c≤d→c+b≤d+1000000:=by intros;subst_vars;lia
theorem zqcD:∀{a b:Nat},a=b+0→a≤b:=by simp+arith;done
theorem zqcE:∀{a b c:Nat},a=b+(c+1)→a=b+1+c:=by intros;subst_vars;lia
theorem zqcF:∀{a:Int},0≤a→a<2^25→a.natAbs<2^53:=by intros;exact nb ‹_› (Int.lt_trans ‹_› (by decide))
theorem zqcG:∀{a:Int},a*100663296=6*a*2^24:=by intros;simp+arith
theorem zqcH:∀{a:Int},0<a→a≤2^24→(2^24-a).natAbs<2^53:=by intros;exact nb3 (by lia) (by lia)
theorem zqcI:∀{a b c:Int},a*(2^24-b)=c*2^24→a*(2^24-b)=c*2^24:=by exact fun h=>h
theorem zqcJ:∀{a b:Int},a≤2^24→0≤b→b≤a→b.natAbs<2^53:=by intros;exact nb3 (by lia) (by lia)
theorem zqcK:∀{a b:Int},a≤2^24→0≤b→b≤a→(2^24-b).natAbs<2^53:=by intros;exact nb3 (by lia) (by lia)
theorem zqcL:∀{a:Int},0≤a→a<2^24→(2^24-a).natAbs<2^53:=by intros;exact nb3 (by lia) (by lia)
theorem zqcM:∀{a b:Int},a≤2^24→0≤b→b≤a→(a-b).natAbs<2^53:=by intros;exact nb3 (by lia) (by lia)
theorem zqcN:∀{a b:Int},a≤2^24→0≤b→b≤a→(2^24- (a-b)).natAbs<2^53:=by intros;exact nb3 (by lia) (by lia)
theorem zqcO:∀{a b c d:Int},a=b→b=a∨b=c∨b=d:=by intros;subst_vars;lia
theorem zqcP:∀{a b c d:Int},a=b∨a=c∨a=d→a=b∨a=c∨a=d:=by exact fun h=>h
theorem zqcQ:∀{a b c:Int},a≤2^24→b≤a→c≤b→0≤c→c.natAbs<2^53:=by intros;exact nb3 (by lia) (by lia)
theorem zqcR:∀{a b c:Int},0≤a→b-a=c→0<c→0<b:=by intros;subst_vars;lia
theorem zqcS:∀{a b c:Int},0≤a→a≤2^24→0≤b→b≤2^24→b-a=c*6→c.natAbs<2^53:=by intros;exact nb3 (by lia) (by lia)
theorem zqcT:∀{a b c:Int},a-b=c*6→(a-b)*2^24=c*100663296:=by lia
theorem zqcU:∀{a b c:Int},a≤2^24→0≤b→b-a=c*6→-2^24<c:=by intros;subst_vars;lia
theorem zqcV:∀{a b c:Int},0≤a→b≤2^24→b-a=c*6→c<2^24:=by intros;subst_vars;lia
theorem zqcW:∀{a b c d:Int},a=b→b=c∨b=a∨b=d:=by intros;subst_vars;lia
theorem zqcX:∀{a:Int},33554432+a=33554432+a:=by intros;rfl
theorem zqcY:∀{a b:Int},33554432+a-b=33554432+a-b:=by intros;rfl
theorem zqcZ:∀{a b c:Int},0≤a→a≤2^24→0≤b→b≤2^24→2*2^24+a-b=c*6→c.natAbs<2^53:=by intros;exact nb3 (by lia) (by lia)
theorem zqda:∀{a b c:Int},2*2^24+a-b=c*6→(33554432+a-b)*2^24=c*100663296:=by lia
theorem zqdb:∀{a b c:Int},0≤a→b≤2^24→2*2^24+a-b=c*6→-2^24<c:=by intros;subst_vars;lia
theorem zqdc:∀{a b c:Int},a≤2^24→0≤b→2*2^24+a-b=c*6→c<2^24:=by intros;subst_vars;lia
theorem zqdd:∀{a:Int},67108864+a=67108864+a:=by intros;rfl
theorem zqde:∀{a b:Int},67108864+a-b=67108864+a-b:=by intros;rfl
theorem zqdf:∀{a b c:Int},0≤a→a≤2^24→0≤b→b≤2^24→4*2^24+b-a=c*6→c.natAbs<2^53:=by intros;exact nb3 (by lia) (by lia)
theorem zqdg:∀{a b c:Int},4*2^24+a-b=c*6→(67108864+a-b)*2^24=c*100663296:=by lia
theorem zqdh:∀{a b c:Int},a≤2^24→0≤b→4*2^24+b-a=c*6→-2^24<c:=by intros;subst_vars;lia
theorem zqdi:∀{a b c:Int},0≤a→b≤2^24→4*2^24+b-a=c*6→c<2^24:=by intros;subst_vars;lia
theorem zqdj:∀{a b c:Int},0≤a→0≤b→a<c→0<c+b:=by lia
theorem zqdk:∀{a b:Int},0≤a→b≤2^24→a<b→(2*2^24-b).natAbs<2^53:=by intros;exact nb3 (by lia) (by lia)
theorem zqdl:∀{a:Int},(1+a)*2^24=(1+a)*2^22*4:=by intros;simp+arith
theorem zqdm:∀{a:Int},a*2=a*2:=by intros;rfl
theorem zqdn:∀{a:Int},0≤a→0<1+a:=by lia
theorem zqdo:∀{a b:Int},a<b→1+a≤b:=by lia
theorem zqdp:∀{a:Nat},a<400→a+0<900:=by intros;exact Nat.lt_of_lt_of_le ‹_› (by decide)
theorem zqdq:∀{a b:Nat},a=b→b≤a:=by simp+arith;done
theorem zqdr:∀{a b:Nat},a<b→min a b=a:=by lia
theorem zqds:∀{a:Nat},a<390→a+0<400:=by intros;exact Nat.lt_of_lt_of_le ‹_› (by decide)
theorem zqdt:∀{a:Nat},a<380→a<390:=by intros;exact Nat.lt_of_lt_of_le ‹_› (by decide)
theorem zqdu:∀{a b c:Nat},(a+b)%4=c→c<4:=by intros;subst_vars;lia
theorem zqdv:∀{a b c:Nat},(a+b)%4=c→((↑a:Int)+(↑b:Int))%4=(↑c:Int):=by intros;subst_vars;rfl
theorem zqdw:∀{a:Nat},a<600→a<1000:=by intros;exact Nat.lt_of_lt_of_le ‹_› (by decide)
theorem zqdx:∀{a:Nat},a<500→a<1000:=by intros;exact Nat.lt_of_lt_of_le ‹_› (by decide)
theorem zqdy:∀{a:Nat},a<500→a+1<600:=by lia
theorem zqdz:∀{a:Nat},a<500→a+1<800:=by lia
theorem zqdA:∀{a:Nat},a<590→a+1<600:=by lia
theorem zqdB:∀{a:Nat},a<380→a+0<490:=by intros;exact Nat.lt_of_lt_of_le ‹_› (by decide)
theorem zqdC:∀{a:Int},a%2=0∨a%2=1:=by lia
theorem zqdD:∀{a:Nat},a<800→a<1000:=by intros;exact Nat.lt_of_lt_of_le ‹_› (by decide)
theorem zqdE:∀{a:Int},a%2=0→a%2=0:=by exact fun h=>h
theorem zqdF:∀{a:Nat},a<800→a+1+0<900:=by lia
theorem zqdG:∀{a:Int},0≤a→a<2^20→(16*a).natAbs<2^53:=by intros;exact nb3 (by lia) (by lia)
theorem zqdH:∀{a:Int},0<a→a≤1024→(a*2^24).natAbs<2^53:=by intros;exact nb3 (by lia) (by lia)
theorem zqdI:∀{a b c:Int},16*a*b=c*2^24→16*a*b=c*2^24:=by exact fun h=>h
theorem zqdJ:∀{a:Int},0≤a→0≤a*2^24:=by lia
theorem zqdK:∀{a:Int},a%2=1→a%2=1:=by exact fun h=>h
theorem zqdL:∀{a:Nat},0≤(↑a:Int)+0:=by intros;exact Int.natCast_nonneg _
theorem zqdM:∀{a:Nat},a<5→(↑a:Int)+0<2^63:=by decide
theorem zqdN:∀{a b:Nat},a<200→b≤a→(↑b:Int)+(↑a:Int)≤2^27:=by lia
theorem zqdO:∀{a b:Nat},a<200→b≤a+a→(↑b:Int)- (↑a:Int)≤4000:=by lia
theorem zqdP:∀{a:Nat},a≤a+1:=by intros;simp
theorem zqdQ:∀{a:Nat},8≤a→0<a:=by lia
theorem zqdR:∀{a:Int},a<2^64→a<2^64:=by exact fun h=>h
theorem zqdS:∀{a:Nat},a=6→a≤2^24:=by intros;subst_vars;decide
theorem zqdT:∀{a b:Nat},min a b≤max a b:=by lia
theorem zqdU:∀{a:Nat},a<550→a<600:=by intros;exact Nat.lt_of_lt_of_le ‹_› (by decide)
theorem zqdV:∀{a:Nat},a<5→(↑a:Int)+1< (↑6:Int):=by decide
theorem zqdW:∀{a:Nat},¬a=a+1:=by intros;simp
theorem zqdX:∀{a:Nat},¬a+1+1=a:=by intros;simp+arith
theorem zqdY:∀{a:Int},-9≤a∧a≤9→a.natAbs≤9:=by intros;rename_i h;cases h<;>lia
theorem zqdZ:∀{a:Int},-9≤a∧a≤9→-2^64<a:=by intros;rename_i h;cases h<;>lia
theorem zqea:∀{a:Int},-9≤a∧a≤9→a<2^64:=by intros;rename_i h;cases h<;>lia
theorem zqeb:∀{a b:Int},0≤a→0≤b→0≤b+a:=by lia
theorem zqec:∀{a b c:Int},a<b→c<b→c+a<2*b:=by lia
theorem zqed:∀{a:Nat},a<380→a+0<900:=by intros;exact Nat.lt_of_lt_of_le ‹_› (by decide)
theorem zqee:∀{a:Nat},a<1000→a≤2^24:=by intros;exact Nat.le_of_lt (Nat.lt_of_lt_of_le ‹_› (by decide))
theorem zqef:∀{a:Nat},a<100→a<1000:=by intros;exact Nat.lt_of_lt_of_le ‹_› (by decide)
theorem zqeg:∀{a:Nat},a<480→a+1<600:=by lia
theorem zqeh:∀{a:Nat},a<380→a+0<500:=by intros;exact Nat.lt_of_lt_of_le ‹_› (by decide)
theorem zqei:∀{a:Nat},a≤a+2:=by intros;simp
theorem zqej:∀{a b:Nat},a<90→b≤a+1→b<100:=by lia
theorem zqek:∀{a b c:Nat},a≤b+1→c≤a→c+1≤b+2:=by lia
theorem zqel:∀{a:Nat},a<380→a+0<380:=by exact fun h=>h
theorem zqem:∀{a b c d:Int},a-b=a-c+(c-d)+(d-b):=by intros;simp+arith
theorem zqen:∀{a b:Int},a=b/5%19-9→a.natAbs≤9:=by lia
theorem zqeo:∀{a:Nat},0<a→0<a:=by exact fun h=>h
theorem zqep:∀{a:Int},a.natAbs<2^62→-2^63≤0+a∧0+a<2^63:=by intros;subst_vars;omega
theorem zqeq:∀{a b:Int},0≤a∧a<1024→0≤b∧b<1024→-2^64<a-b:=by intros;subst_vars;lia
theorem zqer:∀{a b:Int},0≤a∧a<1024→0≤b∧b<1024→a-b<2^64:=by intros;subst_vars;lia
theorem zqes:∀{a:Int},0<a→-2^64<a:=by intros;subst_vars;lia
theorem zqet:∀{a:Nat},a<310→a<370:=by intros;exact Nat.lt_of_lt_of_le ‹_› (by decide)
theorem zqeu:∀{a b:Int},a≤1024→b≤a→b≤1024:=by exact fun h k=>Int.le_trans k h
theorem zqev:∀{a b:Nat},a<b→a≤b-1:=by intros;rename_i h;cases h<;>lia
theorem zqew:∀{a:Int},0<a→0<a.natAbs:=by lia
theorem zqex:∀{a:Int},-2^24<a→a<2^24→a.natAbs< ((2:Int)^24).natAbs:=by lia
theorem zqey:∀{a b:Int},-1074≤a→-1074≤b→-(↑1074:Int)≤min a b:=by lia
theorem zqez:∀{a:Int} {b:Nat},a+(↑(b+1):Int)*1000000<2^40→a<2^40:=by lia
theorem zqeA:∀{a:Int},0<a→¬a=0:=by exact fun h=>Int.ne_of_gt h
theorem zqeB:∀{a:Int},0≤a→0≤6*a:=by lia
theorem zqeC:∀{a b c:Int},6*a=b*2^24+c→0≤c→c<2^24→6*a/2^24=b:=by lia
theorem zqeD:∀{a b c:Int},0≤a→a<2^25→6*a=b*2^24+c→0≤c→c<2^24→(b*2^24).natAbs<2^53:=by intros;exact nb3 (by lia) (by lia)
theorem zqeE:∀{a:Int},a≤2^24→0≤2^24-a:=by simp+arith;done
theorem zqeF:∀{a b:Int},a≤2^24→b≤a→0≤2^24-b:=by intros;subst_vars;lia
theorem zqeG:∀{a:Int},a<2^24→0≤2^24-a:=by intros;subst_vars;lia
theorem zqeH:∀{a b:Int},a≤2^24→0≤b→0≤2^24- (a-b):=by intros;subst_vars;lia
theorem zqeI:∀{a b c d:Int},a*(2^24- (b-c))=d*2^24→a*(2^24- (b-c))=d*2^24:=by exact fun h=>h
theorem zqeJ:∀{a b:Int},0≤a→a<b→0<b:=by intros;exact Int.lt_of_le_of_lt ‹_› ‹_›
theorem zqeK:∀{a b c d:Int},0≤a→b-a=c→0<c→b+a=2*d→d≤2^23→(b+a).natAbs<2^53:=by intros;exact nb3 (by lia) (by lia)
theorem zqeL:∀{a b c:Int},0≤a→b-a=c→0<c→0<b+a:=by intros;subst_vars;lia
theorem zqeM:∀{a b c d:Int},0≤a→0≤b→a=c→c+b=2*d→d≤2^23→(c+b).natAbs<2^53:=by intros;exact nb3 (by lia) (by lia)
theorem zqeN:∀{a b c d:Int},0≤a→0≤b→a<c→c+b=2*d→d≤2^23→(c+b).natAbs<2^53:=by intros;exact nb3 (by lia) (by lia)
theorem zqeO:∀{a b:Int},6*a%2^20=b→0≤b:=by lia
theorem zqeP:∀{a b:Int},6*a%2^20=b→b<2^20:=by lia
theorem zqeQ:∀{a:Int},a<2^21→16*a<2^25:=by simp+arith;done
theorem zqeR:∀{a b c:Int},6*a/2^20=b→6*a%2^20=c→6*(16*a)=b*2^24+16*c:=by intros;subst_vars;lia
theorem zqeS:∀{a:Int},a<2^20→16*a<2^24:=by simp+arith;done
theorem zqeT:∀{a b c:Int},a=a∨a=a-b*2^20+c∨a=a-b*2^20:=by intros;simp
theorem zqeU:∀{a b c:Int},a=a-b∨a=a∨a=a-c*2^20:=by intros;simp
theorem zqeV:∀{a b c d:Int},0≤a→(0<a→0<b)→6*c=1*2^20+a→d-b<d:=by lia
theorem zqeW:∀{a b c:Int},a=a-b*2^20∨a=a∨a=a-b*2^20+c:=by intros;simp
theorem zqeX:∀{a b c:Int},a-b*2^20=a-b*2^20∨a-b*2^20=a∨a-b*2^20=a-b*2^20+c:=by intros;simp
theorem zqeY:∀{a b c:Int},a-b*2^20=a-b*2^20∨a-b*2^20=a-c∨a-b*2^20=a:=by intros;simp
theorem zqeZ:∀{a:Int},0≤a→a=0∨0<a:=by lia
theorem zqfa:∀{a b:Int},0<a→b-a<b:=by lia
theorem zqfb:∀{a b c:Int},a-b*2^20=a-b*2^20+c∨a-b*2^20=a-b*2^20∨a-b*2^20=a:=by intros;simp
theorem zqfc:∀{a b c:Int},a<b*2^20→c-b*2^20+a<c:=by simp+arith;done
theorem zqfd:∀{a b c:Int},a=a∨a=a-b*2^20∨a=a-c:=by intros;simp
theorem zqfe:∀{a b c:Int},a-b*2^20=a∨a-b*2^20=a-b*2^20∨a-b*2^20=a-c:=by intros;simp
theorem zqff:∀{a:Int},a/3%8=(↑(a/3%8).toNat:Int):=by lia
theorem zqfg:∀{a:Int},a/24%20=(↑(a/24%20).toNat:Int):=by lia
theorem zqfh:∀{a b:Int} {c:Nat},a/3=b→a/3%8=(↑c:Int)→b%8=(↑c:Int):=by intros;subst_vars;assumption
theorem zqfi:∀{a:Nat},0<3+(↑a:Int):=by lia
theorem zqfj:∀{a:Int} {b:Nat},a/3%8=(↑b:Int)→3+(↑b:Int)≤64:=by lia
theorem zqfk:∀{a:Nat},(3+(↑a:Int)).toNat=3+a:=by intros;rfl
theorem zqfl:∀{a b:Int},a/24=b→a/24=b:=by exact fun h=>h
theorem zqfm:∀{a b:Int} {c:Nat},a/24=b→a/24%20=(↑c:Int)→b%20=(↑c:Int):=by intros;subst_vars;assumption
theorem zqfn:∀{a:Nat},0<10+(↑a:Int):=by lia
theorem zqfo:∀{a:Int} {b:Nat},a/24%20=(↑b:Int)→10+(↑b:Int)≤64:=by lia
theorem zqfp:∀{a:Nat},(10+(↑a:Int)).toNat=10+a:=by intros;rfl
theorem zqfq:∀{a:Int},a/480%4=(↑(a/480%4).toNat:Int):=by lia
theorem zqfr:∀{a:Int} {b:Nat},a/24%20=(↑b:Int)→10+b<30:=by lia
theorem zqfs:∀{a:Nat},10≤10+a:=by intros;simp
theorem zqft:∀{a b:Int},a/480=b→a/480=b:=by exact fun h=>h
theorem zqfu:∀{a b:Int} {c:Nat},a/480=b→a/480%4=(↑c:Int)→b%4=(↑c:Int):=by intros;subst_vars;assumption
theorem zqfv:∀{a:Int},1024≤a∧a≤536870912→-2^64<a+1:=by intros;rename_i h;cases h<;>lia
theorem zqfw:∀{a:Int},1024≤a∧a≤536870912→a+1<2^64:=by intros;rename_i h;cases h<;>lia
theorem zqfx:∀{a b:Int},a/1920=b→a/1920=b:=by exact fun h=>h
theorem zqfy:∀{a b c:Int},a/1920=b→a/1920%4=c→b%4=c:=by intros;subst_vars;rfl
theorem zqfz:∀{a b:Int},a/1920%4=b→((1+b)*2^22).natAbs<2^53:=by intros;exact nb3 (by lia) (by lia)
theorem zqfA:∀{a b:Int},a/7680=b→a/7680=b:=by exact fun h=>h
theorem zqfB:∀{a b c:Int},a/7680=b→a/7680%4=c→b%4=c:=by intros;subst_vars;rfl
theorem zqfC:∀{a b:Int},a/7680%4=b→((1+b)*2^22).natAbs<2^53:=by intros;exact nb3 (by lia) (by lia)
theorem zqfD:∀{a:Int} {b:Nat},a/3%8=(↑b:Int)→b<8:=by lia
theorem zqfE:∀{a:Int},1024≤a∧a≤536870912→1000<a+1:=by intros;rename_i h;cases h<;>lia
theorem zqfF:∀{a:Int},1024≤a∧a≤536870912→a+1≤2^30:=by intros;rename_i h;cases h<;>lia
theorem zqfG:∀{a:Int} {b:Nat},a/480%4=(↑b:Int)→b<4:=by lia
theorem zqfH:∀{a b:Nat},a<100→b<a→b<100:=by lia
theorem zqfI:∀{a b c:Nat},a<100→b<a→c=b→c<100:=by intros;subst_vars;lia
theorem zqfJ:∀{a:Nat},-(-(↑a:Int)-1)-1=(↑a:Int):=by intros;simp+arith
theorem zqfK:∀{a b c d e:Nat},a=2^b*c+d→2^b*c=e→(↑a:Int)- (↑e:Int)=(↑d:Int):=by intros;subst_vars;lia
theorem zqfL:∀{a b c:Nat},a<b→¬(b≤a∧a<c):=by lia
theorem zqfM:∀{a b:Nat},a<b→0<b-a:=by lia
theorem zqfN:∀{a b:Nat},¬a<b→b≤a:=by simp+arith;done
theorem zqfO:∀{a b c:Nat},a<b→(a+b)/2=c→(↑c:Int)< (↑b:Int):=by lia
theorem zqfP:∀{a b c:Nat},a<4000→(b+a)/2=c→c-b≤4000:=by lia
theorem zqfQ:∀{a b c:Nat},a+3*(b-c)<900→b-c≤4000:=by lia
theorem zqfR:∀{a b c:Nat},(a+b)/2=c→(↑a:Int)< (↑c:Int)→¬(↑a:Int)+1=(↑b:Int):=by lia
theorem zqfS:∀{a b:Nat},a<4000→(↑b:Int)< (↑a:Int)→b<4000:=by lia
theorem zqfT:∀{a:Nat},a<4000→a<4000:=by exact fun h=>h
theorem zqfU:∀{a b:Nat},0<a→(↑b:Int)+(↑a:Int)-1=(↑(b+a-1):Int):=by intros;rename_i h;cases h<;>lia
theorem zqfV:∀{a:Nat},0<a→(↑a:Int)≠0:=by lia
theorem zqfW:∀{a:Nat},a<60→(↑a:Int)<2^24:=by decide
theorem zqfX:∀{a b:Nat},a>0→(0+b-1)/b=a→(0+b-1)/b=0→False:=by lia
theorem zqfY:∀{a:Nat},a<60→a<2^63:=by intros;exact Nat.lt_of_lt_of_le ‹_› (by decide)
theorem zqfZ:∀{a b:Nat},a<600→b<60→a+1+3*(b-0)<900:=by lia
theorem zqga:∀{a:Nat},a<60→a<4000:=by intros;exact Nat.lt_of_lt_of_le ‹_› (by decide)
theorem zqgb:∀{a:Nat},0≤a:=by intros;simp
theorem zqgc:∀{a b c:Nat},(a+b)/2=c→(↑a:Int)< (↑c:Int)→(↑c:Int)< (↑b:Int):=by lia
theorem zqgd:∀{a b:Nat},(↑a:Int)< (↑b:Int)→b=a+(b-a):=by lia
theorem zqge:∀{a b c d:Nat},a<4000→b≤a→(c+b)/2=d→d-c≤4000:=by lia
theorem zqgf:∀{a b c:Nat},(↑a:Int)< (↑b:Int)→(↑b:Int)< (↑c:Int)→¬(↑a:Int)+1=(↑c:Int):=by lia
theorem zqgg:∀{a b c:Nat},a+b=c→(↑a:Int)+(↑b:Int)=(↑c:Int):=by intros;subst_vars;rfl
theorem zqgh:∀{a:Nat},a+1-0≤a+1:=by intros;constructor<;>assumption
theorem zqgi:∀{a b c d e:Nat},a*(b/a*2^c)+d*2^c+e=d*2^c+e+a*(b/a*2^c):=by intros;simp+arith
theorem zqgj:∀{a b c:Nat},a<60→b+(c+1)=a→b<60:=by intros;subst_vars;lia
theorem zqgk:∀{a b:Nat},a+1≤b→a≤b:=by exact Nat.le_of_lt
theorem zqgl:∀{a:Nat},a<4→a≤3:=by decide
theorem zqgm:∀{a b:Nat},8≤a→a<2^b→2^b≤2^3→4≤b:=by lia
theorem zqgn:∀{a b:Nat},a≤128→4≤b→a+b-1<60*b:=by intros;rename_i h;cases h<;>lia
theorem zqgo:∀{a:Nat},a≤64→a<200:=by decide
theorem zqgp:∀{a:Nat},a≤128→a<200:=by decide
theorem zqgq:∀{a:Nat},a≤64→a<2^64:=by decide
theorem zqgr:∀{a b c:Nat},0<a→a=0→0< (b+c-1)/c:=by lia
theorem zqgs:∀{a:Nat},8≤(↑a:Int)→¬(↑a:Int)=0:=by lia
theorem zqgt:∀{a:Nat},8≤(↑a:Int)→8≤a:=by lia
theorem zqgu:∀{a b:Int},a%b<b→0≤b-1-a%b:=by lia
theorem zqgv:∀{a b:Int},0≤a%b→b-1-a%b<b:=by lia
theorem zqgw:∀{a:Int},8≤a→¬a=0:=by lia
theorem zqgx:∀{a:Int},8≤a→¬a<0:=by lia
theorem zqgy:∀{a:Int},a<0→0≤-a-1:=by simp+arith;done
theorem zqgz:∀{a:Int},-2^128<a→-a-1<2^128:=by lia
theorem zqgA:∀{a:Int},a≤-8→¬a=0:=by lia
theorem zqgB:∀{a:Int},a≤-8→a<0:=by lia
theorem zqgC:∀{a:Int},a≤-8→8≤-a:=by simp+arith;done
theorem zqgD:∀{a:Nat},a<5→(↑a:Int)<2^63:=by decide
theorem zqgE:∀{a:Nat},a<5→(↑a:Int)< (↑6:Int):=by decide
theorem zqgF:∀{a b:Nat},0≤(↑(min a b):Int):=by intros;exact Int.natCast_nonneg _
theorem zqgG:∀{a b:Nat},0≤(↑(max a b):Int):=by intros;exact Int.natCast_nonneg _
theorem zqgH:∀{a b:Nat},¬a+1=b→¬a+1=b:=by exact fun h=>h
theorem zqgI:∀{a b:Int},a=b*b+1∨a= -(b*b+1)→0<b*b+1→a≠0:=by intros;subst_vars;omega
theorem zqgJ:∀{a b:Int},a=b*b+1→0<b*b→-a<0:=by intros;subst_vars;omega
theorem zqgK:∀{a b:Int},a=b*b+1→0<b*b→0<a:=by intros;subst_vars;omega
theorem zqgL:∀{a b:Int},a=b*b+1→1000*1000≤b*b→2^10≤a:=by intros;subst_vars;lia
theorem zqgM:∀{a:Int},2^10≤a→0<a:=by intros;subst_vars;lia
theorem zqgN:∀{a:Int},1000<a→-2^64<a:=by lia
theorem zqgO:∀{a:Int},a≤2^30→a<2^64:=by lia
theorem zqgP:∀{a:Int},2^10≤a→8≤a:=by intros;subst_vars;lia
theorem zqgQ:∀{a:Int},a≤2^61→a<2^64:=by lia
theorem zqgR:∀{a:Int},a%2=1→¬a%2=0:=by lia
theorem zqgS:∀{a:Int},2^10≤a→-a≤-8:=by intros;subst_vars;lia
theorem zqgT:∀{a:Int},a≤2^61→-2^64< -a:=by lia
theorem zqgU:∀{a b c d:Nat},a<75→b≤a+2→c≤b+2→d≤c+2→d<90:=by lia
theorem zqgV:∀{a b c d e:Nat},a<75→b≤a+2→c≤b+2→d≤c+2→e≤d+2→e<90:=by lia
theorem zqgW:∀{a:Int},a%5=(↑(a%5).toNat:Int):=by lia
theorem zqgX:∀{a b:Int},a/5%19=b→-9≤b-9∧b-9≤9:=by intros;subst_vars;lia
theorem zqgY:∀{a b c:Int},a/5=b→a/5%19=c→b%19=c:=by intros;subst_vars;rfl
theorem zqgZ:∀{a b c d e:Int},a.natAbs+b.natAbs+c.natAbs+d.natAbs+e.natAbs≤100000→(-d).natAbs≤100000:=by lia
theorem zqha:∀{a b c d e:Int},a.natAbs+b.natAbs+c.natAbs+d.natAbs+e.natAbs≤100000→(-a).natAbs≤100000:=by lia
theorem zqhb:∀{a b c d e:Int},a.natAbs+b.natAbs+c.natAbs+d.natAbs+e.natAbs≤100000→(c+e).natAbs≤100000:=by lia
theorem zqhc:∀{a b c d e:Int},a.natAbs+b.natAbs+c.natAbs+d.natAbs+e.natAbs≤100000→(b+e).natAbs≤100000:=by lia
theorem zqhd:∀{a b c d e:Int},a.natAbs+b.natAbs+c.natAbs+d.natAbs+e.natAbs≤100000→(b+c).natAbs≤100000:=by lia
theorem zqhe:∀{a b c:Nat},a≤1+10*b→c≤a+10→c≤1+10*(b+1):=by lia
theorem zqhf:∀{a:Nat},0<a→a=1+(a-1):=by intros;rename_i h;cases h<;>lia
theorem zqhg:∀{a b:Nat},a≤1→b≤a+10→b≤1+10*1:=by lia
theorem zqhh:∀{a:Int},a%3=(↑(a%3).toNat:Int):=by lia
theorem zqhi:∀{a:Int},(a%3).toNat<3:=by lia
theorem zqhj:∀{a:Int} {b:Nat},a%3=(↑b:Int)→a%3=(↑b:Int):=by exact fun h=>h
theorem zqhk:∀{a:Int},a.natAbs<2^62→a.natAbs≤2^63:=by intros;exact Nat.le_of_lt (Nat.lt_of_lt_of_le ‹_› (by decide))
theorem zqhl:∀{a b:Int},a.natAbs<2^62→b.natAbs<2^62→(a+b).natAbs≤2^63:=by intros;subst_vars;omega
theorem zqhm:∀{a:Int},a.natAbs≤2^30→-2^64<a:=by lia
theorem zqhn:∀{a:Int},a.natAbs≤2^30→a<2^64:=by lia
theorem zqho:∀{a:Int},a.natAbs≤2^30*2^63→-2^128<a:=by lia
theorem zqhp:∀{a:Int},a.natAbs≤2^30*2^63→a<2^128:=by lia
theorem zqhq:∀{a b:Int},a=b*b+1→1000*1000≤b*b→8≤a:=by intros;subst_vars;lia
theorem zqhr:∀{a b:Int},a*a≤2^30*2^30→b=a*a+1→b<2^64:=by intros;subst_vars;omega
end Mine
set_option genSizeOf false
set_option genInjectivity false
namespace Mine
open PySem PySem.W PySem.W.X PyProof.Rows PySem.Spec PySem.Calls
noncomputable abbrev Cells:=List (Addr×Obj)
noncomputable def nth:Cells→Nat→Option (Addr×Obj)
 |[],_=>none
 |x::_,0=>some x
 |_::l,n+1=>nth l n
noncomputable def setN:Cells→Nat→Addr×Obj→Cells
 |[],_,_=>[]
 |_::l,0,y=>y::l
 |x::l,n+1,y=>x::setN l n y
theorem nth_mem{l:Cells}{n:Nat}{p:Addr×Obj}(h:nth l n=some p):p∈l:=by
 induction l generalizing n with
 |nil=>cases n<;>cases h
 |cons x l ih=>cases n with
  |zero=>cases h;exact .head _
  |succ n=>exact .tail _ (ih h)
noncomputable def plainO(o:Obj):Bool:=match o.data with
 | .fields vs=>match Nat.beq vs.size 19 with
  |true=>false
  |false=>true
 |_=>true
structure Base where
 prog:Program
 w:World
 stat:Addr→Option Obj
 ro:Cells
 top:Nat
 I:Heap→Prop
 push:∀h o,I h→I (h.push o)
 upd:∀h a f o,top≤a→h.get? a=some o→plainO o=true→I h→I (h.update a f)
 hold:∀h,I h→∀a o,stat a=some o→h.get? a=some o
 hro:∀h,I h→∀p∈ro,h.get? p.1=some p.2
 lim:∀h,I h→h.NoLimit
structure Rep (B:Base) (N:Nat) (h:Heap) (tab:Cells) (m:Nat):Prop where
 inv:B.I h
 size:h.objs.size=N+m
 top:B.top≤N
 cells:∀p∈tab,h.get? p.1=some p.2∧B.top≤p.1
 nd:(tab.map (·.1)).Nodup
section
variable {B:Base} {N:Nat} {h:Heap} {tab:Cells} {m:Nat}
theorem Rep.kt(R:Rep B N h tab m){a:Addr}{o:Obj}(e:B.stat a=some o):h.get? a=some o:=B.hold h R.inv a o e
theorem Rep.at(R:Rep B N h tab m){n:Nat}{p:Addr×Obj}(e:nth tab n=some p):h.get? p.1=some p.2:=(R.cells p (nth_mem e)).1
theorem Rep.atRo(R:Rep B N h tab m){n:Nat}{p:Addr×Obj}(e:nth B.ro n=some p):h.get? p.1=some p.2:=B.hro h R.inv p (nth_mem e)
theorem Rep.push(R:Rep B N h tab m){o:Obj}(hf:o.isFreed=false):Rep B N (h.push o) ((N+m,o)::tab) (m+1):=by
 refine⟨B.push _ _ R.inv,by rw[Heap.size_push,R.size];rfl,R.top,fun p hp=>?_,?_⟩
 ·rcases List.mem_cons.mp hp with rfl|hp
  ·exact⟨by rw[←R.size];exact Heap.get?_push_size _ hf,Nat.le_trans R.top (Nat.le_add_right _ _)⟩
  ·exact⟨Heap.get?_push_of_some _ (R.cells p hp).1,(R.cells p hp).2⟩
 ·rw[List.map_cons]
  refine List.nodup_cons.mpr ⟨fun hm=>?_,R.nd⟩
  obtain⟨p,hp,e⟩:=List.mem_map.mp hm
  have:=Heap.lt_size (R.cells p hp).1
  rw[R.size] at this
  exact absurd e (Nat.ne_of_lt this)
theorem setN_fst{l:Cells}{n:Nat}{p:Addr×Obj}{o:Obj}(e:nth l n=some p):(setN l n (p.1,o)).map (·.1)=l.map (·.1):=by
 induction l generalizing n with
 |nil=>cases n<;>cases e
 |cons x l ih=>cases n with
  |zero=>cases e;rfl
  |succ n=>
   show x.1::(setN l n (p.1,o)).map (·.1)=_
   rw[ih e];rfl
theorem setN_mem{l:Cells}{n:Nat}{p:Addr×Obj}{o:Obj}(e:nth l n=some p)(nd:(l.map (·.1)).Nodup):∀q∈setN l n (p.1,o),q=(p.1,o)∨(q∈l∧q.1≠p.1):=by
 induction l generalizing n with
 |nil=>cases n<;>cases e
 |cons x l ih=>
  rw[List.map_cons,List.nodup_cons] at nd
  cases n with
  |zero=>
   cases e
   intro q hq
   rcases List.mem_cons.mp hq with rfl|hq
   ·exact .inl rfl
   ·exact .inr ⟨.tail _ hq,fun z=>nd.1 (z▸List.mem_map_of_mem hq)⟩
  |succ n=>
   intro q hq
   rcases List.mem_cons.mp hq with rfl|hq
   ·exact .inr ⟨.head _,fun z=>nd.1 (z▸List.mem_map_of_mem (nth_mem (l:=l) (n:=n) e))⟩
   ·rcases ih e nd.2 q hq with r|⟨a,b⟩
    ·exact .inl r
    ·exact .inr ⟨.tail _ a,b⟩
theorem Rep.upd(R:Rep B N h tab m){n:Nat}{p:Addr×Obj}{f:Obj→Obj}(e:nth tab n=some p)(hp0:plainO p.2=true)(hf:(f p.2).isFreed=false):Rep B N (h.update p.1 f) (setN tab n (p.1,f p.2)) m:=by
 have hs:Heap.SameBut p.1 h (h.update p.1 f):=Heap.SameBut.update ..
 have hp:=R.cells p (nth_mem e)
 refine⟨B.upd _ _ _ _ hp.2 hp.1 hp0 R.inv,by rw[hs.1,R.size],R.top,fun q hq=>?_,by rw[setN_fst e];exact R.nd⟩
 rcases setN_mem e R.nd q hq with rfl|⟨a,b⟩
 ·refine⟨?_,hp.2⟩
  first|exact Heap.get?_update_self f hp.1 hf|exact Heap.get?_update_self _ hp.1 hf
 ·exact⟨(hs.2 _ b).trans (R.cells q a).1,(R.cells q a).2⟩
theorem Rep.flat(R:Rep B N h tab m):Rep B (N+m) h tab 0:=⟨R.inv,R.size,Nat.le_trans R.top (Nat.le_add_right _ _),R.cells,R.nd⟩
theorem Rep.sub(R:Rep B N h tab m){tab':Cells}(s:tab'.Sublist tab):Rep B N h tab' m:=⟨R.inv,R.size,R.top,fun p hp=>R.cells p (s.subset hp),R.nd.sublist (s.map _)⟩
theorem Rep.perm(R:Rep B N h tab m){tab':Cells}(s:tab.Perm tab'):Rep B N h tab' m:=⟨R.inv,R.size,R.top,fun p hp=>R.cells p (s.mem_iff.mpr hp),(s.map _).nodup_iff.mp R.nd⟩
end
set_option genInjectivity true in
inductive Ob where
 |addr (a:Addr)
 |code (c:Code)
 |tree (α:Type) (t:Sem α)
structure Ans where
 code:Code
 val:Nat→Value
 k:Nat
noncomputable def Ans.Ok(a:Ans)(prog:Program)(w:World):Prop:=∀(A:Around) (R:Result→Shared→Prop) (h:Heap) (gl:Array GenState) (d:Drawn) (t:Nat) (os:OsState),
 R (.ok (.ret (a.val t))) ⟨h,gl,d,t+a.k,os⟩→codeAny (model prog w) A a.code R ⟨h,gl,d,t,os⟩
noncomputable def AnsOk(prog:Program)(w:World):List Ans→Prop
 |[]=>True
 |a::l=>a.Ok prog w∧AnsOk prog w l
noncomputable def nthA:List Ans→Nat→Option Ans
 |[],_=>none
 |x::_,0=>some x
 |_::l,n+1=>nthA l n
theorem AnsOk.nth{prog:Program}{w:World}{l:List Ans}(h:AnsOk prog w l){n:Nat}{a:Ans}(e:nthA l n=some a):a.Ok prog w:=by
 induction l generalizing n with
 |nil=>cases n<;>cases e
 |cons x l ih=>cases n with
  |zero=>cases e;exact h.1
  |succ n=>exact ih h.2 e
structure EV where
 st:Bool→Setting
 stat:Addr→Option Obj
 ro:Cells
 N:Nat
 t₀:Nat
 hd:Option Value
 den:Code→Sem Fin
 ans:List Ans
structure Out (α:Type) where
 t:Sem α
 tab:Cells
 m:Nat
 i:Nat
 ob:List (Ob×Ob)
 adv:List Nat
structure OutC where
 r:Option Result
 tab:Cells
 m:Nat
 i:Nat
 ob:List (Ob×Ob)
 adv:List Nat
structure Ih where
 T:∀α:Type,Sem α→Cells→Nat→Nat→List (Ob×Ob)→List Nat→Out α
 C:Code→Cells→Nat→Nat→List (Ob×Ob)→List Nat→OutC
noncomputable def place(ro tab:Cells)(j:Nat):Option (Addr×Obj):=match Nat.blt j 4 with
 |true=>nth ro j
 |false=>nth tab (j-4)
noncomputable def stepT(V:EV)(ih:Ih)(α:Type)(t:Sem α)(tab:Cells)(m i:Nat)(ob:List (Ob×Ob))(adv:List Nat):Out α:=
 match t with
 | .rule _ k=>ih.T α (k ()) tab m i ob adv
 | .at _ k=>ih.T α (k ()) tab m i ob adv
 | .point _ k=>ih.T α (k ()) tab m i ob adv
 | .ask k=>ih.T α (k (V.st true)) tab m i ((.tree α (k (V.st false)),.tree α (k (V.st true)))::ob) adv
 | .fresh k=>ih.T α (k (V.t₀+i)) tab m (i+1) ob adv
 | .handled own k=>match own with
  |false=>ih.T α (k V.hd) tab m i ob adv
  |true=>⟨.handled own k,tab,m,i,ob,adv⟩
 | .alloc o k=>match o.isFreed with
  |true=>⟨.alloc o k,tab,m,i,ob,adv⟩
  |false=>ih.T α (k (V.N+m)) ((V.N+m,o)::tab) (m+1) i ob adv
 | .load a p k=>match adv with
  |[]=>⟨.load a p k,tab,m,i,ob,[]⟩
  |n::adv'=>match n with
   |0=>match V.stat a with
    |some o=>ih.T α (k o) tab m i ob adv'
    |none=>⟨.load a p k,tab,m,i,ob,n::adv'⟩
   |j+1=>match place V.ro tab j with
    |some q=>ih.T α (k q.2) tab m i ((.addr a,.addr q.1)::ob) adv'
    |none=>⟨.load a p k,tab,m,i,ob,n::adv'⟩
 | .loadIfAlive a k=>match adv with
  |[]=>⟨.loadIfAlive a k,tab,m,i,ob,[]⟩
  |n::adv'=>match n with
   |0=>match V.stat a with
    |some o=>ih.T α (k (some o)) tab m i ob adv'
    |none=>⟨.loadIfAlive a k,tab,m,i,ob,n::adv'⟩
   |j+1=>match place V.ro tab j with
    |some q=>ih.T α (k (some q.2)) tab m i ((.addr a,.addr q.1)::ob) adv'
    |none=>⟨.loadIfAlive a k,tab,m,i,ob,n::adv'⟩
 | .update a p f k=>match adv with
  |[]=>⟨.update a p f k,tab,m,i,ob,[]⟩
  |n::adv'=>match n with
   |0=>⟨.update a p f k,tab,m,i,ob,n::adv'⟩
   |j+1=>match nth tab j with
    |some q=>match(f q.2).isFreed with
     |false=>match plainO q.2 with
      |true=>ih.T α (k ()) (setN tab j (q.1,f q.2)) m i ((.addr a,.addr q.1)::ob) adv'
      |false=>⟨.update a p f k,tab,m,i,ob,n::adv'⟩
     |true=>⟨.update a p f k,tab,m,i,ob,n::adv'⟩
    |none=>⟨.update a p f k,tab,m,i,ob,n::adv'⟩
 | .call c h g l k=>match h with
  |some _=>⟨.call c h g l k,tab,m,i,ob,adv⟩
  |none=>match adv with
   |[]=>⟨.call c none g l k,tab,m,i,ob,[]⟩
   |n::adv'=>match n with
    |0=>match ih.C c tab m i ob adv' with
     |⟨some r,tab',m',i',ob',adv''⟩=>ih.T α (k r) tab' m' i' ob' adv''
     |⟨none,_,_,_,_,_⟩=>⟨.call c none g l k,tab,m,i,ob,n::adv'⟩
    |j+1=>match nthA V.ans j with
     |some a=>ih.T α (k (.ok (.ret (a.val (V.t₀+i))))) tab m (i+a.k) ((.code c,.code a.code)::ob) adv'
     |none=>⟨.call c none g l k,tab,m,i,ob,n::adv'⟩
 |t=>⟨t,tab,m,i,ob,adv⟩
noncomputable def stepC(V:EV)(ih:Ih)(c:Code)(tab:Cells)(m i:Nat)(ob:List (Ob×Ob))(adv:List Nat):OutC:=
 match ih.T Fin (V.den c) tab m i ob adv with
 |⟨t,tab',m',i',ob',adv'⟩=>match t with
  | .pure f=>match f with
   | .done f=>⟨some (.ok f),tab',m',i',ob',adv'⟩
   | .again c'=>match c'.quiet with
    |true=>ih.C c' tab' m' i' ob' adv'
    |false=>⟨none,tab',m',i',ob',adv'⟩
  | .raise e=>⟨some (.error e),tab',m',i',ob',adv'⟩
  |_=>⟨none,tab',m',i',ob',adv'⟩
noncomputable def ev(V:EV):Nat→Ih
 |0=>⟨fun _ t tab m i ob adv=>⟨t,tab,m,i,ob,adv⟩,fun _ tab m i ob adv=>⟨none,tab,m,i,ob,adv⟩⟩
 |n+1=>⟨stepT V (ev V n),stepC V (ev V n)⟩
noncomputable def Obs(ob:List (Ob×Ob)):Prop:=∀p∈ob,p.1=p.2
theorem Obs.of_map{ob:List (Ob×Ob)}(e:ob.map (·.1)=ob.map (·.2)):Obs ob:=by
 induction ob with
 |nil=>exact fun _ h=>nomatch h
 |cons p l ih=>
  rw[List.map_cons,List.map_cons] at e
  injection e with e1 e2
  intro q hq
  rcases List.mem_cons.mp hq with rfl|hq
  ·exact e1
  ·exact ih e2 q hq
theorem Obs.tail{p:Ob×Ob}{ob:List (Ob×Ob)}(h:Obs (p::ob)):Obs ob:=fun q hq=>h q (.tail _ hq)
structure MonoI (ih:Ih):Prop where
 T:∀α t tab m i ob adv,Obs (ih.T α t tab m i ob adv).ob→Obs ob
 C:∀c tab m i ob adv,Obs (ih.C c tab m i ob adv).ob→Obs ob
theorem stepT_mono(V:EV){ih:Ih}(H:MonoI ih)(α t tab m i ob adv)(h:Obs (stepT V ih α t tab m i ob adv).ob):Obs ob:=by
 cases t<;>unfold stepT at h<;>try dsimp only at h
 case rule=>exact H.T _ _ _ _ _ _ _ h
 case «at»=>exact H.T _ _ _ _ _ _ _ h
 case point=>exact H.T _ _ _ _ _ _ _ h
 case ask=>exact(H.T _ _ _ _ _ _ _ h).tail
 case fresh=>exact H.T _ _ _ _ _ _ _ h
 case handled own k=>cases own<;>first|exact h|exact H.T _ _ _ _ _ _ _ h
 case alloc o k=>split at h<;>first|exact h|exact H.T _ _ _ _ _ _ _ h
 case load=>
  split at h
  ·exact h
  ·split at h
   ·split at h<;>first|exact h|exact H.T _ _ _ _ _ _ _ h
   ·split at h<;>first|exact h|exact(H.T _ _ _ _ _ _ _ h).tail
 case loadIfAlive=>
  split at h
  ·exact h
  ·split at h
   ·split at h<;>first|exact h|exact H.T _ _ _ _ _ _ _ h
   ·split at h<;>first|exact h|exact(H.T _ _ _ _ _ _ _ h).tail
 case update=>
  split at h
  ·exact h
  ·split at h
   ·exact h
   ·split at h
    ·split at h
     ·split at h<;>first|exact h|exact(H.T _ _ _ _ _ _ _ h).tail
     ·exact h
    ·exact h
 case call=>
  split at h
  ·exact h
  ·split at h
   ·exact h
   ·split at h
    ·split at h
     ·rename_i q
      exact H.C _ _ _ _ _ _ (by rw[q];exact H.T _ _ _ _ _ _ _ h)
     ·exact h
    ·split at h
     ·exact(H.T _ _ _ _ _ _ _ h).tail
     ·exact h
 all_goals exact h
theorem stepC_mono(V:EV){ih:Ih}(H:MonoI ih)(c tab m i ob adv)(h:Obs (stepC V ih c tab m i ob adv).ob):Obs ob:=by
 unfold stepC at h
 split at h
 rename_i q
 refine H.T PySem.Fin (V.den c) tab m i ob adv ?_
 rw[q]
 split at h
 ·split at h
  ·exact h
  ·split at h
   ·exact H.C _ _ _ _ _ _ h
   ·exact h
 ·exact h
 ·exact h
theorem ev_mono(V:EV):∀n,MonoI (ev V n)
 |0=>⟨fun _ _ _ _ _ _ _ h=>h,fun _ _ _ _ _ _ h=>h⟩
 |n+1=>⟨fun α t tab m i ob adv h=>stepT_mono V (ev_mono V n) α t tab m i ob adv h,fun c tab m i ob adv h=>stepC_mono V (ev_mono V n) c tab m i ob adv h⟩
structure EV.Ok (V:EV) (B:Base) (prog:Program) (w:World) (A:Around):Prop where
 st:∃b,V.st b=⟨prog,w.params⟩
 stat:V.stat=B.stat
 ro:V.ro=B.ro
 hd:V.hd=A.handled
 den:V.den=denote table
 ans:AnsOk prog w V.ans
section
variable {V:EV} {B:Base} {prog:Program} {w:World}
structure SoundI (V:EV) (B:Base) (prog:Program) (w:World) (ih:Ih):Prop where
 T:∀(α:Type) (A:Around) (Q:α→Shared→Prop) (E:Value→Shared→Prop) (t:Sem α) tab m i ob adv h gl d os (x:Out α),V.Ok B prog w A→Rep B V.N h tab m→
  ih.T α t tab m i ob adv=x→Obs x.ob→
  (∀h',Rep B V.N h' x.tab x.m→wpAny (model prog w) A x.t Q E ⟨h',gl,d,V.t₀+x.i,os⟩)→
  wpAny (model prog w) A t Q E ⟨h,gl,d,V.t₀+i,os⟩
 C:∀(A:Around) (R:Result→Shared→Prop) (c:Code) tab m i ob adv h gl d os r (x:OutC),V.Ok B prog w A→Rep B V.N h tab m→
  ih.C c tab m i ob adv=x→x.r=some r→Obs x.ob→
  (∀h',Rep B V.N h' x.tab x.m→R r ⟨h',gl,d,V.t₀+x.i,os⟩)→
  codeAny (model prog w) A c R ⟨h,gl,d,V.t₀+i,os⟩
theorem wp_rule{α:Type}{M:Model}{A:Around}{Q:α→Shared→Prop}{E:Value→Shared→Prop}{s:Shared}{tag:String}{k:Unit→Sem α}(h:wpAny M A (k ()) Q E s):wpAny M A (.rule tag k) Q E s:=fun Γ p hΓ=>h Γ p hΓ
theorem wp_at{α:Type}{M:Model}{A:Around}{Q:α→Shared→Prop}{E:Value→Shared→Prop}{s:Shared}{q:Pos}{k:Unit→Sem α}(h:wpAny M A (k ()) Q E s):wpAny M A (.at q k) Q E s:=fun Γ _ hΓ=>h Γ q hΓ
theorem wp_point{α:Type}{M:Model}{A:Around}{Q:α→Shared→Prop}{E:Value→Shared→Prop}{s:Shared}{l:List Value}{k:Unit→Sem α}(h:wpAny M A (k ()) Q E s):wpAny M A (.point l k) Q E s:=fun Γ p hΓ=>h Γ p hΓ
theorem wp_alive{α:Type}{M:Model}{A:Around}{Q:α→Shared→Prop}{E:Value→Shared→Prop}{s:Shared}{a:Addr}{o:Obj}{k:Option Obj→Sem α}(ho:s.heap.get? a=some o)(h:wpAny M A (k (some o)) Q E s):wpAny M A (.loadIfAlive a k) Q E s:=fun Γ p hΓ=>by
 show Sem.wp _ _ (k (s.heap.get? a)) _ _ _ _
 rw[ho];exact h Γ p hΓ
theorem Ok.under{A:Around}(O:V.Ok B prog w A)(c:Code):V.Ok B prog w (A.under c):=⟨O.st,O.stat,O.ro,O.hd,O.den,O.ans⟩
theorem Ok.mark{A:Around}(O:V.Ok B prog w A):V.Ok B prog w (A.mark none):=⟨O.st,O.stat,O.ro,by rw[PySem.Around.mark_none];exact O.hd,O.den,O.ans⟩
theorem EV.Ok.at_place{A:Around}(O:V.Ok B prog w A){N:Nat}{h:Heap}{tab:Cells}{m:Nat}(R:Rep B N h tab m){j:Nat}{p:Addr×Obj}(e:place V.ro tab j=some p):h.get? p.1=some p.2:=by
 unfold place at e
 split at e
 ·exact R.atRo (O.ro▸e)
 ·exact R.at e
theorem stepT_sound{ih:Ih}(H:SoundI V B prog w ih)(HM:MonoI ih)(α:Type)(A:Around)(Q:α→Shared→Prop)(E:Value→Shared→Prop)(t:Sem α)(tab:Cells)(m i ob adv h gl d os)(x:Out α)
 (O:V.Ok B prog w A) (R:Rep B V.N h tab m) (hx:stepT V ih α t tab m i ob adv=x) (hob:Obs x.ob)
 (K:∀h',Rep B V.N h' x.tab x.m→wpAny (model prog w) A x.t Q E ⟨h',gl,d,V.t₀+x.i,os⟩):
 wpAny (model prog w) A t Q E ⟨h,gl,d,V.t₀+i,os⟩:=by
 cases t
 case rule=>exact wp_rule (H.T α A Q E _ _ _ _ _ _ _ _ _ _ _ O R hx hob K)
 case «at»=>exact wp_at (H.T α A Q E _ _ _ _ _ _ _ _ _ _ _ O R hx hob K)
 case point=>exact wp_point (H.T α A Q E _ _ _ _ _ _ _ _ _ _ _ O R hx hob K)
 case ask k=>
  have z:=H.T α A Q E _ _ _ _ _ _ _ _ _ _ _ O R hx hob K
  have q:k (V.st false)=k (V.st true):=by
   have e:Ob.tree α (k (V.st false))=Ob.tree α (k (V.st true)):=HM.T _ _ _ _ _ _ _ (hx▸hob) (_,_) (.head _)
   injection e
  obtain⟨b,hb⟩:=O.st
  have q':k ⟨prog,w.params⟩=k (V.st true):=by
   rw[←hb]
   cases b
   ·exact q
   ·rfl
  refine wpAny_bind (m:=ask) (f:=k) (wpAny_askSetting ?_)
  show wpAny (model prog w) A (k ⟨prog,w.params⟩) Q E _
  rw[q']
  exact z
 case fresh k=>exact wpAny_bind (m:=fresh) (f:=k) (wpAny_fresh (H.T α A Q E _ _ _ _ _ _ _ _ _ _ _ O R hx hob K))
 case handled own k=>
  cases own with
  |true=>subst hx;exact K h R
  |false=>
   have z:=H.T α A Q E _ _ _ _ _ _ _ _ _ _ _ O R hx hob K
   rw[O.hd] at z
   exact wpAny_bind (m:=handled) (f:=k) (wpAny_handled z)
 case alloc o k=>
  unfold stepT at hx
  dsimp only at hx
  split at hx
  ·subst hx;exact K h R
  ·rename_i hf
   refine wpAny_bind (m:=alloc o) (f:=k) (wpAny_alloc ?_)
   show wpAny _ _ (k h.objs.size) _ _ _
   rw[R.size]
   exact H.T α A Q E _ _ _ _ _ _ _ _ _ _ _ O (R.push hf) hx hob K
 case load a p k=>
  unfold stepT at hx
  dsimp only at hx
  split at hx
  ·subst hx;exact K h R
  ·split at hx
   ·split at hx
    ·rename_i e
     exact wpAny_bind (m:=loadPart a p) (f:=k) (wpAny_loadPart (R.kt (O.stat▸e)) (H.T α A Q E _ _ _ _ _ _ _ _ _ _ _ O R hx hob K))
    ·subst hx;exact K h R
   ·split at hx
    ·rename_i q e
     have ha:a=q.1:=Ob.addr.inj (HM.T _ _ _ _ _ _ _ (hx▸hob) (.addr a,.addr q.1) (.head _))
     exact wpAny_bind (m:=loadPart a p) (f:=k) (wpAny_loadPart (by rw[ha];exact O.at_place R e) (H.T α A Q E _ _ _ _ _ _ _ _ _ _ _ O R hx hob K))
    ·subst hx;exact K h R
 case loadIfAlive a k=>
  unfold stepT at hx
  dsimp only at hx
  split at hx
  ·subst hx;exact K h R
  ·split at hx
   ·split at hx
    ·rename_i e
     exact wp_alive (R.kt (O.stat▸e)) (H.T α A Q E _ _ _ _ _ _ _ _ _ _ _ O R hx hob K)
    ·subst hx;exact K h R
   ·split at hx
    ·rename_i q e
     have ha:a=q.1:=Ob.addr.inj (HM.T _ _ _ _ _ _ _ (hx▸hob) (.addr a,.addr q.1) (.head _))
     exact wp_alive (by rw[ha];exact O.at_place R e) (H.T α A Q E _ _ _ _ _ _ _ _ _ _ _ O R hx hob K)
    ·subst hx;exact K h R
 case update a p f k=>
  unfold stepT at hx
  dsimp only at hx
  split at hx
  ·subst hx;exact K h R
  ·split at hx
   ·subst hx;exact K h R
   ·split at hx
    ·rename_i q e
     split at hx
     ·rename_i hf
      split at hx
      rotate_left
      ·subst hx;exact K h R
      rename_i hpl
      have ha:a=q.1:=Ob.addr.inj (HM.T _ _ _ _ _ _ _ (hx▸hob) (.addr a,.addr q.1) (.head _))
      subst ha
      exact wpAny_bind (m:=updatePart q.1 p f) (f:=k) (wpAny_updatePart (R.at e) (H.T α A Q E _ _ _ _ _ _ _ _ _ _ _ O (R.upd e hpl hf) hx hob K))
     ·subst hx;exact K h R
    ·subst hx;exact K h R
 case call c hh g l k=>
  unfold stepT at hx
  dsimp only at hx
  split at hx
  ·subst hx;exact K h R
  ·split at hx
   ·subst hx;exact K h R
   ·split at hx
    ·split at hx
     ·rename_i r tab' m' i' ob' adv'' q
      refine x_call ?_ (by intro z;cases z)
      exact H.C (A.mark none) _ c _ _ _ _ _ _ _ _ _ r _ (Ok.mark O) R q rfl (HM.T _ _ _ _ _ _ _ (hx▸hob)) fun h' R'=>H.T α A Q E _ _ _ _ _ _ _ _ _ _ _ O R' hx hob K
     ·subst hx;exact K h R
    ·split at hx
     ·rename_i a ea
      have hc:c=a.code:=Ob.code.inj (HM.T _ _ _ _ _ _ _ (hx▸hob) (.code c,.code a.code) (.head _))
      subst hc
      refine x_call ?_ (by intro z;cases z)
      refine O.ans.nth ea (A.mark none) _ h gl d _ os ?_
      have z:=H.T α A Q E _ _ _ _ _ _ _ _ _ _ _ O R hx hob K
      rw[←Nat.add_assoc] at z
      exact z
     ·subst hx;exact K h R
 all_goals (unfold stepT at hx;dsimp only at hx;subst hx;exact K h R)
theorem stepC_sound{ih:Ih}(H:SoundI V B prog w ih)(HM:MonoI ih)(A:Around)(R:Result→Shared→Prop)(c:Code)(tab:Cells)(m i ob adv h gl d os r)(x:OutC)
 (O:V.Ok B prog w A) (Rp:Rep B V.N h tab m) (hx:stepC V ih c tab m i ob adv=x) (hr:x.r=some r) (hob:Obs x.ob)
 (K:∀h',Rep B V.N h' x.tab x.m→R r ⟨h',gl,d,V.t₀+x.i,os⟩):
 codeAny (model prog w) A c R ⟨h,gl,d,V.t₀+i,os⟩:=by
 refine x_code ?_
 rw[←O.den]
 unfold stepC at hx
 split at hx
 rename_i t tab' m' i' ob' adv' q
 have main:∀(_:Obs ob') (_:∀h',Rep B V.N h' tab' m'→wpAny (model prog w) (A.under c) t (fun fin s'=>match fin with| .done f=>R (.ok f) s'| .again c'=>c'.quiet=true∧codeAny (model prog w) A c' R s') (fun e s'=>R (.error e) s') ⟨h',gl,d,V.t₀+i',os⟩),
  wpAny (model prog w) (A.under c) (V.den c) (fun fin s'=>match fin with| .done f=>R (.ok f) s'| .again c'=>c'.quiet=true∧codeAny (model prog w) A c' R s') (fun e s'=>R (.error e) s') ⟨h,gl,d,V.t₀+i,os⟩:=fun hob' K'=>
  H.T Fin (A.under c) _ _ (V.den c) tab m i ob adv h gl d os _ (Ok.under O c) Rp q hob' K'
 split at hx
 ·split at hx
  ·subst hx;cases hr
   exact main hob fun h' R'=>wpAny_pure (K h' R')
  ·split at hx
   ·rename_i hq
    refine main (HM.C _ _ _ _ _ _ (hx▸hob)) fun h' R'=>wpAny_pure ⟨hq,?_⟩
    exact H.C A R _ _ _ _ _ _ _ _ _ _ r _ O R' hx hr hob K
   ·subst hx;cases hr
 ·subst hx;cases hr
  exact main hob fun h' R'=>wpAny_throw (K h' R')
 ·subst hx;cases hr
theorem ev_sound:∀n,SoundI V B prog w (ev V n)
 |0=>⟨fun _ _ _ _ _ _ _ _ _ _ h _ _ _ _ _ R hx _ K=>by subst hx;exact K h R,fun _ _ _ _ _ _ _ _ _ _ _ _ _ _ _ _ hx hr=>by subst hx;cases hr⟩
 |n+1=>⟨fun α A Q E t tab m i ob adv h gl d os x O R hx hob K=>stepT_sound (ev_sound n) (ev_mono V n) α A Q E t tab m i ob adv h gl d os x O R hx hob K,
  fun A R c tab m i ob adv h gl d os r x O Rp hx hr hob K=>stepC_sound (ev_sound n) (ev_mono V n) A R c tab m i ob adv h gl d os r x O Rp hx hr hob K⟩
end
noncomputable def En(B:Base)(n:Str)(t:Tok)(v:Value):DictEntry:=⟨PySem.W.ZFast.zw12210062019545310541 (B.w.params.strHash n.cps),.str n t,v⟩
noncomputable def S(l:List Nat):Str:=⟨⟨l⟩⟩
noncomputable def denZ:Code→Sem Fin:=PySem.W.ZFast.zw11892475500146522536 PySem.W.ZFast.tableZ
theorem denZ_eq:denote table=denZ:=by
 unfold denZ
 rw[←PySem.W.ZFast.tableZ_eq]
 exact congrFun PySem.W.ZFast.ze11892475500146522536 _
noncomputable def execsZ:List Stmt→Env→Sem Flow:=PySem.W.ZFast.zw12563942051412417395
theorem execsZ_eq:execs=execsZ:=PySem.W.ZFast.ze12563942051412417395
noncomputable def Base.ps(B:Base)(b:Bool):Params:={B.w.params with followText:=fun r=>if r="special-get-raises" then b else B.w.params.followText r}
theorem Base.ps_ok(B:Base):∃b,(⟨B.prog,B.ps b⟩:Setting)=⟨B.prog,B.w.params⟩:=
 ⟨B.w.params.followText "special-get-raises",congrArg (Setting.mk B.prog) (congrArg World.params (PySem.World.withFollow_self B.w "special-get-raises"))⟩
noncomputable abbrev MB(B:Base):Model:=model B.prog B.w
noncomputable def mkVA(B:Base)(N t₀:Nat)(ans:List Ans):EV:=⟨fun b=>⟨B.prog,B.ps b⟩,B.stat,B.ro,N,t₀,none,denZ,ans⟩
theorem mkVA_ok(B:Base){A:Around}(hh:A.handled=none)(N t₀:Nat){ans:List Ans}(ha:AnsOk B.prog B.w ans):(mkVA B N t₀ ans).Ok B B.prog B.w A:=⟨B.ps_ok,rfl,rfl,hh.symm,denZ_eq.symm,ha⟩
noncomputable def mkV(B:Base)(N t₀:Nat):EV:=mkVA B N t₀ []
theorem mkV_ok(B:Base){A:Around}(hh:A.handled=none)(N t₀:Nat):(mkV B N t₀).Ok B B.prog B.w A:=mkVA_ok B hh N t₀ trivial
noncomputable def pick(l:Cells)(bs:List Bool):Cells:=match bs with
 |[]=>l
 |b::bs=>match l with
  |[]=>[]
  |x::l=>match b with
   |true=>x::pick l bs
   |false=>pick l bs
termination_by structural bs
theorem pick_sub(l:Cells)(bs:List Bool):(pick l bs).Sublist l:=by
 induction bs generalizing l with
 |nil=>unfold pick;exact List.Sublist.refl _
 |cons b bs ih=>cases l with
  |nil=>unfold pick;exact List.Sublist.refl _
  |cons x l=>cases b with
   |true=>unfold pick;exact(ih l).cons_cons x
   |false=>unfold pick;exact(ih l).cons x
inductive Got (α:Type) where
 |val (a:α)
 |exc (e:Value)
 |call (c:Code)
 |load (a:Addr)
 |upd (a:Addr)
 |other
noncomputable def gotOf{α:Type}:Sem α→Got α
 | .pure a=>.val a
 | .raise e=>.exc e
 | .call c h _ _ _=>match h with
  |none=>.call c
  |some _=>.other
 | .load a _ _=>.load a
 | .update a _ _ _=>.upd a
 |_=>.other
noncomputable def callK{α:Type}:Sem α→Result→Sem α
 | .call _ _ _ _ k=>k
 |t=>fun _=>t
noncomputable def updF{α:Type}:Sem α→Obj→Obj
 | .update _ _ f _=>f
 |_=>id
noncomputable def updK{α:Type}:Sem α→Sem α
 | .update _ _ _ k=>k ()
 |t=>t
structure View (α:Type) where
 got:Got α
 tab:Cells
 m:Nat
 i:Nat
 ob:List Ob
noncomputable def view{α:Type}(x:Out α)(mask:List Bool):View α:=⟨gotOf x.t,pick x.tab mask,x.m,x.i,x.ob.map (·.1)⟩
section
variable {α:Type} {B:Base} {A:Around} {N t₀:Nat} {Q:α→Shared→Prop} {E:Value→Shared→Prop} {t:Sem α} {tab:Cells} {h:Heap} {gl:Array GenState} {d:Drawn} {os:OsState}
noncomputable abbrev runA(B:Base)(N t₀:Nat)(ans:List Ans)(n:Nat)(adv:List Nat){α:Type}(t:Sem α)(tab:Cells):Out α:=(ev (mkVA B N t₀ ans) n).T α t tab 0 0 [] adv
noncomputable abbrev run(B:Base)(N t₀:Nat)(n:Nat)(adv:List Nat){α:Type}(t:Sem α)(tab:Cells):Out α:=(ev (mkV B N t₀) n).T α t tab 0 0 [] adv
theorem seg_valA(hh:A.handled=none)(R:Rep B N h tab 0)(ans:List Ans)(n:Nat)(adv:List Nat)(mask:List Bool)(a:α)(tab':Cells)(m i:Nat)
 (e:view (runA B N t₀ ans n adv t tab) mask=⟨.val a,tab',m,i,(runA B N t₀ ans n adv t tab).ob.map (·.2)⟩) (ha:AnsOk B.prog B.w ans)
 (K:∀h' N' t',Rep B N' h' tab' 0→Q a ⟨h',gl,d,t',os⟩):wpAny (MB B) A t Q E ⟨h,gl,d,t₀,os⟩:=by
 generalize hx:runA B N t₀ ans n adv t tab=x at e
 unfold view at e
 injection e with e1 e2 e3 e4 e5
 refine(ev_sound (V:=mkVA B N t₀ ans) (B:=B) n).T α A Q E t tab 0 0 [] adv h gl d os x (mkVA_ok B hh N t₀ ha) R hx (Obs.of_map e5) fun h' R'=>?_
 have hv:x.t=.pure a:=by
  cases q:x.t<;>rw[q] at e1<;>unfold gotOf at e1<;>first|(cases e1;done)|(injection e1 with e1;rw[e1])|(dsimp only at e1;split at e1<;>cases e1)
 rw[hv]
 exact wpAny_pure (K h' (N+x.m) _ (e2▸(R'.sub (pick_sub _ mask)).flat))
theorem seg_callA(hh:A.handled=none)(R:Rep B N h tab 0)(ans:List Ans)(n:Nat)(adv:List Nat)(mask:List Bool)(c:Code)(tab':Cells)(m i:Nat)
 (e:view (runA B N t₀ ans n adv t tab) mask=⟨.call c,tab',m,i,(runA B N t₀ ans n adv t tab).ob.map (·.2)⟩) (ha:AnsOk B.prog B.w ans)
 (K:∀h' N' t',Rep B N' h' tab' 0→codeAny (MB B) A c (fun r s'=>wpAny (MB B) A (callK (runA B N t₀ ans n adv t tab).t r) Q E s') ⟨h',gl,d,t',os⟩):wpAny (MB B) A t Q E ⟨h,gl,d,t₀,os⟩:=by
 generalize hx:runA B N t₀ ans n adv t tab=x at e K
 unfold view at e
 injection e with e1 e2 e3 e4 e5
 refine(ev_sound (V:=mkVA B N t₀ ans) (B:=B) n).T α A Q E t tab 0 0 [] adv h gl d os x (mkVA_ok B hh N t₀ ha) R hx (Obs.of_map e5) fun h' R'=>?_
 have K':=K h' (N+x.m) (t₀+x.i) (e2▸(R'.sub (pick_sub _ mask)).flat)
 cases q:x.t<;>rw[q] at e1 K'<;>unfold gotOf at e1<;>dsimp only at e1
 case call c' hd g l k=>
  cases hd with
  |some _=>cases e1
  |none=>
   injection e1 with e1
   subst e1
   refine x_call ?_ (by intro z;cases z)
   rw[PySem.Around.mark_none]
   exact K'
 all_goals cases e1
theorem seg_updA(hh:A.handled=none)(R:Rep B N h tab 0)(ans:List Ans)(n:Nat)(adv:List Nat)(mask:List Bool)(a:Addr)(tab':Cells)(m i:Nat)
 (e:view (runA B N t₀ ans n adv t tab) mask=⟨.upd a,tab',m,i,(runA B N t₀ ans n adv t tab).ob.map (·.2)⟩) (ha:AnsOk B.prog B.w ans)
 (K:∀h' N' t',Rep B N' h' tab' 0→∃o,h'.get? a=some o∧wpAny (MB B) A (updK (runA B N t₀ ans n adv t tab).t) Q E ⟨h'.update a (updF (runA B N t₀ ans n adv t tab).t),gl,d,t',os⟩):wpAny (MB B) A t Q E ⟨h,gl,d,t₀,os⟩:=by
 generalize hx:runA B N t₀ ans n adv t tab=x at e K
 unfold view at e
 injection e with e1 e2 e3 e4 e5
 refine(ev_sound (V:=mkVA B N t₀ ans) (B:=B) n).T α A Q E t tab 0 0 [] adv h gl d os x (mkVA_ok B hh N t₀ ha) R hx (Obs.of_map e5) fun h' R'=>?_
 obtain⟨o,ho,K'⟩:=K h' (N+x.m) (t₀+x.i) (e2▸(R'.sub (pick_sub _ mask)).flat)
 cases q:x.t<;>rw[q] at e1 K'<;>unfold gotOf at e1<;>dsimp only at e1
 case update a' p f k=>
  injection e1 with e1
  subst e1
  exact wpAny_bind (m:=updatePart a' p f) (f:=k) (wpAny_updatePart ho K')
 case call c' hd g l k=>cases hd<;>cases e1
 all_goals cases e1
theorem seg_val(hh:A.handled=none)(R:Rep B N h tab 0)(n:Nat)(adv:List Nat)(mask:List Bool)(a:α)(tab':Cells)(m i:Nat)
 (e:view (run B N t₀ n adv t tab) mask=⟨.val a,tab',m,i,(run B N t₀ n adv t tab).ob.map (·.2)⟩)
 (K:∀h' N' t',Rep B N' h' tab' 0→Q a ⟨h',gl,d,t',os⟩):wpAny (MB B) A t Q E ⟨h,gl,d,t₀,os⟩:=
 seg_valA hh R [] n adv mask a tab' m i e trivial K
theorem seg_call(hh:A.handled=none)(R:Rep B N h tab 0)(n:Nat)(adv:List Nat)(mask:List Bool)(c:Code)(tab':Cells)(m i:Nat)
 (e:view (run B N t₀ n adv t tab) mask=⟨.call c,tab',m,i,(run B N t₀ n adv t tab).ob.map (·.2)⟩)
 (K:∀h' N' t',Rep B N' h' tab' 0→codeAny (MB B) A c (fun r s'=>wpAny (MB B) A (callK (run B N t₀ n adv t tab).t r) Q E s') ⟨h',gl,d,t',os⟩):wpAny (MB B) A t Q E ⟨h,gl,d,t₀,os⟩:=
 seg_callA hh R [] n adv mask c tab' m i e trivial K
theorem seg_upd(hh:A.handled=none)(R:Rep B N h tab 0)(n:Nat)(adv:List Nat)(mask:List Bool)(a:Addr)(tab':Cells)(m i:Nat)
 (e:view (run B N t₀ n adv t tab) mask=⟨.upd a,tab',m,i,(run B N t₀ n adv t tab).ob.map (·.2)⟩)
 (K:∀h' N' t',Rep B N' h' tab' 0→∃o,h'.get? a=some o∧wpAny (MB B) A (updK (run B N t₀ n adv t tab).t) Q E ⟨h'.update a (updF (run B N t₀ n adv t tab).t),gl,d,t',os⟩):wpAny (MB B) A t Q E ⟨h,gl,d,t₀,os⟩:=
 seg_updA hh R [] n adv mask a tab' m i e trivial K
end
noncomputable def finPost(B:Base)(A:Around)(R:Result→Shared→Prop)(f:Fin)(s':Shared):Prop:=match f with
 | .done f=>R (.ok f) s'
 | .again c'=>c'.quiet=true∧codeAny (MB B) A c' R s'
theorem code_tree{B:Base}{A:Around}{R:Result→Shared→Prop}{c:Code}{s:Shared}(h:wpAny (MB B) (A.under c) (denZ c) (finPost B A R) (fun e s'=>R (.error e) s') s):codeAny (MB B) A c R s:=by
 refine x_code ?_
 rw[denZ_eq]
 exact wpAny_mono h (fun f s' q=>by cases f<;>exact q) (fun _ _ q=>q)
theorem aN{prog:Program}{w:World}:AnsOk prog w []:=trivial
theorem aC{prog:Program}{w:World}{a:Ans}{l:List Ans}(h:a.Ok prog w)(t:AnsOk prog w l):AnsOk prog w (a::l):=⟨h,t⟩
noncomputable def fdOf(B:Base)(f:Addr):FuncData:=match B.stat f with
 |some o=>match o.data with
  | .func fd=>fd
  |_=>default
 |none=>default
noncomputable def bodyOf(fd:FuncData):List Stmt:=match fd.body with
 | .stmts b=>b
 |_=>[]
noncomputable def dotLocals:Str:=⟨#[46,60,108,111,99,97,108,115,62,46]⟩
noncomputable def envOf(fd:FuncData)(f L:Addr):Env:={scope:=fd.scope,locals:=L,globals:=fd.globals,cells:=fd.closure,qual:=fd.qualname++dotLocals,func:=some f,code:=fd.code,frame:=some L,builtins:=fd.builtins}
noncomputable def flowVal:Flow→Value
 | .ret v=>v
 |_=>.none
theorem func_rule{B:Base}{A:Around}{R:Result→Shared→Prop}{body:List Stmt}{env:Env}{s:Shared}
 (h:wpAny (MB B) (A.under (.func body env)) (execs body env) (fun f s'=>R (.ok (.ret (flowVal f))) s') (fun _ _=>False) s):codeAny (MB B) A (.func body env) R s:=by
 refine x_code ?_
 show wpAny _ _ (point >>= fun _=>((execs body env).onRaise (leaving env)) >>= fun f=>match f with| .ret v=>ret v|_=>ret .none) _ _ _
 refine wpAny_bind (wpAny_point (wpAny_bind (wpAny_onRaise (wpAny_mono h (fun f s' q=>?_) fun _ _ q=>q.elim))))
 cases f<;>exact wpAny_pure q
structure ViewS where
 t:Sem Fin
 tab:Cells
 m:Nat
 i:Nat
 ob:List Ob
noncomputable def viewS(x:Out Fin)(mask:List Bool):ViewS:=⟨x.t,pick x.tab mask,x.m,x.i,x.ob.map (·.1)⟩
theorem enter{B:Base}{A:Around}{R:Result→Shared→Prop}{N t₀:Nat}{tab:Cells}{h:Heap}{gl:Array GenState}{d:Drawn}{os:OsState}{f:Value}{args:Args}
 (hh:A.handled=none) (Rp:Rep B N h tab 0) (hd:A.depth<recursionLimit) (n:Nat) (adv:List Nat) (mask:List Bool) (body:List Stmt) (env:Env) (tab':Cells) (m i:Nat)
 (e:viewS (run B N t₀ n adv (denZ (.call f args)) tab) mask=⟨PySem.W.R.bindR (PySem.W.ZFast.enterX 0) (fun _=>.pure (.again (.func body env))),tab',m,i,(run B N t₀ n adv (denZ (.call f args)) tab).ob.map (·.2)⟩)
 (K:∀h' N' t',Rep B N' h' tab' 0→wpAny (MB B) (A.under (.func body env)) (execsZ body env) (fun f s'=>R (.ok (.ret (flowVal f))) s') (fun _ _=>False) ⟨h',gl,d,t',os⟩):
 codeAny (MB B) A (.call f args) R ⟨h,gl,d,t₀,os⟩:=by
 refine code_tree ?_
 generalize hx:run B N t₀ n adv (denZ (.call f args)) tab=x at e
 unfold viewS at e
 injection e with e1 e2 e3 e4 e5
 refine(ev_sound (V:=mkV B N t₀) (B:=B) n).T Fin _ _ _ _ tab 0 0 [] adv h gl d os x (mkV_ok B (A:=A.under (.call f args)) hh N t₀) Rp hx (Obs.of_map e5) fun h' R'=>?_
 rw[e1,←PySem.W.R.bindR_eq,←PySem.W.ZFast.enterX_eq]
 have hd':(A.under (.call f args)).depth<recursionLimit:=hd
 refine wpAny_bind (m:=enterFrame 0) (f:=fun _=>(Sem.pure (PySem.Fin.again (.func body env)):Sem PySem.Fin)) ?_
 refine wpAny_enterFrame (B.lim _ R'.inv) hd' ?_
 refine wpAny_pure ⟨rfl,func_rule ?_⟩
 rw[execsZ_eq]
 exact K h' (N+x.m) _ (e2▸(R'.sub (pick_sub _ mask)).flat)
theorem execs_append(a b:List Stmt)(env:Env):execs (a++b) env=execs a env >>= fun f=>match f with| .next=>execs b env|f=>pure f:=by
 induction a with
 |nil=>rfl
 |cons s r ih=>
  show(exec s env >>= fun f=>match f with| .next=>execs (r++b) env|f=>pure f)=(exec s env >>= fun f=>match f with| .next=>execs r env|f=>pure f) >>= _
  rw[bind_assoc]
  refine congrArg _ (funext fun f=>?_)
  cases f<;>first|exact ih|rfl
noncomputable def thenRun(B:Base)(A:Around)(l:List Stmt)(env:Env)(Q:Flow→Shared→Prop)(E:Value→Shared→Prop)(f:Flow)(s:Shared):Prop:=match f with
 | .next=>wpAny (MB B) A (execsZ l env) Q E s
 |f=>Q f s
theorem cut(n:Nat){B:Base}{A:Around}{Q:Flow→Shared→Prop}{E:Value→Shared→Prop}{l:List Stmt}{env:Env}{s:Shared}
 (h:wpAny (MB B) A (execsZ (l.take n) env) (thenRun B A (l.drop n) env Q E) E s):wpAny (MB B) A (execsZ l env) Q E s:=by
 rw[←execsZ_eq] at h⊢
 conv=>arg 3;rw[←List.take_append_drop n l,execs_append]
 refine wpAny_bind (wpAny_mono h (fun f s' q=>?_) fun _ _ q=>q)
 cases f<;>first|exact wpAny_pure q|(unfold thenRun at q;dsimp only at q;rw[←execsZ_eq] at q;exact q)
noncomputable def forT:Stmt→Expr
 | .For t _ _ _ _=>t
 |_=>default
noncomputable def forB:Stmt→List Stmt
 | .For _ _ b _ _=>b
 |_=>[]
noncomputable def forE:Stmt→List Stmt
 | .For _ _ _ e _=>e
 |_=>[]
noncomputable abbrev loopOf(s:Stmt)(it:Value)(env:Env):Code:=.forLoop (forT s) it (forB s) (forE s) env
end Mine
namespace Mine
open PySem PySem.Float64
noncomputable def fl(n:Int):UInt64:=ofFrac (decide (n<0)) n.natAbs (2^24)
theorem V_top:V (infMag-1)=(2^53-1)*2^2045:=by
 have e:infMag-1=2045*2^52+(2^53-1):=by decide
 rw[e]
 exact V_at (by decide) (.inl (by decide))
theorem right_exact{r:UInt64}{neg:Bool}{W D t:Nat}(h:Right r neg W D)(hD:0<D)(ht:t<infMag)(hW:W=D*V t):r=pack neg t:=by
 obtain⟨t',rfl,hle,hov,hn⟩:=h
 have hlt:t'<infMag:=by
  rcases Nat.lt_or_ge t' infMag with h|h
  ·exact h
  ·have e:=hov.mp (Nat.le_antisymm hle h)
   have h1:V t≤(2^53-1)*2^2045:=by rw[←V_top];exact V_mono (by exact zqev ht)
   rw[hW] at e
   have e2:D*((2^54-1)*2^2045)≤D*(2*V t):=by
    have:2*(D*V t)=D*(2*V t):=by rw[Nat.mul_left_comm]
    rw[←this];exact e
   have e3:=Nat.le_of_mul_le_mul_left e2 hD
   have h4:0<2^2045:=Nat.two_pow_pos _
   generalize 2^2045=K at*
   omega
 obtain⟨h1,_⟩:=hn hlt t
 have hz:dist W (D*V t)=0:=by rw[hW];unfold Float64.dist;omega
 rw[hz] at h1
 have h2:D*V t'=D*V t:=by
  unfold Float64.dist at h1
  exact ohM hW h1
 have h3:=Nat.eq_of_mul_eq_mul_left hD h2
 rcases Nat.lt_trichotomy t' t with q|q|q
 ·have:=V_lt q;omega
 ·rw[q]
 ·have:=V_lt q;omega
theorem rep_at(m:Nat)(h:m<2^53):∃t,t<infMag∧V t=m*2^1050:=by
 by_cases h0:m=0
 ·exact⟨0,by decide,by rw[h0,V_zero,Nat.zero_mul]⟩
 ·have hl:=(Nat.log2_lt h0).mpr h
  have h1:=Nat.log2_self_le h0
  have h2:=Nat.lt_log2_self (n:=m)
  generalize m.log2=l at*
  refine⟨(1050- (52-l))*2^52+m*2^(52-l),?_,?_⟩
  ·have h3:m*2^(52-l)<2^53:=by
    have e:2^53=2^(l+1)*2^(52-l):=by rw[←Nat.pow_add];congr 1;exact oeQ hl
    rw[e]
    exact Nat.mul_lt_mul_of_pos_right h2 (Nat.two_pow_pos _)
   have h4:(1050- (52-l))*2^52≤1050*2^52:=Nat.mul_le_mul_right _ (by omega)
   have:infMag=2047*2^52:=rfl
   omega
  ·rw[V_at]
   ·rw[Nat.mul_assoc,←Nat.pow_add]
    congr 2
    omega
   ·have e:2^53=2^(l+1)*2^(52-l):=by rw[←Nat.pow_add];congr 1;exact oeQ hl
    rw[e]
    exact Nat.mul_le_mul_right _ (Nat.le_of_lt h2)
   ·left
    have e:2^52=2^l*2^(52-l):=by rw[←Nat.pow_add];congr 1;omega
    rw[e]
    exact Nat.mul_le_mul_right _ h1
noncomputable def Fits(n:Int):Prop:=n.natAbs<2^53
theorem fl_right(n:Int):Right (fl n) (decide (n<0)) (n.natAbs*2^1050) 1:=by
 unfold fl
 refine ofFrac_right (by decide) ?_ (by decide)
 rw[Nat.mul_one,Nat.mul_assoc,←Nat.pow_add]
theorem eq_fl{r:UInt64}{W D:Nat}{n:Int}(hn:Fits n)(h:Right r (decide (n<0)) W D)(hD:0<D)(hW:W=D*(n.natAbs*2^1050)):r=fl n:=by
 obtain⟨t,ht,hv⟩:=rep_at n.natAbs hn
 rw[right_exact h hD ht (by rw[hv];exact hW),right_exact (fl_right n) (by decide) ht (by rw[hv,Nat.one_mul])]
theorem fl_dec{n:Int}(hn:Fits n):∃m e,decode (fl n)=.fin (decide (n<0)) m e∧m*2^(e+1074).toNat=n.natAbs*2^1050:=by
 obtain⟨t,ht,hv⟩:=rep_at n.natAbs hn
 rw[right_exact (fl_right n) (by decide) ht (by rw[hv,Nat.one_mul])]
 obtain⟨m,e,hd,h2⟩:=decode_pack (decide (n<0)) ht
 exact⟨m,e,hd,by rw[h2,hv]⟩
theorem fl_val{n:Int}(hn:Fits n):val (fl n)=n*2^1050:=by
 obtain⟨m,e,hd,hv⟩:=fl_dec hn
 rw[val_eq hd,hv]
 unfold sgn
 by_cases h:n<0
 ·rw[decide_eq_true h,if_pos rfl,Int.natCast_mul,←Int.neg_mul]
  congr 1
  omega
 ·rw[decide_eq_false h,if_neg Bool.false_ne_true,Int.natCast_mul]
  congr 1
  omega
theorem natAbs_scale(n:Int)(k:Nat):(n*2^k).natAbs=n.natAbs*2^k:=by
 rw[Int.natAbs_mul,Int.natAbs_pow];rfl
theorem scale_neg(n:Int)(k:Nat):decide (n*2^k<0)=decide (n<0):=by
 have hp:(0:Int)<2^k:=Int.pow_pos (by decide)
 refine decide_eq_decide.mpr ⟨fun h=>?_,fun h=>Int.mul_neg_of_neg_of_pos h hp⟩
 by_cases h2:n<0
 ·exact h2
 ·have:=Int.mul_nonneg (show 0≤n by exact odE h2) (Int.le_of_lt hp)
  omega
theorem fl_zero:fl 0=zero false:=by decide+kernel
theorem fl_add{a b:Int}(ha:Fits a)(hb:Fits b)(hc:Fits (a+b)):add (fl a) (fl b)=fl (a+b):=by
 obtain⟨m,e,hd,_⟩:=fl_dec ha
 obtain⟨k,f,hd',_⟩:=fl_dec hb
 have h:=add_right hd hd'
 rw[fl_val ha,fl_val hb,←Int.add_mul] at h
 by_cases hz:a+b=0
 ·rw[h.1 (by rw[hz,Int.zero_mul]),hz,fl_zero]
  have:(decide (a<0)&&decide (b<0))=false:=by
   rw[Bool.and_eq_false_iff]
   by_cases h1:a<0
   ·right;exact decide_eq_false (by omega)
   ·left;exact decide_eq_false h1
  rw[this]
 ·have hp:(0:Int)<2^1050:=Int.pow_pos (by decide)
  have h2:=h.2 (fun q=>by rcases Int.mul_eq_zero.mp q with q|q<;>omega)
  rw[scale_neg,natAbs_scale] at h2
  exact eq_fl hc h2 (by decide) (by rw[Nat.one_mul])
theorem fl_sub{a b:Int}(ha:Fits a)(hb:Fits b)(hc:Fits (a-b)):sub (fl a) (fl b)=fl (a-b):=by
 obtain⟨m,e,hd,_⟩:=fl_dec ha
 obtain⟨k,f,hd',_⟩:=fl_dec hb
 have h:=sub_right hd hd'
 rw[fl_val ha,fl_val hb,←Int.sub_mul] at h
 by_cases hz:a-b=0
 ·rw[h.1 (by rw[hz,Int.zero_mul]),hz,fl_zero]
  have:(decide (a<0)&& !decide (b<0))=false:=by
   have:a=b:=by omega
   rw[this];cases decide (b<0)<;>rfl
  rw[this]
 ·have hp:(0:Int)<2^1050:=Int.pow_pos (by decide)
  have h2:=h.2 (fun q=>by rcases Int.mul_eq_zero.mp q with q|q<;>omega)
  rw[scale_neg,natAbs_scale] at h2
  exact eq_fl hc h2 (by decide) (by rw[Nat.one_mul])
theorem fl_mul{a b c:Int}(ha:Fits a)(hb:Fits b)(hc:Fits c)(h0:0≤a)(h1:0≤b)(e:a*b=c*2^24):mul (fl a) (fl b)=fl c:=by
 obtain⟨m,f,hd,_⟩:=fl_dec ha
 obtain⟨k,g,hd',_⟩:=fl_dec hb
 have h:=mul_right hd hd'
 rw[fl_val ha,fl_val hb,natAbs_scale,natAbs_scale] at h
 have hc0:0≤c:=by
  have:=Int.mul_nonneg h0 h1
  rw[e] at this
  omega
 have hs:(decide (a<0)!=decide (b<0))=decide (c<0):=by
  rw[decide_eq_false (by exact oaH h0),decide_eq_false (by exact oaH h1),decide_eq_false (by exact oaH hc0)];rfl
 rw[hs] at h
 refine eq_fl hc h (Nat.two_pow_pos _) ?_
 have e':a.natAbs*b.natAbs=c.natAbs*2^24:=by rw[←Int.natAbs_mul,e,natAbs_scale]
 calc a.natAbs*2^1050*(b.natAbs*2^1050)=a.natAbs*b.natAbs*(2^1050*2^1050):=by generalize (2:Nat)^1050=K;ac_rfl
  _=c.natAbs*(2^24*(2^1050*2^1050)):=by rw[e',Nat.mul_assoc]
  _=2^1074*(c.natAbs*2^1050):=by
   have:(2:Nat)^1074=2^24*2^1050:=by rw[←Nat.pow_add]
   rw[this]
   generalize (2:Nat)^1050=K
   ac_rfl
theorem fl_div{a b c:Int}(ha:Fits a)(hb:Fits b)(hc:Fits c)(h1:0<b)(e:a*2^24=c*b):div (fl a) (fl b)=fl c:=by
 obtain⟨m,f,hd,_⟩:=fl_dec ha
 obtain⟨k,g,hd',hk⟩:=fl_dec hb
 have hk0:k≠0:=by
  intro z
  rw[z,Nat.zero_mul] at hk
  have:=Nat.mul_pos (show 0<b.natAbs by exact zqew h1) (Nat.two_pow_pos 1050)
  omega
 have h:=div_right hd hd' hk0
 rw[fl_val ha,fl_val hb,natAbs_scale,natAbs_scale] at h
 have hs:(decide (a<0)!=decide (b<0))=decide (c<0):=by
  rw[decide_eq_false (show¬b<0 by exact odF h1),Bool.bne_false]
  refine decide_eq_decide.mpr ⟨fun q=>?_,fun q=>?_⟩
  ·by_cases h2:c<0
   ·exact h2
   ·have:=Int.mul_nonneg (show 0≤c by exact odE h2) (Int.le_of_lt h1)
    rw[←e] at this
    exact zqcv q this
  ·have:=Int.mul_neg_of_neg_of_pos q h1
   rw[←e] at this
   exact oeR this
 rw[hs] at h
 refine eq_fl hc h (Nat.mul_pos (by exact oeS h1) (Nat.two_pow_pos _)) ?_
 have e':a.natAbs*2^24=c.natAbs*b.natAbs:=by rw[←natAbs_scale,e,Int.natAbs_mul]
 have e2:(2:Nat)^1074=2^24*2^1050:=by rw[←Nat.pow_add]
 calc a.natAbs*2^1050*2^1074=a.natAbs*2^24*(2^1050*2^1050):=by rw[e2];generalize (2:Nat)^1050=K;ac_rfl
  _=b.natAbs*2^1050*(c.natAbs*2^1050):=by rw[e'];generalize (2:Nat)^1050=K;ac_rfl
theorem fl_ofInt{i:Int}(h:Fits (i*2^24)):ofInt i=fl (i*2^24):=by
 have q:=ofInt_right i
 rw[←scale_neg i 24] at q
 refine eq_fl h q (by decide) ?_
 rw[Nat.one_mul,natAbs_scale,Nat.mul_assoc,←Nat.pow_add]
theorem fl_cmp{a b:Int}(ha:Fits a)(hb:Fits b):cmp (fl a) (fl b)=some (compare a b):=by
 obtain⟨m,f,hd,_⟩:=fl_dec ha
 obtain⟨k,g,hd',_⟩:=fl_dec hb
 rw[cmp_right hd hd',fl_val ha,fl_val hb]
 have hp:(0:Int)<2^1050:=Int.pow_pos (by decide)
 generalize (2:Int)^1050=K at*
 congr 1
 rcases Int.lt_trichotomy a b with h|h|h
 ·rw[Int.compare_eq_lt.mpr h,Int.compare_eq_lt.mpr (Int.mul_lt_mul_of_pos_right h hp)]
 ·subst h;simp
 ·rw[Int.compare_eq_gt.mpr h,Int.compare_eq_gt.mpr (Int.mul_lt_mul_of_pos_right h hp)]
theorem fl_isZero{a:Int}(ha:Fits a):isZero (fl a)=decide (a=0):=by
 obtain⟨m,f,hd,hv⟩:=fl_dec ha
 unfold isZero
 rw[hd]
 have hp:0<2^1050:=Nat.two_pow_pos _
 have hq:0<2^(f+1074).toNat:=Nat.two_pow_pos _
 cases m with
 |zero=>
  refine(decide_eq_true ?_).symm
  rw[Nat.zero_mul] at hv
  rcases Nat.mul_eq_zero.mp hv.symm with h|h<;>omega
 |succ m=>
  refine(decide_eq_false ?_).symm
  rintro rfl
  rw[Int.natAbs_zero,Nat.zero_mul] at hv
  rcases Nat.mul_eq_zero.mp hv with h|h<;>omega
theorem fl_isInf{a:Int}(ha:Fits a):isInf (fl a)=false:=by
 obtain⟨m,f,hd,_⟩:=fl_dec ha
 unfold isInf;rw[hd]
theorem fl_trunc{a:Int}(ha:Fits a)(h0:0≤a){s:Bool}{m:Nat}{e:Int}(hd:decode (fl a)=.fin s m e):truncOf s m e=a/2^24:=by
 obtain⟨m',e',hd',hv⟩:=fl_dec ha
 rw[hd'] at hd
 cases hd
 rw[decide_eq_false (show¬a<0 by exact oaH h0)]
 unfold truncOf floorOf sgn
 simp only[Bool.false_eq_true,if_false]
 have he:=decode_ge hd'
 obtain⟨n,rfl⟩:=Int.eq_ofNat_of_zero_le h0
 rw[Int.natAbs_natCast] at hv
 split
 ·rename_i hp
  have e1:(e+1074).toNat=e.toNat+1074:=by omega
  rw[e1,Nat.pow_add,←Nat.mul_assoc] at hv
  have e2:(2:Nat)^1074=2^24*2^1050:=by rw[←Nat.pow_add]
  rw[e2,←Nat.mul_assoc] at hv
  have h3:=Nat.eq_of_mul_eq_mul_right (Nat.two_pow_pos 1050) hv
  have h4:((m*2^e.toNat:Nat):Int)=m*2^e.toNat:=by simp
  rw[←h4,←h3]
  generalize m*2^e.toNat=z
  omega
 ·rename_i hp
  have e1:(-e).toNat+(e+1074).toNat=24+1050:=by omega
  have h2:n*2^(-e).toNat=m*2^24:=by
   have h3:n*2^(-e).toNat*2^1050=m*2^24*2^1050:=by
    calc n*2^(-e).toNat*2^1050=n*2^1050*2^(-e).toNat:=by generalize (2:Nat)^1050=K;ac_rfl
     _=m*(2^(-e).toNat*2^(e+1074).toNat):=by rw[←hv];ac_rfl
     _=m*2^24*2^1050:=by rw[←Nat.pow_add,e1,Nat.pow_add,Nat.mul_assoc]
   exact Nat.eq_of_mul_eq_mul_right (Nat.two_pow_pos 1050) h3
  have h4:((2:Int)^(-e).toNat)=((2^(-e).toNat:Nat):Int):=by simp
  rw[h4,Int.fdiv_eq_ediv_of_nonneg _ (Int.natCast_nonneg _),←Int.natCast_ediv]
  have h5:((n:Int)/2^24)=((n/2^24:Nat):Int):=by omega
  rw[h5]
  congr 1
  generalize hk:2^(-e).toNat=k at*
  have hkp:0<k:=hk▸Nat.two_pow_pos _
  have h6:m/k=m*2^24/ (k*2^24):=(Nat.mul_div_mul_right _ _ (Nat.two_pow_pos _)).symm
  rw[h6,←h2,Nat.mul_comm k,Nat.mul_div_mul_right _ _ hkp]
theorem roundMag_zero(d:Nat):roundMag 0 d=0:=by unfold roundMag;rfl
theorem ofBin_zero(neg:Bool)(g:Int):ofBin neg 0 g=zero neg:=by
 have h:(shift 0 1 g).1=0:=by unfold shift;split<;>simp
 show ofFrac neg (shift 0 1 g).1 (shift 0 1 g).2=_
 rw[h]
 unfold ofFrac zero
 rw[roundMag_zero]
theorem fl_mod1{a:Int}(h1:-(2^24)<a)(h2:a<2^24):(Float64.divmod (fl a) (fl (2^24))).2=fl (if a<0 then a+2^24 else a):=by
 have ha:Fits a:=by unfold Fits;omega
 have ho:Fits (2^24):=by unfold Fits;decide
 obtain⟨m,f,hd,hv⟩:=fl_dec ha
 have hf:fmod (fl a) (fl (2^24))=if a=0 then zero (decide (a<0)) else fl a:=by
  obtain⟨k,g,hd',hv'⟩:=fl_dec ho
  have hk0:k≠0:=by
   intro z
   rw[z,Nat.zero_mul] at hv'
   have:=Nat.mul_pos (show 0< ((2:Int)^24).natAbs by decide) (Nat.two_pow_pos 1050)
   omega
  have he:=decode_ge hd
  have hg:=decode_ge hd'
  have hfm:fmod (fl a) (fl (2^24))=ofBin (decide (a<0)) (m*2^(f-min f g).toNat%(k*2^(g-min f g).toNat)) (min f g):=by
   unfold fmod
   rw[hd,hd']
   simp only
   rw[if_neg (by simpa using hk0)]
   unfold align sgn
   simp only[Bool.false_eq_true,if_false,Int.toNat_natCast]
   done
  have e1:m*2^(f-min f g).toNat*2^(min f g+1074).toNat=a.natAbs*2^1050:=by
   rw[Nat.mul_assoc,←Nat.pow_add,←hv]
   congr 2
   omega
  have e2:k*2^(g-min f g).toNat*2^(min f g+1074).toNat=((2:Int)^24).natAbs*2^1050:=by
   rw[Nat.mul_assoc,←Nat.pow_add,←hv']
   congr 2
   omega
  have hlt:m*2^(f-min f g).toNat<k*2^(g-min f g).toNat:=by
   have hp:0<2^(min f g+1074).toNat:=Nat.two_pow_pos _
   refine Nat.lt_of_mul_lt_mul_right (a:=2^(min f g+1074).toNat) ?_
   rw[e1,e2]
   refine Nat.mul_lt_mul_of_pos_right ?_ (Nat.two_pow_pos _)
   have:((2:Int)^24).natAbs=2^24:=by decide
   exact zqex h1 h2
  rw[hfm,Nat.mod_eq_of_lt hlt]
  split
  ·rename_i hz
   have:m*2^(f-min f g).toNat=0:=by
    rw[hz,Int.natAbs_zero,Nat.zero_mul] at e1
    rcases Nat.mul_eq_zero.mp e1 with h|h
    ·exact h
    ·have:=Nat.two_pow_pos (min f g+1074).toNat
     omega
   rw[this]
   exact ofBin_zero _ _
  ·unfold ofBin
   have q:Right (ofFrac (decide (a<0)) (shift (m*2^(f-min f g).toNat) 1 (min f g)).1 (shift (m*2^(f-min f g).toNat) 1 (min f g)).2) (decide (a<0)) (a.natAbs*2^1050) 1:=by
    refine ofFrac_right (shift_pos _ _ _ (by decide)) ?_ (by decide)
    have:=shift_one (m*2^(f-min f g).toNat) (min f g) 1074 (by exact zqey he hg)
    rw[Nat.mul_one,←e1]
    exact this
   exact eq_fl ha q (by decide) (by rw[Nat.one_mul])
 unfold Float64.divmod
 simp only[hf]
 by_cases hz:a=0
 ·subst hz
  decide+kernel
 ·rw[if_neg hz,fl_isZero ha,decide_eq_false hz]
  simp only[Bool.false_eq_true,if_false]
  have hz0:zero false=fl 0:=fl_zero.symm
  have c1:lt (fl (2^24)) (zero false)=false:=by decide+kernel
  have c2:lt (fl a) (zero false)=decide (a<0):=by
   rw[hz0]
   unfold lt
   rw[fl_cmp ha (by unfold Fits;decide)]
   by_cases h:a<0
   ·rw[Int.compare_eq_lt.mpr h,decide_eq_true h];rfl
   ·rw[Int.compare_eq_gt.mpr (by exact ohN hz h),decide_eq_false h];rfl
  rw[c1,c2]
  by_cases h:a<0
  ·rw[decide_eq_true h,if_pos h]
   simp only[Bool.false_bne,if_true]
   rw[fl_add ha ho (by unfold Fits;omega)]
  ·rw[decide_eq_false h,if_neg h]
   rfl
end Mine
namespace Mine
open PySem PySem.W PySem.W.X PyProof.Rows PySem.Spec PySem.Calls
theorem ord_lt(a b:Int):(some (compare a b)==some Ordering.lt)=decide (a<b):=by
 rcases Int.lt_trichotomy a b with h|h|h
 ·rw[Int.compare_eq_lt.mpr h,decide_eq_true h];rfl
 ·rw[Int.compare_eq_eq.mpr h,decide_eq_false (by omega)];rfl
 ·rw[Int.compare_eq_gt.mpr h,decide_eq_false (by exact oeT h)];rfl
theorem ord_gt(a b:Int):(some (compare a b)==some Ordering.gt)=decide (b<a):=by
 rcases Int.lt_trichotomy a b with h|h|h
 ·rw[Int.compare_eq_lt.mpr h,decide_eq_false (by exact oeT h)];rfl
 ·rw[Int.compare_eq_eq.mpr h,decide_eq_false (by omega)];rfl
 ·rw[Int.compare_eq_gt.mpr h,decide_eq_true h];rfl
theorem ord_eq(a b:Int):(some (compare a b)==some Ordering.eq)=decide (a=b):=by
 rcases Int.lt_trichotomy a b with h|h|h
 ·rw[Int.compare_eq_lt.mpr h,decide_eq_false (by exact zqaC h)];rfl
 ·rw[Int.compare_eq_eq.mpr h,decide_eq_true h];rfl
 ·rw[Int.compare_eq_gt.mpr h,decide_eq_false (by omega)];rfl
theorem cmpO_eq{o:Option Ordering}{a b:Int}(h:o=some (compare a b)):(o==some Ordering.eq)=decide (a=b):=by rw[h,ord_eq]
theorem cmpO_lt{o:Option Ordering}{a b:Int}(h:o=some (compare a b)):(o==some Ordering.lt)=decide (a<b):=by rw[h,ord_lt]
theorem cmpO_gt{o:Option Ordering}{a b:Int}(h:o=some (compare a b)):(o==some Ordering.gt)=decide (b<a):=by rw[h,ord_gt]
theorem cmpO_le{o:Option Ordering}{a b:Int}(h:o=some (compare a b)):(o==some Ordering.lt||o==some Ordering.eq)=decide (a≤b):=by
 rw[cmpO_lt h,cmpO_eq h,←Bool.decide_or]
 exact decide_eq_decide.mpr (by omega)
theorem fl_frac{i j c:Int}(hj:0<j)(hc:Fits c)(e:i*2^24=c*j):Float64.ofFrac (decide (i<0)!=decide (j<0)) i.natAbs j.natAbs=fl c:=by
 have hs:(decide (i<0)!=decide (j<0))=decide (c<0):=by
  rw[decide_eq_false (show¬j<0 by exact odF hj),Bool.bne_false]
  refine decide_eq_decide.mpr ⟨fun q=>?_,fun q=>?_⟩
  ·by_cases h2:c<0
   ·exact h2
   ·have:=Int.mul_nonneg (show 0≤c by exact odE h2) (Int.le_of_lt hj)
    rw[←e] at this
    exact zqcv q this
  ·have:=Int.mul_neg_of_neg_of_pos q hj
   rw[←e] at this
   exact oeR this
 rw[hs]
 have e':i.natAbs*2^24=c.natAbs*j.natAbs:=by rw[←natAbs_scale,e,Int.natAbs_mul]
 refine eq_fl hc (Float64.ofFrac_right (W:=c.natAbs*2^1050) (D:=1) (by exact oeS hj) ?_ (by decide)) (by decide) (by rw[Nat.one_mul])
 have e2:(2:Nat)^1074=2^24*2^1050:=by rw[←Nat.pow_add]
 rw[Nat.mul_one,e2,←Nat.mul_assoc,e']
 generalize (2:Nat)^1050=K
 ac_rfl
section
variable {B:Base} {A:Around} {R:Result→Shared→Prop} {h:Heap} {gl:Array GenState} {d:Drawn} {t:Nat} {os:OsState}
theorem gvc{T:String}{name:Str}{id:String}{b:Builtin}{self:Value}{rest:List Value}{m:Made}(slot:Slot T name id)(hT:(⟨h,gl,d,t,os⟩:Shared).TypeIs self T)(entry:entryFor table id=some b)
 (args:argsOk id ⟨self::rest,[]⟩) (g:Gives (b ⟨self::rest,[]⟩) m) (K:m.post (fun v s'=>R (.ok (.ret v)) s') ⟨h,gl,d,t,os⟩):codeAny (MB B) A (.call (.builtin id) ⟨self::rest,[]⟩) R ⟨h,gl,d,t,os⟩:=
 codeAny_call_builtin slot.plain entry (slot.check _ _ _ _ _ _ _ _ hT args (g B.prog B.w A R _ K))
variable {x y:UInt64} {u v:Tok} {a b c i j:Int}
theorem ofInt_inf(hi:Fits (i*2^24)):¬Float64.isInf (Float64.ofInt i)=true:=by rw[fl_ofInt hi,fl_isInf hi];exact Bool.false_ne_true
theorem f_add_ff(hx:x=fl a)(hy:y=fl b)(ha:Fits a)(hb:Fits b)(hc:Fits c)(e:a+b=c)
 (K:R (.ok (.ret (.float (fl c) t))) ⟨h,gl,d,t+1,os⟩):codeAny (MB B) A (.call (.builtin "float.__add__") ⟨[.float x u,.float y v],[]⟩) R ⟨h,gl,d,t,os⟩:=by
 subst hx hy
 refine gvc F.slot_float_add rfl F.entry_float_add (F.args_float_add_2 _ _) (AutoFloatG4.float___add___float_float_0 _ _ _ _) ?_
 show R (.ok (.ret (.float (Float64.add (fl a) (fl b)) t))) ⟨h,gl,d,t+1,os⟩
 rw[show Float64.add (fl a) (fl b)=fl c from e▸fl_add ha hb (e▸hc)];exact K
theorem f_sub_ff(hx:x=fl a)(hy:y=fl b)(ha:Fits a)(hb:Fits b)(hc:Fits c)(e:a-b=c)
 (K:R (.ok (.ret (.float (fl c) t))) ⟨h,gl,d,t+1,os⟩):codeAny (MB B) A (.call (.builtin "float.__sub__") ⟨[.float x u,.float y v],[]⟩) R ⟨h,gl,d,t,os⟩:=by
 subst hx hy
 refine gvc F.slot_float_sub rfl F.entry_float_sub (F.args_float_sub_2 _ _) (AutoFloatG0.float___sub___float_float_0 _ _ _ _) ?_
 show R (.ok (.ret (.float (Float64.sub (fl a) (fl b)) t))) ⟨h,gl,d,t+1,os⟩
 rw[show Float64.sub (fl a) (fl b)=fl c from e▸fl_sub ha hb (e▸hc)];exact K
theorem f_mul_ff(hx:x=fl a)(hy:y=fl b)(ha:Fits a)(hb:Fits b)(hc:Fits c)(h0:0≤a)(h1:0≤b)(e:a*b=c*2^24)
 (K:R (.ok (.ret (.float (fl c) t))) ⟨h,gl,d,t+1,os⟩):codeAny (MB B) A (.call (.builtin "float.__mul__") ⟨[.float x u,.float y v],[]⟩) R ⟨h,gl,d,t,os⟩:=by
 subst hx hy
 refine gvc F.slot_float_mul rfl F.entry_float_mul (F.args_float_mul_2 _ _) (AutoFloatG1.float___mul___float_float_0 _ _ _ _) ?_
 show R (.ok (.ret (.float (Float64.mul (fl a) (fl b)) t))) ⟨h,gl,d,t+1,os⟩
 rw[fl_mul ha hb hc h0 h1 e];exact K
theorem f_div_ff(hx:x=fl a)(hy:y=fl b)(ha:Fits a)(hb:Fits b)(hc:Fits c)(h1:0<b)(e:a*2^24=c*b)
 (K:R (.ok (.ret (.float (fl c) t))) ⟨h,gl,d,t+1,os⟩):codeAny (MB B) A (.call (.builtin "float.__truediv__") ⟨[.float x u,.float y v],[]⟩) R ⟨h,gl,d,t,os⟩:=by
 subst hx hy
 refine gvc F.slot_float_truediv rfl F.entry_float_truediv (F.args_float_truediv_2 _ _) (AutoFloatG1.float___truediv___float_float_1 _ _ _ _ (by rw[fl_isZero hb];simp only[decide_eq_true_eq];exact obC h1)) ?_
 show R (.ok (.ret (.float (Float64.div (fl a) (fl b)) t))) ⟨h,gl,d,t+1,os⟩
 rw[fl_div ha hb hc h1 e];exact K
theorem f_mod_1(hx:x=fl a)(hy:y=fl (2^24))(h1:-(2^24)<a)(h2:a<2^24)(e:(if a<0 then a+2^24 else a)=c)
 (K:R (.ok (.ret (.float (fl c) t))) ⟨h,gl,d,t+1,os⟩):codeAny (MB B) A (.call (.builtin "float.__mod__") ⟨[.float x u,.float y v],[]⟩) R ⟨h,gl,d,t,os⟩:=by
 subst hx hy
 refine gvc F.slot_float_mod rfl F.entry_float_mod (F.args_float_mod_2 _ _) (AutoFloatG2.float___mod___float_float_1 _ _ _ _ (by decide+kernel)) ?_
 show R (.ok (.ret (.float (Float64.divmod (fl a) (fl (2^24))).2 t))) ⟨h,gl,d,t+1,os⟩
 rw[fl_mod1 h1 h2,e];exact K
theorem f_sub_fi(hx:x=fl a)(ha:Fits a)(hi:Fits (i*2^24))(hc:Fits c)(e:a-i*2^24=c)
 (K:R (.ok (.ret (.float (fl c) t))) ⟨h,gl,d,t+1,os⟩):codeAny (MB B) A (.call (.builtin "float.__sub__") ⟨[.float x u,.int i v],[]⟩) R ⟨h,gl,d,t,os⟩:=by
 subst hx
 refine gvc F.slot_float_sub rfl F.entry_float_sub (F.args_float_sub_2 _ _) (AutoFloatG3.float___sub___float_int_1 _ _ _ _ (ofInt_inf hi)) ?_
 show R (.ok (.ret (.float (Float64.sub (fl a) (Float64.ofInt i)) t))) ⟨h,gl,d,t+1,os⟩
 rw[fl_ofInt hi,show Float64.sub (fl a) (fl (i*2^24))=fl c from e▸fl_sub ha hi (e▸hc)];exact K
theorem f_mul_fi(hx:x=fl a)(ha:Fits a)(hi:Fits (i*2^24))(hc:Fits c)(h0:0≤a)(h1:0≤i)(e:a*i=c)
 (K:R (.ok (.ret (.float (fl c) t))) ⟨h,gl,d,t+1,os⟩):codeAny (MB B) A (.call (.builtin "float.__mul__") ⟨[.float x u,.int i v],[]⟩) R ⟨h,gl,d,t,os⟩:=by
 subst hx
 refine gvc F.slot_float_mul rfl F.entry_float_mul (F.args_float_mul_2 _ _) (AutoFloatG3.float___mul___float_int_1 _ _ _ _ (ofInt_inf hi)) ?_
 show R (.ok (.ret (.float (Float64.mul (fl a) (Float64.ofInt i)) t))) ⟨h,gl,d,t+1,os⟩
 rw[fl_ofInt hi,fl_mul ha hi hc h0 (Int.mul_nonneg h1 (by decide)) (by rw[←e,Int.mul_assoc])];exact K
theorem f_eq_ff{r:Bool}(hx:x=fl a)(ha:Fits a)(hy:y=fl b)(hb:Fits b)(e:decide (a=b)=r)
 (K:R (.ok (.ret (.bool r))) ⟨h,gl,d,t,os⟩):codeAny (MB B) A (.call (.builtin "float.__eq__") ⟨[.float x u,.float y v],[]⟩) R ⟨h,gl,d,t,os⟩:=by
 subst hx hy e
 refine gvc F.slot_float_eq rfl F.entry_float_eq (F.args_float_eq_2 _ _) (AutoFloatG5.float___eq___float_float_0 _ _ _ _) ?_
 show R (.ok (.ret (.bool _))) ⟨h,gl,d,t,os⟩
 dsimp only
 rw[cmpO_eq (fl_cmp ha hb)];exact K
theorem f_lt_ff{r:Bool}(hx:x=fl a)(ha:Fits a)(hy:y=fl b)(hb:Fits b)(e:decide (a<b)=r)
 (K:R (.ok (.ret (.bool r))) ⟨h,gl,d,t,os⟩):codeAny (MB B) A (.call (.builtin "float.__lt__") ⟨[.float x u,.float y v],[]⟩) R ⟨h,gl,d,t,os⟩:=by
 subst hx hy e
 refine gvc F.slot_float_lt rfl F.entry_float_lt (F.args_float_lt_2 _ _) (AutoFloatG5.float___lt___float_float_0 _ _ _ _) ?_
 show R (.ok (.ret (.bool _))) ⟨h,gl,d,t,os⟩
 dsimp only
 rw[cmpO_lt (fl_cmp ha hb)];exact K
theorem f_gt_ff{r:Bool}(hx:x=fl a)(ha:Fits a)(hy:y=fl b)(hb:Fits b)(e:decide (b<a)=r)
 (K:R (.ok (.ret (.bool r))) ⟨h,gl,d,t,os⟩):codeAny (MB B) A (.call (.builtin "float.__gt__") ⟨[.float x u,.float y v],[]⟩) R ⟨h,gl,d,t,os⟩:=by
 subst hx hy e
 refine gvc F.slot_float_gt rfl F.entry_float_gt (F.args_float_gt_2 _ _) (AutoFloatG4.float___gt___float_float_0 _ _ _ _) ?_
 show R (.ok (.ret (.bool _))) ⟨h,gl,d,t,os⟩
 dsimp only
 rw[cmpO_gt (fl_cmp ha hb)];exact K
theorem f_le_ff{r:Bool}(hx:x=fl a)(ha:Fits a)(hy:y=fl b)(hb:Fits b)(e:decide (a≤b)=r)
 (K:R (.ok (.ret (.bool r))) ⟨h,gl,d,t,os⟩):codeAny (MB B) A (.call (.builtin "float.__le__") ⟨[.float x u,.float y v],[]⟩) R ⟨h,gl,d,t,os⟩:=by
 subst hx hy e
 refine gvc F.slot_float_le rfl F.entry_float_le (F.args_float_le_2 _ _) (AutoFloatG3.float___le___float_float_0 _ _ _ _) ?_
 show R (.ok (.ret (.bool _))) ⟨h,gl,d,t,os⟩
 dsimp only
 rw[cmpO_le (fl_cmp ha hb)];exact K
theorem i_add(e:i+j=c)
 (K:R (.ok (.ret (.int c t))) ⟨h,gl,d,t+1,os⟩):codeAny (MB B) A (.call (.builtin "int.__add__") ⟨[.int i u,.int j v],[]⟩) R ⟨h,gl,d,t,os⟩:=by
 subst e
 exact gvc F.slot_int_add rfl F.entry_int_add (F.args_int_add_2 _ _) (AutoIntG4.int___add___int_int_0 _ _ _ _) K
theorem i_mul(hs:Builtin.Int.intBits i≤64∨Builtin.Int.intBits j≤64)(e:i*j=c)
 (K:R (.ok (.ret (.int c t))) ⟨h,gl,d,t+1,os⟩):codeAny (MB B) A (.call (.builtin "int.__mul__") ⟨[.int i u,.int j v],[]⟩) R ⟨h,gl,d,t,os⟩:=by
 subst e
 exact gvc F.slot_int_mul rfl F.entry_int_mul (F.args_int_mul_2 _ _) (AutoIntG1.int___mul___int_int_0 _ _ _ _ (hs.elim IntMulOk.of_left IntMulOk.of_right)) K
theorem i_mod(hj:j≠0)(e:i.fmod j=c)
 (K:R (.ok (.ret (.int c t))) ⟨h,gl,d,t+1,os⟩):codeAny (MB B) A (.call (.builtin "int.__mod__") ⟨[.int i u,.int j v],[]⟩) R ⟨h,gl,d,t,os⟩:=by
 subst e
 exact gvc F.slot_int_mod rfl F.entry_int_mod (F.args_int_mod_2 _ _) (AutoIntG6.int___mod___int_int_1 _ _ _ _ (by simpa using hj)) K
theorem i_fdiv(hj:j≠0)(hp:Builtin.divisionGoesByPylong i j=false)(e:i.fdiv j=c)
 (K:R (.ok (.ret (.int c t))) ⟨h,gl,d,t+1,os⟩):codeAny (MB B) A (.call (.builtin "int.__floordiv__") ⟨[.int i u,.int j v],[]⟩) R ⟨h,gl,d,t,os⟩:=by
 subst e
 exact gvc F.slot_int_floordiv rfl F.entry_int_floordiv (F.args_int_floordiv_2 _ _) (AutoIntG4.int___floordiv___int_int_1 _ _ _ _ (by simpa using hj) (by rw[hp];exact Bool.false_ne_true)) K
theorem i_eq{r:Bool}(e:decide (i=j)=r)
 (K:R (.ok (.ret (.bool r))) ⟨h,gl,d,t,os⟩):codeAny (MB B) A (.call (.builtin "int.__eq__") ⟨[.int i u,.int j v],[]⟩) R ⟨h,gl,d,t,os⟩:=by
 subst e
 refine gvc F.slot_int_eq rfl F.entry_int_eq (F.args_int_eq_2 _ _) (AutoIntG7.int___eq___int_int_0 _ _ _ _) ?_
 show R (.ok (.ret (.bool _))) ⟨h,gl,d,t,os⟩
 dsimp only
 first|exact K|(rw[show(i==j)=decide (i=j) from rfl];exact K)|(rw[show(i !=j)=decide (i≠j) from by by_cases q:i=j<;>simp[q]];exact K)
theorem i_eq'{r:Bool}(e:decide (i=j)=r):(⟨(.call (.builtin "int.__eq__") ⟨[.int i u,.int j v],[]⟩),fun t=>((.bool r)),0⟩:Ans).Ok B.prog B.w:=fun _ _ _ _ _ _ _ K=>i_eq e K
theorem i_ne{r:Bool}(e:decide (i≠j)=r)
 (K:R (.ok (.ret (.bool r))) ⟨h,gl,d,t,os⟩):codeAny (MB B) A (.call (.builtin "int.__ne__") ⟨[.int i u,.int j v],[]⟩) R ⟨h,gl,d,t,os⟩:=by
 subst e
 refine gvc F.slot_int_ne rfl F.entry_int_ne (F.args_int_ne_2 _ _) (AutoIntG6.int___ne___int_int_0 _ _ _ _) ?_
 show R (.ok (.ret (.bool _))) ⟨h,gl,d,t,os⟩
 dsimp only
 first|exact K|(rw[show(i==j)=decide (i=j) from rfl];exact K)|(rw[show(i !=j)=decide (i≠j) from by by_cases q:i=j<;>simp[q]];exact K)
theorem i_ne'{r:Bool}(e:decide (i≠j)=r):(⟨(.call (.builtin "int.__ne__") ⟨[.int i u,.int j v],[]⟩),fun t=>((.bool r)),0⟩:Ans).Ok B.prog B.w:=fun _ _ _ _ _ _ _ K=>i_ne e K
theorem i_lt{r:Bool}(e:decide (i<j)=r)
 (K:R (.ok (.ret (.bool r))) ⟨h,gl,d,t,os⟩):codeAny (MB B) A (.call (.builtin "int.__lt__") ⟨[.int i u,.int j v],[]⟩) R ⟨h,gl,d,t,os⟩:=by
 subst e
 refine gvc F.slot_int_lt rfl F.entry_int_lt (F.args_int_lt_2 _ _) (AutoIntG1.int___lt___int_int_0 _ _ _ _) ?_
 show R (.ok (.ret (.bool _))) ⟨h,gl,d,t,os⟩
 dsimp only
 first|exact K|(rw[show(i==j)=decide (i=j) from rfl];exact K)|(rw[show(i !=j)=decide (i≠j) from by by_cases q:i=j<;>simp[q]];exact K)
theorem i_lt'{r:Bool}(e:decide (i<j)=r):(⟨(.call (.builtin "int.__lt__") ⟨[.int i u,.int j v],[]⟩),fun t=>((.bool r)),0⟩:Ans).Ok B.prog B.w:=fun _ _ _ _ _ _ _ K=>i_lt e K
theorem i_le{r:Bool}(e:decide (i≤j)=r)
 (K:R (.ok (.ret (.bool r))) ⟨h,gl,d,t,os⟩):codeAny (MB B) A (.call (.builtin "int.__le__") ⟨[.int i u,.int j v],[]⟩) R ⟨h,gl,d,t,os⟩:=by
 subst e
 refine gvc F.slot_int_le rfl F.entry_int_le (F.args_int_le_2 _ _) (AutoIntG1.int___le___int_int_0 _ _ _ _) ?_
 show R (.ok (.ret (.bool _))) ⟨h,gl,d,t,os⟩
 dsimp only
 first|exact K|(rw[show(i==j)=decide (i=j) from rfl];exact K)|(rw[show(i !=j)=decide (i≠j) from by by_cases q:i=j<;>simp[q]];exact K)
theorem i_gt{r:Bool}(e:decide (i>j)=r)
 (K:R (.ok (.ret (.bool r))) ⟨h,gl,d,t,os⟩):codeAny (MB B) A (.call (.builtin "int.__gt__") ⟨[.int i u,.int j v],[]⟩) R ⟨h,gl,d,t,os⟩:=by
 subst e
 refine gvc F.slot_int_gt rfl F.entry_int_gt (F.args_int_gt_2 _ _) (AutoIntG4.int___gt___int_int_0 _ _ _ _) ?_
 show R (.ok (.ret (.bool _))) ⟨h,gl,d,t,os⟩
 dsimp only
 first|exact K|(rw[show(i==j)=decide (i=j) from rfl];exact K)|(rw[show(i !=j)=decide (i≠j) from by by_cases q:i=j<;>simp[q]];exact K)
theorem i_truediv(hj:0<j)(hc:Fits c)(e:i*2^24=c*j)
 (K:R (.ok (.ret (.float (fl c) t))) ⟨h,gl,d,t+1,os⟩):codeAny (MB B) A (.call (.builtin "int.__truediv__") ⟨[.int i u,.int j v],[]⟩) R ⟨h,gl,d,t,os⟩:=by
 have q:=fl_frac hj hc e
 refine gvc F.slot_int_truediv rfl F.entry_int_truediv (F.args_int_truediv_2 _ _) (AutoIntG4.int___truediv___int_int_2 _ _ _ _ (by simp only[beq_iff_eq];exact obC hj) (by rw[q,fl_isInf hc];exact Bool.false_ne_true)) ?_
 show R (.ok (.ret (.float (Float64.ofFrac (decide (i<0)!=decide (j<0)) i.natAbs j.natAbs) t))) ⟨h,gl,d,t+1,os⟩
 rw[q];exact K
theorem i_bits(e:((Builtin.Int.intBits i:Nat):Int)=c)
 (K:R (.ok (.ret (.int c t))) ⟨h,gl,d,t+1,os⟩):codeAny (MB B) A (.call (.builtin "int.bit_length") ⟨[.int i u],[]⟩) R ⟨h,gl,d,t,os⟩:=by
 subst e
 exact gvc F.slot_int_bit_length rfl F.entry_int_bit_length (F.args_int_bit_length_1 _) (AutoIntG2.int_bit_length_int_0 _ _) K
theorem f_dint(hx:x=fl a)(ha:Fits a)(h0:0≤a)(e:a/2^24=c)
 (K:R (.ok (.ret (.int c t))) ⟨h,gl,d,t+1,os⟩):codeAny (MB B) A (.call (.builtin "float.__int__") ⟨[.float x u],[]⟩) R ⟨h,gl,d,t,os⟩:=by
 subst hx e
 obtain⟨m,f,hd,_⟩:=fl_dec ha
 have q:=fl_trunc ha h0 hd
 refine gvc F.slot_float_int rfl F.entry_float_int (F.args_float_int_1 _) (gives_float_int _ _ hd) ?_
 show R (.ok (.ret (.int _ t))) ⟨h,gl,d,t+1,os⟩
 rw[q];exact K
end
section
variable {α:Type} {B:Base} {A:Around} {N t₀:Nat} {Q:α→Shared→Prop} {E:Value→Shared→Prop} {t:Sem α} {tab:Cells} {h:Heap} {gl:Array GenState} {d:Drawn} {os:OsState}
theorem seg_exc(hh:A.handled=none)(R:Rep B N h tab 0)(n:Nat)(adv:List Nat)(mask:List Bool)(a:Value)(tab':Cells)(m i:Nat)
 (e:view (run B N t₀ n adv t tab) mask=⟨.exc a,tab',m,i,(run B N t₀ n adv t tab).ob.map (·.2)⟩)
 (K:∀h' N' t',Rep B N' h' tab' 0→E a ⟨h',gl,d,t',os⟩):wpAny (MB B) A t Q E ⟨h,gl,d,t₀,os⟩:=by
 generalize hx:run B N t₀ n adv t tab=x at e
 unfold view at e
 injection e with e1 e2 e3 e4 e5
 refine(ev_sound (V:=mkV B N t₀) (B:=B) n).T α A Q E t tab 0 0 [] adv h gl d os x (mkV_ok B hh N t₀) R hx (Obs.of_map e5) fun h' R'=>?_
 have hv:x.t=.raise a:=by
  cases q:x.t<;>rw[q] at e1<;>unfold gotOf at e1<;>first|(cases e1;done)|(injection e1 with e1;rw[e1])|(dsimp only at e1;split at e1<;>cases e1)
 rw[hv]
 exact wpAny_throw (K h' (N+x.m) _ (e2▸(R'.sub (pick_sub _ mask)).flat))
end
structure ViewC where
 r:Option Result
 tab:Cells
 m:Nat
 i:Nat
 ob:List Ob
noncomputable def viewC(x:OutC)(mask:List Bool):ViewC:=⟨x.r,pick x.tab mask,x.m,x.i,x.ob.map (·.1)⟩
noncomputable abbrev runC(B:Base)(N t₀:Nat)(ans:List Ans)(n:Nat)(adv:List Nat)(c:Code)(tab:Cells):OutC:=(ev (mkVA B N t₀ ans) n).C c tab 0 0 [] adv
theorem seg_code{B:Base}{A:Around}{P:Result→Shared→Prop}{N t₀:Nat}{tab:Cells}{h:Heap}{gl:Array GenState}{d:Drawn}{os:OsState}{c:Code}
 (hh:A.handled=none) (R:Rep B N h tab 0) (ans:List Ans) (n:Nat) (adv:List Nat) (mask:List Bool) (r:Result) (tab':Cells) (m i:Nat)
 (e:viewC (runC B N t₀ ans n adv c tab) mask=⟨some r,tab',m,i,(runC B N t₀ ans n adv c tab).ob.map (·.2)⟩) (ha:AnsOk B.prog B.w ans)
 (K:∀h' N' t',Rep B N' h' tab' 0→P r ⟨h',gl,d,t',os⟩):codeAny (MB B) A c P ⟨h,gl,d,t₀,os⟩:=by
 generalize hx:runC B N t₀ ans n adv c tab=x at e
 unfold viewC at e
 injection e with e1 e2 e3 e4 e5
 exact(ev_sound (V:=mkVA B N t₀ ans) (B:=B) n).C A P c tab 0 0 [] adv h gl d os r x (mkVA_ok B hh N t₀ ha) R hx e1 (Obs.of_map e5) fun h' R'=>K h' (N+x.m) _ (e2▸(R'.sub (pick_sub _ mask)).flat)
noncomputable def goOn(P:Shared→Prop)(f:Flow)(s:Shared):Prop:=match f with
 | .next=>P s
 |_=>False
theorem cutTo(n:Nat)(P:Shared→Prop){B:Base}{A:Around}{Q:Flow→Shared→Prop}{E:Value→Shared→Prop}{l:List Stmt}{env:Env}{s:Shared}
 (h:wpAny (MB B) A (execsZ (l.take n) env) (goOn P) E s) (K:∀s,P s→wpAny (MB B) A (execsZ (l.drop n) env) Q E s):wpAny (MB B) A (execsZ l env) Q E s:=by
 refine cut n (wpAny_mono h (fun f s q=>?_) fun _ _ q=>q)
 cases f
 case next=>exact K s q
 all_goals exact q.elim
section
variable {B:Base} {A:Around} {R:Result→Shared→Prop} {a b m:Int} {u v w N t:Nat} {h:Heap} {gl:Array GenState} {d:Drawn} {os:OsState} {tab:Cells}
end
section
variable {B:Base} {A:Around} {R:Result→Shared→Prop} {h:Heap} {gl:Array GenState} {d:Drawn} {t:Nat} {os:OsState} {u v:Tok} {c i j:Int}
theorem gvw{T:String}{name:Str}{id:String}{b:Builtin}{self:Value}{rest:List Value}(slot:Slot T name id)(hT:(⟨h,gl,d,t,os⟩:Shared).TypeIs self T)(entry:entryFor table id=some b)
 (args:argsOk id ⟨self::rest,[]⟩) (K:∀A',wpAny (model B.prog B.w) A' (b ⟨self::rest,[]⟩) (fun f s'=>∃v,f=.done (.ret v)∧R (.ok (.ret v)) s') (fun _ _=>False) ⟨h,gl,d,t,os⟩):codeAny (MB B) A (.call (.builtin id) ⟨self::rest,[]⟩) R ⟨h,gl,d,t,os⟩:=
 codeAny_call_builtin slot.plain entry (slot.check _ _ _ _ _ _ _ _ hT args (wpAny_mono (K _) (fun f s' q=>by obtain⟨v,rfl,q⟩:=q;exact q) (fun _ _ q=>q.elim)))
theorem i_shl(hn:0≤j)(hsz:(Builtin.Int.intBits i:Int)+j≤2^27)(e:i*2^j.toNat=c)
 (K:R (.ok (.ret (.int c t))) ⟨h,gl,d,t+1,os⟩):codeAny (MB B) A (.call (.builtin "int.__lshift__") ⟨[.int i u,.int j v],[]⟩) R ⟨h,gl,d,t,os⟩:=by
 subst e
 refine gvw F.slot_int_lshift rfl F.entry_int_lshift (F.args_int_lshift_2 _ _) fun A'=>?_
 show wpAny _ _ (if j<0 then _ else _) _ _ _
 rw[if_neg (by exact oaH hn)]
 show wpAny _ _ (if(i==0)=true then _ else _) _ _ _
 by_cases h0:i=0
 ·rw[if_pos (by simpa using h0)]
  have e:i*2^j.toNat=0:=by subst h0;exact Int.zero_mul _
  rw[e] at K
  repeat (first|refine wpAny_pure ?_ |refine wpAny_mkInt ?_ |refine wpAny_rule ?_ |refine wpAny_bind ?_)
  exact⟨_,rfl,K⟩
 rw[if_neg (by simpa using h0)]
 have h3:¬(((Builtin.Int.intBits i:Int)+29)/30+j/30+(if j%30==0 then 0 else 1)>Builtin.maxDigits):=by
  unfold Builtin.maxDigits
  split<;>omega
 show wpAny _ _ (if((Builtin.Int.intBits i:Int)+29)/30+j/30+(if j%30==0 then 0 else 1)>Builtin.maxDigits then _ else _) _ _ _
 rw[if_neg h3]
 have hbig:Builtin.Int.intTooBig ((Builtin.Int.intBits i:Int)+j)=false:=decide_eq_false (Int.not_lt.mpr hsz)
 show wpAny _ _ (if Builtin.Int.intTooBig ((Builtin.Int.intBits i:Int)+j)=true then _ else _) _ _ _
 rw[if_neg (by rw[hbig];exact Bool.false_ne_true)]
 repeat (first|refine wpAny_pure ?_ |refine wpAny_mkInt ?_ |refine wpAny_rule ?_ |refine wpAny_bind ?_)
 exact⟨_,rfl,K⟩
theorem i_shr(hn:0≤j)(e:i.fdiv (2^j.toNat)=c)
 (K:R (.ok (.ret (.int c t))) ⟨h,gl,d,t+1,os⟩):codeAny (MB B) A (.call (.builtin "int.__rshift__") ⟨[.int i u,.int j v],[]⟩) R ⟨h,gl,d,t,os⟩:=by
 subst e
 refine gvw F.slot_int_rshift rfl F.entry_int_rshift (F.args_int_rshift_2 _ _) fun A'=>?_
 show wpAny _ _ (if j<0 then _ else _) _ _ _
 rw[if_neg (by exact oaH hn)]
 show wpAny _ _ (if j≥(Builtin.Int.intBits i:Int) then _ else _) _ _ _
 by_cases hb:j≥(Builtin.Int.intBits i:Int)
 ·rw[if_pos hb]
  have e:i.fdiv (2^j.toNat)=(if i<0 then(-1:Int) else 0):=fdiv_pow_of_bits (by omega)
  rw[e] at K
  repeat (first|refine wpAny_pure ?_ |refine wpAny_mkInt ?_ |refine wpAny_rule ?_ |refine wpAny_bind ?_)
  exact⟨_,rfl,K⟩
 ·rw[if_neg hb]
  repeat (first|refine wpAny_pure ?_ |refine wpAny_mkInt ?_ |refine wpAny_rule ?_ |refine wpAny_bind ?_)
  exact⟨_,rfl,K⟩
theorem i_xor(e:Builtin.bitXor i j=c)
 (K:R (.ok (.ret (.int c t))) ⟨h,gl,d,t+1,os⟩):codeAny (MB B) A (.call (.builtin "int.__xor__") ⟨[.int i u,.int j v],[]⟩) R ⟨h,gl,d,t,os⟩:=by
 subst e
 refine gvw F.slot_int_xor rfl F.entry_int_xor (F.args_int_xor_2 _ _) fun A'=>?_
 show wpAny _ _ (do ret (←mkInt (Builtin.bitXor i j))) _ _ _
 exact wpAny_bind (wpAny_mkInt (wpAny_pure ⟨_,rfl,K⟩))
theorem i_dm{N:Nat}{tab:Cells}{q r:Int}(Rp:Rep B N h tab 0)(hj:j≠0)(hp:Builtin.divisionGoesByPylong i j=false)(eq:i.fdiv j=q)(er:i.fmod j=r)
 (K:∀h' N' t' a u v,Rep B N' h' ((a,⟨.type "tuple",none,.seq #[.int q u,.int r v] 0,#[]⟩)::tab) 0→R (.ok (.ret (.ref a))) ⟨h',gl,d,t',os⟩):codeAny (MB B) A (.call (.builtin "int.__divmod__") ⟨[.int i u,.int j v],[]⟩) R ⟨h,gl,d,t,os⟩:=by
 subst eq er
 refine gvw slot_int_divmod rfl entry_int_divmod (args_int_divmod _ _) fun A'=>?_
 have hb':(j==0)=false:=by simpa using hj
 show wpAny _ _ (do
  if j==0 then rule "int.divmod.zero";raiseError "ZeroDivisionError" "integer division or modulo by zero"
  Builtin.roomForPylong i j
  ret (←newTuple [←mkInt (i.fdiv j),←mkInt (i.fmod j)])) _ _ _
 simp only[hb',Bool.false_eq_true,if_false,pure_bind]
 refine wpAny_bind (wpAny_roomForPylong (.inl hp) ?_)
 refine wpAny_bind (wpAny_mkInt (wpAny_bind (wpAny_mkInt (wpAny_bind (wpAny_newTuple (wpAny_pure ⟨_,rfl,?_⟩))))))
 have hs:=Rp.size
 refine K _ (N+(0+1)) _ _ t (t+1) ?_
 have:=Rp.push (o:=⟨.type "tuple",none,.seq #[.int (i.fdiv j) t,.int (i.fmod j) (t+1)] 0,#[]⟩) rfl
 dsimp only
 rw[hs]
 exact this.flat
end
theorem f_divmod{B:Base}{A:Around}{R:Result→Shared→Prop}{i j q r:Int}{u v N t:Nat}{h:Heap}{gl:Array GenState}{d:Drawn}{os:OsState}{tab:Cells}(hh:A.handled=none)(Rp:Rep B N h tab 0)
 (hj:j≠0) (hp:Builtin.divisionGoesByPylong i j=false) (eq:i.fdiv j=q) (er:i.fmod j=r)
 (K:∀h' N' t' a u v,Rep B N' h' ((a,⟨.type "tuple",none,.seq #[.int q u,.int r v] 0,#[]⟩)::tab) 0→R (.ok (.ret (.ref a))) ⟨h',gl,d,t',os⟩):codeAny (MB B) A (.call (.builtin "divmod") ⟨[.int i u,.int j v],[]⟩) R ⟨h,gl,d,t,os⟩:=by
 refine code_tree ?_
 refine seg_val hh Rp 11 [] [] (Fin.again (.builtin "divmod" ⟨[.int (i) u,.int (j) v],[]⟩)) (tab) 0 0 (by rfl') fun h1 N1 t1 Rp=>?_
 refine⟨Code.quiet_builtin _ (by decide+kernel),code_tree ?_⟩
 refine seg_call hh Rp 11 [] [] (.call (.builtin "int.__divmod__") ⟨[.int (i) u,.int (j) v],[]⟩) (tab) 0 0 (by rfl') fun h2 N2 t2 Rp=>?_
 refine i_dm (i:=(i)) (j:=(j)) (q:=q) (r:=r) Rp (by omega) (by assumption) (by assumption) (by assumption) fun h3 N3 t3 a3 u3 v3 Rp=>?_
 refine seg_val hh Rp 11 [] [true] (Fin.done (Flow.ret (.ref a3))) ((a3,⟨.type "tuple",none,.seq #[.int (q) u3,.int (r) v3] 0,#[]⟩)::tab) 0 0 (by rfl') fun h4 N4 t4 Rp=>?_
 exact K _ _ _ _ _ _ Rp
noncomputable def Base.ext(B:Base)(ro:Cells)(hro:∀p∈ro,p.1<B.top∨plainO p.2=false):Base where
 prog:=B.prog
 w:=B.w
 stat:=B.stat
 ro:=ro
 top:=B.top
 I:=fun h=>B.I h∧∀p∈ro,h.get? p.1=some p.2
 push:=fun h o i=>⟨B.push h o i.1,fun p hp=>Heap.get?_push_of_some _ (i.2 p hp)⟩
 upd:=fun h a f o ha ho hp i=>⟨B.upd h a f o ha ho hp i.1,fun p hq=>by
  have sb:Heap.SameBut a h (h.update a f):=Heap.SameBut.update ..
  refine(sb.2 p.1 fun z=>?_).trans (i.2 p hq)
  rcases hro p hq with q|q
  ·exact absurd ha (by rw[←z];exact Nat.not_le.mpr q)
  ·have e:=i.2 p hq
   rw[z,ho] at e
   cases e
   rw[hp] at q
   cases q⟩
 hold:=fun h i=>B.hold h i.1
 hro:=fun h i=>i.2
 lim:=fun h i=>B.lim h i.1
theorem Rep.toExt{B:Base}{ro:Cells}(hro:∀p∈ro,p.1<B.top∨plainO p.2=false){N m:Nat}{h:Heap}{tab:Cells}(R:Rep B N h tab m)(e:∀p∈ro,h.get? p.1=some p.2):Rep (B.ext ro hro) N h tab m:=
 ⟨⟨R.inv,e⟩,R.size,R.top,R.cells,R.nd⟩
theorem Rep.ofExt{B:Base}{ro:Cells}{hro:∀p∈ro,p.1<B.top∨plainO p.2=false}{N m:Nat}{h:Heap}{tab:Cells}(R:Rep (B.ext ro hro) N h tab m):Rep B N h tab m:=
 ⟨R.inv.1,R.size,R.top,R.cells,R.nd⟩
end Mine
namespace Mine
open PySem PySem.W PySem.W.X PyProof.Rows PySem.Calls
section
variable {B:Base} {A:Around} {R:Result→Shared→Prop} {h:Heap} {gl:Array GenState} {d:Drawn} {t:Nat} {os:OsState} {u v:Tok} {N m:Nat} {tab tab':Cells}
theorem gm{T:String}{name:Str}{id:String}{b:Builtin}{self:Value}{rest:List Value}{S:PySem.Spec}(slot:Slot T name id)(hT:(⟨h,gl,d,t,os⟩:Shared).TypeIs self T)(entry:entryFor table id=some b)
 (args:argsOk id ⟨self::rest,[]⟩) (g:Meets (b ⟨self::rest,[]⟩) S) (K:S A R ⟨h,gl,d,t,os⟩):codeAny (MB B) A (.call (.builtin id) ⟨self::rest,[]⟩) R ⟨h,gl,d,t,os⟩:=
 codeAny_call_builtin slot.plain entry (slot.check _ _ _ _ _ _ _ _ hT args (g B.prog B.w A R _ K))
noncomputable abbrev Lst(items:Array Value)(n:Nat):Obj:=⟨.type "list",none,.seq items n,#[]⟩
variable {l:Addr} {items:Array Value} {n i:Nat} {c:Int} {x:Value}
theorem map_same(f:Array Value→Array Value):Obj.mapSeq f (l,Lst items n).snd=Lst (f items) (if((f items).size==items.size)=true then n else n+1):=rfl
theorem l_append(Rp:Rep B N h tab 0)(i:Nat)(hx:nth tab i=some (l,Lst items n))(hz:items.size≤2^24)(ht:setN tab i (l,Lst (items.push x) (n+1))=tab')
 (K:∀h',Rep B N h' tab' 0→R (.ok (.ret .none)) ⟨h',gl,d,t,os⟩):codeAny (MB B) A (.call (.builtin "list.append") ⟨[.ref l,x],[]⟩) R ⟨h,gl,d,t,os⟩:=by
 subst ht
 have hl:h.get? l=some (Lst items n):=Rp.at hx
 refine gm F.slot_list_append ⟨_,hl,rfl⟩ F.entry_list_append (F.args_list_append_2 _ _) (AutoListH.list_append_list_val_0 l items n x hz) ⟨hl,?_⟩
 have q:=Rp.upd (f:=Obj.mapSeq fun y=>y.push x) hx rfl (by rw[map_same];rfl)
 rw[map_same,if_neg (by rw[Array.size_push];simp)] at q
 exact K _ q
theorem l_reverse(Rp:Rep B N h tab 0)(i:Nat)(hx:nth tab i=some (l,Lst items n))(hz:items.size≤2^24)(ht:setN tab i (l,Lst items.reverse n)=tab')
 (K:∀h',Rep B N h' tab' 0→R (.ok (.ret .none)) ⟨h',gl,d,t,os⟩):codeAny (MB B) A (.call (.builtin "list.reverse") ⟨[.ref l],[]⟩) R ⟨h,gl,d,t,os⟩:=by
 subst ht
 have hl:h.get? l=some (Lst items n):=Rp.at hx
 refine gm F.slot_list_reverse ⟨_,hl,rfl⟩ F.entry_list_reverse (F.args_list_reverse_1 _) (AutoListH.list_reverse_list_0 l items n hz) ⟨hl,?_⟩
 have q:=Rp.upd (f:=Obj.mapSeq fun y=>y.reverse) hx rfl (by rw[map_same];rfl)
 rw[map_same,if_pos (by rw[Array.size_reverse];simp)] at q
 exact K _ q
theorem joined1(x:Value)(k:Nat):List.foldl (fun x1 x2=>x1++x2) #[] (List.replicate k #[x])=Array.replicate k x:=by
 have key:∀(k:Nat) (acc:Array Value),List.foldl (fun x1 x2=>x1++x2) acc (List.replicate k #[x])=acc++Array.replicate k x:=by
  intro k
  induction k with
  |zero=>intro acc;simp
  |succ k ih=>intro acc;rw[List.replicate_succ,List.foldl_cons,ih,Array.append_assoc,Array.replicate_succ',←Array.singleton_eq_toArray_singleton]<;>simp
 rw[key];simp
theorem l_mul(Rp:Rep B N h tab 0)(i:Nat)(hx:nth tab i=some (l,Lst #[x] n))(h0:0≤c)(h1:c<2^24)
 (K:∀h' N' a,Rep B N' h' ((a,Lst (Array.replicate c.toNat x) 0)::tab) 0→R (.ok (.ret (.ref a))) ⟨h',gl,d,t,os⟩):codeAny (MB B) A (.call (.builtin "list.__mul__") ⟨[.ref l,.int c u],[]⟩) R ⟨h,gl,d,t,os⟩:=by
 have hl:h.get? l=some (Lst #[x] n):=Rp.at hx
 have hs:=Rp.size
 have h2:(#[x]:Array Value).size*c.toNat≤2^24:=by show 1*c.toNat≤_;omega
 refine gm F.slot_list_mul ⟨_,hl,rfl⟩ F.entry_list_mul (F.args_list_mul_2 _ _) (AutoListH.list___mul___list_int_3 l #[x] n c u (by rw[show Builtin.List.listFitsIndex c=true from fitsIndex_of h0 (by omega)];decide) (by omega) (by unfold Builtin.List.listTooLong sizeLine;simpa using(show c.toNat≤2^24 by omega))) ⟨hl,?_⟩
 have q:=(Rp.push (o:=Lst (Array.replicate c.toNat x) 0) rfl).flat
 refine K _ (N+(0+1)) _ ?_
 dsimp only
 rw[hs]
 have e:List.foldl (fun x1 x2=>x1++x2) #[] (List.replicate (if(#[x]:Array Value).isEmpty=true then 0 else c.toNat) #[x])=Array.replicate c.toNat x:=joined1 x _
 rw[e]
 exact q
theorem l_get(Rp:Rep B N h tab 0)(i:Nat)(hx:nth tab i=some (l,Lst items n))(h0:0≤c)(h1:c<2^63)(e:items[c.toNat]? =some x)
 (K:R (.ok (.ret x)) ⟨h,gl,d,t,os⟩):codeAny (MB B) A (.call (.builtin "list.__getitem__") ⟨[.ref l,.int c u],[]⟩) R ⟨h,gl,d,t,os⟩:=by
 have hl:h.get? l=some (Lst items n):=Rp.at hx
 refine codeAny_call_builtin F.slot_list_getitem.plain F.entry_list_getitem (F.slot_list_getitem.check _ _ _ _ _ _ _ _ ⟨_,hl,rfl⟩ (F.args_list_getitem_2 _ _) ?_)
 show wpAny _ _ (Builtin.List.listSubscript? (.int c u) >>= _) _ _ _
 refine wpAny_bind (wpAny_listSubscript_int (fitsIndex_of h0 h1) ?_)
 clear h1
 obtain⟨j,rfl⟩:=Int.eq_ofNat_of_zero_le h0
 have hx':items[j]? =some x:=e
 show wpAny _ _ ((seqItemAt l j >>= fun r=>pure (r.map (j,·))) >>= _) _ _ _
 refine wpAny_bind (wpAny_bind (wpAny_seqItemAt hl rfl (wpAny_pure ?_)))
 rw[hx']
 first
  |exact wpAny_bind (wpAny_pure (wpAny_pure K))
  |exact wpAny_pure K
theorem l_set(Rp:Rep B N h tab 0)(i:Nat)(hx:nth tab i=some (l,Lst items n))(h0:0≤c)(h1:c<2^63)(h2:c<items.size)(ht:setN tab i (l,Lst (items.setIfInBounds c.toNat x) n)=tab')
 (K:∀h',Rep B N h' tab' 0→R (.ok (.ret .none)) ⟨h',gl,d,t,os⟩):codeAny (MB B) A (.call (.builtin "list.__setitem__") ⟨[.ref l,.int c u,x],[]⟩) R ⟨h,gl,d,t,os⟩:=by
 subst ht
 have hl:h.get? l=some (Lst items n):=Rp.at hx
 refine codeAny_call_builtin F.slot_list_setitem.plain F.entry_list_setitem (F.slot_list_setitem.check _ _ _ _ _ _ _ _ ⟨_,hl,rfl⟩ (F.args_list_setitem_3 _ _ _) ?_)
 show wpAny _ _ (Builtin.List.listSubscript? (.int c u) >>= _) _ _ _
 refine wpAny_bind (wpAny_listSubscript_int (fitsIndex_of h0 h1) ?_)
 clear h1
 obtain⟨j,rfl⟩:=Int.eq_ofNat_of_zero_le h0
 have hj:j<items.size:=by exact obp h2
 have hx':items[j]? =some items[j]:=Array.getElem?_eq_getElem hj
 show wpAny _ _ ((seqItemAt l j >>= fun r=>pure (r.map (j,·))) >>= _) _ _ _
 refine wpAny_bind (wpAny_bind (wpAny_seqItemAt hl rfl (wpAny_pure ?_)))
 rw[hx']
 show wpAny _ _ (setSeqItemAt l j x >>= _) _ _ _
 have q:=Rp.upd (f:=Obj.mapSeq (·.setIfInBounds j x)) hx rfl (by rw[map_same];rfl)
 rw[map_same,if_pos (by rw[Array.size_setIfInBounds];simp)] at q
 have q:=K _ q
 refine wpAny_bind (wpAny_setSeqItemAt hl rfl ?_)
 first
  |exact wpAny_bind (wpAny_pure (wpAny_pure q))
  |exact wpAny_pure q
end
section
variable {B:Base} {A:Around} {R:Result→Shared→Prop} {h:Heap} {gl:Array GenState} {d:Drawn} {t:Nat} {os:OsState} {N m:Nat} {tab:Cells} {l:Addr} {items:Array Value} {n k:Nat}
theorem l_lenB(Rp:Rep B N h tab 0)(i:Nat)(hx:nth tab i=some (l,Lst items n))(e:items.size=k)(hk:k<2^63)
 (K:R (.ok (.ret (.int k (t+1)))) ⟨h,gl,d,t+2,os⟩):codeAny (MB B) A (.builtin "len" ⟨[.ref l],[]⟩) R ⟨h,gl,d,t,os⟩:=by
 subst e
 have hl:h.get? l=some (Lst items n):=Rp.at hx
 refine codeAny_builtin entry_len ?_
 rw[Around.under_plainId plain_len _]
 refine wpAny_mono (wpAny_len_body_list (Q:=fun r s'=>R (.ok (.ret r)) s') ⟨_,hl,rfl,n,rfl⟩ (by omega) K) (fun fin s' h'=>by obtain⟨r,rfl,hq⟩:=h';exact hq) fun _ _ e=>e
theorem l_lenF(hh:A.handled=none)(Rp:Rep B N h tab 0)(i:Nat)(hx:nth tab i=some (l,Lst items n))(e:items.size=k)(hk:k<2^63)
 (K:∀h' N' t' u,Rep B N' h' tab 0→R (.ok (.ret (.int k u))) ⟨h',gl,d,t',os⟩):codeAny (MB B) A (.call (.builtin "len") ⟨[.ref l],[]⟩) R ⟨h,gl,d,t,os⟩:=by
 refine code_tree ?_
 refine seg_val hh Rp 11 [] [] (Fin.again (.builtin "len" ⟨[.ref l],[]⟩)) (tab) 0 0 (by rfl') fun h1 N1 t1 Rp=>?_
 refine⟨Code.quiet_builtin _ (by decide+kernel),?_⟩
 exact l_lenB Rp i hx e hk (K _ _ _ _ Rp)
end
noncomputable abbrev RevIt(l:Addr)(j:Int):Obj:=⟨.type "list_reverseiterator",none,.fields #[.ref l,.int j 0],#[]⟩
section
variable {B:Base} {A:Around} {R:Result→Shared→Prop} {h:Heap} {gl:Array GenState} {d:Drawn} {t:Nat} {os:OsState} {N m:Nat} {tab tab':Cells} {l it:Addr} {items:Array Value} {n j:Nat} {x:Value}
theorem r_next(Rp:Rep B N h tab 0)(i k:Nat)(hi:nth tab i=some (it,RevIt l (j:Int)))(hk:nth tab k=some (l,Lst items n))(e:items[j]? =some x)(ht:setN tab i (it,RevIt l ((j:Int)-1))=tab')
 (K:∀h',Rep B N h' tab' 0→R (.ok (.ret x)) ⟨h',gl,d,t,os⟩):codeAny (MB B) A (.call (.builtin "list_reverseiterator.__next__") ⟨[.ref it],[]⟩) R ⟨h,gl,d,t,os⟩:=by
 subst ht
 have hl:h.get? l=some (Lst items n):=Rp.at hk
 have hit:h.get? it=some (RevIt l (j:Int)):=Rp.at hi
 refine codeAny_call_builtin F.slot_lri_next.plain F.entry_lri_next (F.slot_lri_next.check _ _ _ _ _ _ _ _ ⟨_,hit,rfl⟩ (F.args_lri_next_1 _) ?_)
 unfold Builtin.«list_reverseiterator.__next__»
 refine wpAny_bind (wpAny_of_eq (a:=(Value.ref it,[])) rfl ?_)
 try dsimp only
 refine wpAny_bind (wpAny_field hit rfl (x:=rawInt (j:Int)) rfl ?_)
 show wpAny _ _ (if(j:Int)<0 then _ else _) _ _ _
 rw[if_neg (by exact oda)]
 show wpAny _ _ (field (.ref it) 0 >>= _) _ _ _
 refine wpAny_bind (wpAny_field hit rfl (x:=.ref l) rfl ?_)
 show wpAny _ _ (seqItems? (.ref l) >>= _) _ _ _
 refine wpAny_bind (wpAny_seqItems hl rfl ?_)
 simp only[Int.toNat_natCast,e]
 have q:=K _ (Rp.upd (f:=Obj.mapFields fun vs=>vs.setIfInBounds 1 (rawInt ((j:Int)-1))) hi rfl rfl)
 refine wpAny_bind (wpAny_setField hit rfl (by simp) ?_)
 first
  |exact wpAny_pure q
  |exact wpAny_bind (wpAny_pure (wpAny_pure q))
end
noncomputable def compE:Stmt→Expr
 | .Assign _ v _=>v
 | .Return (some v) _=>v
 |_=>default
noncomputable def plainLC:Expr→Bool
 | .ListComp _ (g::_) _ _=>g.is_async==0
 |_=>false
theorem plainLC_eq{e:Expr}(h:plainLC e=true):∃elt target iter ifs rest scope pos,e=.ListComp elt (⟨target,iter,ifs,0⟩::rest) scope pos:=by
 unfold plainLC at h
 split at h
 ·rename_i elt g rest scope pos
  obtain⟨t,i,f,a⟩:=g
  have:a=0:=by simpa using h
  subst this
  exact⟨_,_,_,_,_,_,_,rfl⟩
 ·cases h
noncomputable def scopeE:Expr→Scope
 | .ListComp _ _ s _=>s
 |_=>default
noncomputable def cenvOf(o:Env)(e:Expr)(L:Addr)(cells:List (Str×Addr)):Env:={scope:={scopeE e with names:=(scopeE e).names.map fun(n,k)=>if k==.free&&o.scope.kind==.function&&o.kindOf n==some .cell then(n,.cell) else(n,k)},locals:=L,globals:=o.globals,cells:=cells,qual:=o.qual,func:=none,code:=o.code,frame:=o.frame,builtins:=o.builtins}
noncomputable abbrev ListIt(l:Addr)(j:Int):Obj:=⟨.type "list_iterator",none,.fields #[.ref l,.int j 0],#[]⟩
noncomputable abbrev TupIt(l:Addr)(j:Int):Obj:=⟨.type "tuple_iterator",none,.fields #[.ref l,.int j 0],#[]⟩
section
variable {B:Base} {A:Around} {R:Result→Shared→Prop} {h:Heap} {gl:Array GenState} {d:Drawn} {t:Nat} {os:OsState} {N m:Nat} {tab:Cells} {l it:Addr} {e:Expr} {acc:Value} {env:Env}
theorem comp_start(he:plainLC e=true)(Rp:Rep B N h tab 0)(i:Nat)(hx:nth tab i=some (it,ListIt l ((0:Nat):Int)))
 (K:codeAny (MB B) A (.compLoop e 0 (.ref it) acc env) R ⟨h,gl,d,t,os⟩):codeAny (MB B) A (.compStart e 0 (.ref it) acc env) R ⟨h,gl,d,t,os⟩:=by
 obtain⟨elt,target,iter,ifs,rest,scope,pos,rfl⟩:=plainLC_eq he
 exact codeAny_compStart_list K (wpAny_pyIter_listiter ⟨_,Rp.at hx,rfl,rfl⟩ K)
theorem comp_startT(he:plainLC e=true)(Rp:Rep B N h tab 0)(i:Nat)(hx:nth tab i=some (it,TupIt l ((0:Nat):Int)))
 (K:codeAny (MB B) A (.compLoop e 0 (.ref it) acc env) R ⟨h,gl,d,t,os⟩):codeAny (MB B) A (.compStart e 0 (.ref it) acc env) R ⟨h,gl,d,t,os⟩:=by
 obtain⟨elt,target,iter,ifs,rest,scope,pos,rfl⟩:=plainLC_eq he
 exact codeAny_compStart_list K (wpAny_pyIter_tupleiter ⟨_,Rp.at hx,rfl,rfl⟩ K)
variable {items:Array Value} {n j:Nat} {x:Value} {tab':Cells}
theorem li_next(Rp:Rep B N h tab 0)(i k:Nat)(hi:nth tab i=some (it,ListIt l (j:Int)))(hk:nth tab k=some (l,Lst items n))(e:items[j]? =some x)(ht:setN tab i (it,ListIt l ((j+1:Nat):Int))=tab')
 (K:∀h',Rep B N h' tab' 0→R (.ok (.ret x)) ⟨h',gl,d,t,os⟩):codeAny (MB B) A (.call (.builtin "list_iterator.__next__") ⟨[.ref it],[]⟩) R ⟨h,gl,d,t,os⟩:=by
 subst ht
 have hl:h.get? l=some (Lst items n):=Rp.at hk
 have hit:h.get? it=some (ListIt l (j:Int)):=Rp.at hi
 refine codeAny_call_builtin slot_listiter_next.plain entry_listiter_next (slot_listiter_next.check _ _ _ _ _ _ _ _ ⟨_,hit,rfl⟩ (args_listiter_next _) ?_)
 unfold Builtin.«list_iterator.__next__»
 refine wpAny_bind (wpAny_of_eq (a:=(Value.ref it,[])) rfl ?_)
 try dsimp only
 refine wpAny_bind (wpAny_field hit rfl (x:=.ref l) rfl ?_)
 rw[if_neg (show¬((Value.ref l==Value.none)=true) from Bool.false_ne_true)]
 refine wpAny_bind (wpAny_field hit rfl (x:=rawInt (j:Int)) rfl ?_)
 show wpAny _ _ (seqItems? (.ref l) >>= _) _ _ _
 refine wpAny_bind (wpAny_seqItems hl rfl ?_)
 simp only[Int.toNat_natCast,e]
 have q:=K _ (Rp.upd (f:=Obj.mapFields fun vs=>vs.setIfInBounds 1 (rawInt ((j:Int)+1))) hi rfl rfl)
 refine wpAny_bind (wpAny_setField hit rfl (by simp) ?_)
 first
  |exact wpAny_pure q
  |exact wpAny_bind (wpAny_pure (wpAny_pure q))
end
noncomputable abbrev SIt(l:List Nat)(u:Nat)(j:Int):Obj:=⟨.type "str_ascii_iterator",none,.fields #[.str (S l) u,.int j 0],#[]⟩
noncomputable abbrev EnumO(a it:Value)(i:Int)(old:Value):Obj:=⟨.type "enumerate",none,.fields #[a,.bool false,it,.int i 0,.none,old],#[]⟩
noncomputable def Asc(l:List Nat):Prop:=∀c∈l,c<128
section
variable {B:Base} {A:Around} {R:Result→Shared→Prop} {h:Heap} {gl:Array GenState} {d:Drawn} {t:Nat} {os:OsState} {N m u j c:Nat} {tab tab':Cells} {it:Addr} {l:List Nat}
theorem Asc.all(h:Asc l):(S l).cps.all (·<128)=true:=by
 show Array.all ⟨l⟩ _=true
 simpa[S,Asc] using h
theorem si_next(Rp:Rep B N h tab 0)(i:Nat)(hi:nth tab i=some (it,SIt l u (j:Int)))(e:l[j]? =some c)(ht:setN tab i (it,SIt l u ((j+1:Nat):Int))=tab')
 (K:∀h',Rep B N h' tab' 0→R (.ok (.ret (.str (S [c]) t))) ⟨h',gl,d,t+1,os⟩):codeAny (MB B) A (.call (.builtin "str_ascii_iterator.__next__") ⟨[.ref it],[]⟩) R ⟨h,gl,d,t,os⟩:=by
 subst ht
 have hit:h.get? it=some (SIt l u (j:Int)):=Rp.at hi
 refine codeAny_call_builtin F.slot_str_ascii_iterator_next.plain F.entry_str_ascii_iterator_next (F.slot_str_ascii_iterator_next.check _ _ _ _ _ _ _ _ ⟨_,hit,rfl⟩ (F.args_str_ascii_iterator_next_1 _) ?_)
 show wpAny _ _ (field (.ref it) 0 >>= _) _ _ _
 refine wpAny_bind (wpAny_field hit rfl (x:=.str (S l) u) rfl ?_)
 show wpAny _ _ (field (.ref it) 1 >>= _) _ _ _
 refine wpAny_bind (wpAny_field hit rfl (x:=.int j 0) rfl ?_)
 have hx:(S l).cps[j]? =some c:=by show(Array.mk l)[j]? =_;simpa using e
 simp only[Int.toNat_natCast,hx]
 have q:=K _ (Rp.upd (f:=Obj.mapFields fun vs=>vs.setIfInBounds 1 (rawInt ((j:Int)+1))) hi rfl rfl)
 exact wpAny_bind (wpAny_setField hit rfl (by simp) (wpAny_bind (wpAny_mkStr (wpAny_pure q))))
theorem en_newS(hh:A.handled=none)(hl:Asc l)(Rp:Rep B N h tab 0)
 (K:∀h' N' t' e it,Rep B N' h' ((e,EnumO .none (.ref it) 0 .none)::(it,SIt l u 0)::tab) 0→R (.ok (.ret (.ref e))) ⟨h',gl,d,t',os⟩):codeAny (MB B) A (.call (.builtin "enumerate.__new__") ⟨[.type "enumerate",.str (S l) u],[]⟩) R ⟨h,gl,d,t,os⟩:=by
 refine code_tree ?_
 refine seg_val hh Rp 20 [] [] (Fin.again (.builtin "enumerate.__new__" ⟨[.type "enumerate",.str (S l) u],[]⟩)) (tab) 0 0 (by rfl') fun h1 N1 t1 Rp=>?_
 refine⟨Code.quiet_builtin _ (by decide+kernel),codeAny_builtin F.entry_enumerate_new ?_⟩
 rw[Around.under_plainId (by decide+kernel)]
 refine meets_enumerate_newS (S l) u B.prog B.w A R _ ?_
 have hs:=Rp.size
 have q:=((Rp.push (o:=SIt l u 0) rfl).push (o:=EnumO .none (.ref N1) 0 .none) rfl).flat
 have e1:strIterType (S l)="str_ascii_iterator":=by unfold strIterType;rw[hl.all];rfl
 rw[e1]
 dsimp only
 rw[Heap.size_push,hs]
 exact K _ _ _ _ _ q
noncomputable abbrev StopO(a:Addr):Obj:=⟨.type "StopIteration",none,.fields #[.ref a,.none,.none,.none,.bool false,.none],#[]⟩
theorem si_end(hh:A.handled=none)(Rp:Rep B N h tab 0)(i:Nat)(hi:nth tab i=some (it,SIt l u (j:Int)))(e:l[j]? =none)(ht:setN tab i (it,⟨.type "str_ascii_iterator",none,.fields #[.none,.int j 0],#[]⟩)=tab')
 (K:∀h' N' a e,Rep B N' h' ((e,StopO a)::(a,⟨.type "tuple",none,.seq #[] 0,#[]⟩)::tab') 0→R (.error (.ref e)) ⟨h',gl,d,t,os⟩):codeAny (MB B) A (.call (.builtin "str_ascii_iterator.__next__") ⟨[.ref it],[]⟩) R ⟨h,gl,d,t,os⟩:=by
 subst ht
 have hit:h.get? it=some (SIt l u (j:Int)):=Rp.at hi
 refine codeAny_call_builtin F.slot_str_ascii_iterator_next.plain F.entry_str_ascii_iterator_next (F.slot_str_ascii_iterator_next.check _ _ _ _ _ _ _ _ ⟨_,hit,rfl⟩ (F.args_str_ascii_iterator_next_1 _) ?_)
 show wpAny _ _ (field (.ref it) 0 >>= _) _ _ _
 refine wpAny_bind (wpAny_field hit rfl (x:=.str (S l) u) rfl ?_)
 show wpAny _ _ (field (.ref it) 1 >>= _) _ _ _
 refine wpAny_bind (wpAny_field hit rfl (x:=.int j 0) rfl ?_)
 have hx:(S l).cps[j]? =none:=by show(Array.mk l)[j]? =_;simpa using e
 simp only[Int.toNat_natCast,hx]
 have q:=Rp.upd (f:=Obj.mapFields fun vs=>vs.setIfInBounds 0 .none) hi rfl rfl
 have hs:=q.size
 have q:=((q.push (o:=⟨.type "tuple",none,.seq #[] 0,#[]⟩) rfl).push (o:=StopO N) rfl).flat
 refine wpAny_bind (wpAny_rule (wpAny_bind (wpAny_setField hit rfl (by simp) ?_)))
 refine wpAny_bind (wpAny_letGo ?_)
 show wpAny _ _ (newExc (.type "StopIteration") [] >>= _) _ _ _
 refine wpAny_bind ?_
 simp only[newExc,newTuple]
 refine wpAny_bind (wpAny_newObj_type ?_ (by size_fits))
 refine wpAny_bind (m:=firstArgMember _ _) (wpAny_of_eq (a:=Value.none) (by first|rfl|(simp only[firstArgMember];rfl)) ?_)
 refine wpAny_newObj_type ?_ (by size_fits)
 simp only[raiseNew]
 refine wpAny_bind (wpAny_handled ?_)
 rw[hh]
 refine wpAny_bind (wpAny_pure (wpAny_throw ?_))
 have q:=K _ _ _ _ q
 rw[Heap.size_push]
 rw[show(h.update it (Obj.mapFields fun x=>x.setIfInBounds 0 Value.none)).objs.size=N from hs]
 exact q
theorem str_eq_gives(a b:Str)(t u:Tok):Gives (Builtin.«str.__eq__» ⟨[.str a t,.str b u],[]⟩) (.val (.bool (a.cps.toList==b.cps.toList))):=
 .of_wp fun M A E s Q h=>by obtain⟨hp,g,d,tk,os⟩:=s;wp_walk;exact⟨_,rfl,h⟩
theorem s_eq{r:Bool}{l':List Nat}{u v:Tok}(e:(l==l')=r)(K:R (.ok (.ret (.bool r))) ⟨h,gl,d,t,os⟩):codeAny (MB B) A (.call (.builtin "str.__eq__") ⟨[.str (S l) u,.str (S l') v],[]⟩) R ⟨h,gl,d,t,os⟩:=by
 subst e
 exact gvc F.slot_str_eq rfl F.entry_str_eq (F.args_str_eq_2 _ _) (str_eq_gives _ _ _ _) K
theorem s_eq'{r:Bool}{l':List Nat}{u v:Tok}(e:(l==l')=r):(⟨(.call (.builtin "str.__eq__") ⟨[.str (S l) u,.str (S l') v],[]⟩),fun t=>((.bool r)),0⟩:Ans).Ok B.prog B.w:=fun _ _ _ _ _ _ _ K=>s_eq e K
end
end Mine
namespace Mine
open PySem
noncomputable def n_L:Str:=⟨#[76]⟩
noncomputable def n_R:Str:=⟨#[82]⟩
noncomputable def n__headers:Str:=⟨#[95,104,101,97,100,101,114,115]⟩
noncomputable def n_a:Str:=⟨#[97]⟩
noncomputable def n_a_digit:Str:=⟨#[97,95,100,105,103,105,116]⟩
noncomputable def n_a_digits:Str:=⟨#[97,95,100,105,103,105,116,115]⟩
noncomputable def n_addr:Str:=⟨#[97,100,100,114]⟩
noncomputable def n_b:Str:=⟨#[98]⟩
noncomputable def n_base:Str:=⟨#[98,97,115,101]⟩
noncomputable def n_blue:Str:=⟨#[98,108,117,101]⟩
noncomputable def n_c:Str:=⟨#[99]⟩
noncomputable def n_cell:Str:=⟨#[99,101,108,108]⟩
noncomputable def n_cells:Str:=⟨#[99,101,108,108,115]⟩
noncomputable def n_ch:Str:=⟨#[99,104]⟩
noncomputable def n_colour:Str:=⟨#[99,111,108,111,117,114]⟩
noncomputable def n_count:Str:=⟨#[99,111,117,110,116]⟩
noncomputable def n_d:Str:=⟨#[100]⟩
noncomputable def n_default:Str:=⟨#[100,101,102,97,117,108,116]⟩
noncomputable def n_digits:Str:=⟨#[100,105,103,105,116,115]⟩
noncomputable def n_drawn:Str:=⟨#[100,114,97,119,110]⟩
noncomputable def n_due:Str:=⟨#[100,117,101]⟩
noncomputable def n_end:Str:=⟨#[101,110,100]⟩
noncomputable def n_escape:Str:=⟨#[101,115,99,97,112,101]⟩
noncomputable def n_f:Str:=⟨#[102]⟩
noncomputable def n_far:Str:=⟨#[102,97,114]⟩
noncomputable def n_first:Str:=⟨#[102,105,114,115,116]⟩
noncomputable def n_g:Str:=⟨#[103]⟩
noncomputable def n_green:Str:=⟨#[103,114,101,101,110]⟩
noncomputable def n_h:Str:=⟨#[104]⟩
noncomputable def n_headers:Str:=⟨#[104,101,97,100,101,114,115]⟩
noncomputable def n_hidden:Str:=⟨#[104,105,100,100,101,110]⟩
noncomputable def n_high:Str:=⟨#[104,105,103,104]⟩
noncomputable def n_hooked:Str:=⟨#[104,111,111,107,101,100]⟩
noncomputable def n_hue:Str:=⟨#[104,117,101]⟩
noncomputable def n_i:Str:=⟨#[105]⟩
noncomputable def n_inner:Str:=⟨#[105,110,110,101,114]⟩
noncomputable def n_k:Str:=⟨#[107]⟩
noncomputable def n_kv:Str:=⟨#[107,118]⟩
noncomputable def n_l:Str:=⟨#[108]⟩
noncomputable def n_laid:Str:=⟨#[108,97,105,100]⟩
noncomputable def n_left:Str:=⟨#[108,101,102,116]⟩
noncomputable def n_low:Str:=⟨#[108,111,119]⟩
noncomputable def n_lower:Str:=⟨#[108,111,119,101,114]⟩
noncomputable def n_maxc:Str:=⟨#[109,97,120,99]⟩
noncomputable def n_mid:Str:=⟨#[109,105,100]⟩
noncomputable def n_minc:Str:=⟨#[109,105,110,99]⟩
noncomputable def n_modulus:Str:=⟨#[109,111,100,117,108,117,115]⟩
noncomputable def n_n:Str:=⟨#[110]⟩
noncomputable def n_name:Str:=⟨#[110,97,109,101]⟩
noncomputable def n_names:Str:=⟨#[110,97,109,101,115]⟩
noncomputable def n_near:Str:=⟨#[110,101,97,114]⟩
noncomputable def n_on:Str:=⟨#[111,110]⟩
noncomputable def n_open_pos:Str:=⟨#[111,112,101,110,95,112,111,115]⟩
noncomputable def n_opens:Str:=⟨#[111,112,101,110,115]⟩
noncomputable def n_p:Str:=⟨#[112]⟩
noncomputable def n_painted:Str:=⟨#[112,97,105,110,116,101,100]⟩
noncomputable def n_pieces:Str:=⟨#[112,105,101,99,101,115]⟩
noncomputable def n_place:Str:=⟨#[112,108,97,99,101]⟩
noncomputable def n_pos:Str:=⟨#[112,111,115]⟩
noncomputable def n_q:Str:=⟨#[113]⟩
noncomputable def n_q_digit:Str:=⟨#[113,95,100,105,103,105,116]⟩
noncomputable def n_q_digits:Str:=⟨#[113,95,100,105,103,105,116,115]⟩
noncomputable def n_quarter:Str:=⟨#[113,117,97,114,116,101,114]⟩
noncomputable def n_r:Str:=⟨#[114]⟩
noncomputable def n_rangec:Str:=⟨#[114,97,110,103,101,99]⟩
noncomputable def n_red:Str:=⟨#[114,101,100]⟩
noncomputable def n_regex:Str:=⟨#[114,101,103,101,120]⟩
noncomputable def n_result:Str:=⟨#[114,101,115,117,108,116]⟩
noncomputable def n_right:Str:=⟨#[114,105,103,104,116]⟩
noncomputable def n_row:Str:=⟨#[114,111,119]⟩
noncomputable def n_rows:Str:=⟨#[114,111,119,115]⟩
noncomputable def n_s:Str:=⟨#[115]⟩
noncomputable def n_script:Str:=⟨#[115,99,114,105,112,116]⟩
noncomputable def n_second:Str:=⟨#[115,101,99,111,110,100]⟩
noncomputable def n_self:Str:=⟨#[115,101,108,102]⟩
noncomputable def n_share:Str:=⟨#[115,104,97,114,101]⟩
noncomputable def n_shift:Str:=⟨#[115,104,105,102,116]⟩
noncomputable def n_sign:Str:=⟨#[115,105,103,110]⟩
noncomputable def n_signs:Str:=⟨#[115,105,103,110,115]⟩
noncomputable def n_size:Str:=⟨#[115,105,122,101]⟩
noncomputable def n_start:Str:=⟨#[115,116,97,114,116]⟩
noncomputable def n_strings:Str:=⟨#[115,116,114,105,110,103,115]⟩
noncomputable def n_sumc:Str:=⟨#[115,117,109,99]⟩
noncomputable def n_t:Str:=⟨#[116]⟩
noncomputable def n_table:Str:=⟨#[116,97,98,108,101]⟩
noncomputable def n_taken:Str:=⟨#[116,97,107,101,110]⟩
noncomputable def n_told:Str:=⟨#[116,111,108,100]⟩
noncomputable def n_turned:Str:=⟨#[116,117,114,110,101,100]⟩
noncomputable def n_upper:Str:=⟨#[117,112,112,101,114]⟩
noncomputable def n_v:Str:=⟨#[118]⟩
noncomputable def n_val:Str:=⟨#[118,97,108]⟩
noncomputable def n_value:Str:=⟨#[118,97,108,117,101]⟩
noncomputable def n_way:Str:=⟨#[119,97,121]⟩
noncomputable def n_weight:Str:=⟨#[119,101,105,103,104,116]⟩
noncomputable def n_x:Str:=⟨#[120]⟩
end Mine
namespace Mine
open PySem PySem.W PySem.W.X PyProof.Rows PySem.Spec PySem.Calls
theorem i_pow{B:Base}{A:Around}{R:Result→Shared→Prop}{h:Heap}{gl:Array GenState}{d:Drawn}{t:Nat}{os:OsState}{u v:Tok}{c i j:Int}(hk:i=2∨i=10)(h0:0<j)(h1:j≤64)(e:i^j.toNat=c)
 (K:R (.ok (.ret (.int c t))) ⟨h,gl,d,t+1,os⟩):codeAny (MB B) A (.call (.builtin "int.__pow__") ⟨[.int i u,.int j v],[]⟩) R ⟨h,gl,d,t,os⟩:=by
 subst e
 refine gvc F.slot_int_pow rfl F.entry_int_pow (F.args_int_pow_2 _ _) (AutoIntG2.int___pow___int_int_4 _ _ _ _ (by omega) (by simp;exact obC h0) (by rcases hk with rfl|rfl<;>decide) (by rcases hk with rfl|rfl<;>decide) ?_) K
 have hb:Builtin.Int.intBits i≤4:=by rcases hk with rfl|rfl<;>decide+kernel
 have:¬(((Builtin.Int.intBits i:Nat):Int)*j>(bitsLine:Int)):=by
  have h2:((Builtin.Int.intBits i:Nat):Int)*j≤4*j:=Int.mul_le_mul_of_nonneg_right (by omega) (by exact obb h0)
  have h3:(bitsLine:Int)=2^27:=by decide+kernel
  omega
 unfold Builtin.Int.intTooBig
 simpa using this
section
variable {B:Base} {A:Around} {R:Result→Shared→Prop} {h:Heap} {gl:Array GenState} {d:Drawn} {t:Nat} {os:OsState} {N m u i c:Nat} {tab:Cells} {e it:Addr} {l:List Nat}
theorem en_next(hh:A.handled=none)(old:Value)(Rp:Rep B N h ((e,EnumO .none (.ref it) (i:Int) old)::(it,SIt l u (i:Int))::tab) 0)(hc:l[i]? =some c)
 (K:∀h' N' t' a v w,Rep B N' h' ((a,⟨.type "tuple",none,.seq #[.int (i:Int) v,.str (S [c]) w] 0,#[]⟩)::(e,EnumO (.int a 0) (.ref it) ((i+1:Nat):Int) (.str (S [c]) w))::(it,SIt l u ((i+1:Nat):Int))::tab) 0→R (.ok (.ret (.ref a))) ⟨h',gl,d,t',os⟩):
 codeAny (MB B) A (.call (.builtin "enumerate.__next__") ⟨[.ref e],[]⟩) R ⟨h,gl,d,t,os⟩:=by
 refine code_tree ?_
 refine seg_val hh Rp 12 [5] [true,true] (Fin.again (.builtin "enumerate.__next__" ⟨[.ref e],[]⟩)) ((e,⟨.type "enumerate",none,.fields #[.none,.bool false,.ref it,.int ((↑i:Int)) 0,.none,old],#[]⟩)::(it,⟨.type "str_ascii_iterator",none,.fields #[.str (S l) u,.int ((↑i:Int)) 0],#[]⟩)::tab) 0 0 (by rfl') fun h1 N1 t1 Rp=>?_
 refine⟨Code.quiet_builtin _ (by decide+kernel),code_tree ?_⟩
 refine seg_call hh Rp 13 [5,6] [true,true] (.call (.builtin "str_ascii_iterator.__next__") ⟨[.ref it],[]⟩) ((e,⟨.type "enumerate",none,.fields #[.none,.bool false,.ref it,.int ((↑i:Int)) 0,.none,old],#[]⟩)::(it,⟨.type "str_ascii_iterator",none,.fields #[.str (S l) u,.int ((↑i:Int)) 0],#[]⟩)::tab) 0 0 (by rfl') fun h2 N2 t2 Rp=>?_
 refine si_next Rp 1 rfl hc rfl fun hn1 Rp=>?_
 dsimp only[setN] at Rp
 refine seg_val hh Rp 29 [5,5,5,1,5,1,6,6,6,2,6,2,6,2] [true,true,true] (Fin.done (Flow.ret (.ref (N2+0)))) ((N2+0,⟨.type "tuple",none,.seq #[.int ((↑i:Int)) (t2+1+0),.str (S [c]) t2] 0,#[]⟩)::(e,⟨.type "enumerate",none,.fields #[.int ((↑(N2+0):Int)) 0,.bool false,.ref it,.int ((↑i:Int)+1) 0,.none,.str (S [c]) t2],#[]⟩)::(it,⟨.type "str_ascii_iterator",none,.fields #[.str (S l) u,.int ((↑(i+1):Int)) 0],#[]⟩)::tab) 1 1 (by rfl') fun h3 N3 t3 Rp=>?_
 exact K _ _ _ _ _ _ Rp
theorem en_next_end(hh:A.handled=none)(old:Value)(Rp:Rep B N h ((e,EnumO .none (.ref it) (i:Int) old)::(it,SIt l u (i:Int))::tab) 0)(hc:l[i]? =none)
 (K:∀h' N' t' a e,Rep B N' h' ((e,StopO a)::tab) 0→R (.error (.ref e)) ⟨h',gl,d,t',os⟩):
 codeAny (MB B) A (.call (.builtin "enumerate.__next__") ⟨[.ref e],[]⟩) R ⟨h,gl,d,t,os⟩:=by
 refine code_tree ?_
 refine seg_val hh Rp 12 [5] [true,true] (Fin.again (.builtin "enumerate.__next__" ⟨[.ref e],[]⟩)) ((e,⟨.type "enumerate",none,.fields #[.none,.bool false,.ref it,.int ((↑i:Int)) 0,.none,old],#[]⟩)::(it,⟨.type "str_ascii_iterator",none,.fields #[.str (S l) u,.int ((↑i:Int)) 0],#[]⟩)::tab) 0 0 (by rfl') fun h1 N1 t1 Rp=>?_
 refine⟨Code.quiet_builtin _ (by decide+kernel),code_tree ?_⟩
 refine seg_call hh Rp 13 [5,6] [true,true] (.call (.builtin "str_ascii_iterator.__next__") ⟨[.ref it],[]⟩) ((e,⟨.type "enumerate",none,.fields #[.none,.bool false,.ref it,.int ((↑i:Int)) 0,.none,old],#[]⟩)::(it,⟨.type "str_ascii_iterator",none,.fields #[.str (S l) u,.int ((↑i:Int)) 0],#[]⟩)::tab) 0 0 (by rfl') fun h2 N2 t2 Rp=>?_
 refine si_end hh Rp 1 rfl hc rfl fun hn1 Nn1 an1 en1 Rp=>?_
 dsimp only[setN] at Rp
 refine seg_exc hh Rp 11 [] [true,false,false,false] (.ref en1) ((en1,⟨.type "StopIteration",none,.fields #[.ref an1,.none,.none,.none,.bool false,.none],#[]⟩)::tab) 0 0 (by rfl') fun h3 N3 t3 Rp=>?_
 exact K _ _ _ _ _ Rp
end
section
variable {V:EV} {B:Base} {prog:Program} {w:World}
structure SoundX (V:EV) (B:Base) (prog:Program) (w:World) (ih:Ih):Prop where
 T:∀(A:Around) (c:Code) (fs:List Frame) (P:End→Shared→Prop) (t:Sem Fin) tab m i ob adv h gl d os (x:Out Fin),V.Ok B prog w (A.over c fs)→Rep B V.N h tab m→
  ih.T Fin t tab m i ob adv=x→Obs x.ob→
  (∀h',Rep B V.N h' x.tab x.m→SegX (model prog w) A c x.t fs ⟨h',gl,d,V.t₀+x.i,os⟩ P)→
  SegX (model prog w) A c t fs ⟨h,gl,d,V.t₀+i,os⟩ P
theorem s_code{A:Around}{c:Code}{fs:List Frame}{P:End→Shared→Prop}{s:Shared}{c':Code}{g:Bool}{l:List Value}{k:Result→Sem Fin}
 (h:codeAny (model prog w) (A.over c fs) c' (fun r s'=>SegX (model prog w) A c (k r) fs s' P) s):SegX (model prog w) A c (.call c' none g l k) fs s P:=by
 refine s_cmd prog w A c fs P (m:=(Sem.call c' none g l Sem.pure:Sem Result)) (k:=k) (x_call ?_ (by intro z;cases z))
 rw[PySem.Around.mark_none]
 exact codeAny_mono h fun r s' q=>wpAny_pure q
theorem stepT_soundX{ih:Ih}(H:SoundI V B prog w ih)(HX:SoundX V B prog w ih)(HM:MonoI ih)(A:Around)(c:Code)(fs:List Frame)(P:End→Shared→Prop)(t:Sem Fin)(tab:Cells)(m i ob adv h gl d os)(x:Out Fin)
 (O:V.Ok B prog w (A.over c fs)) (R:Rep B V.N h tab m) (hx:stepT V ih Fin t tab m i ob adv=x) (hob:Obs x.ob)
 (K:∀h',Rep B V.N h' x.tab x.m→SegX (model prog w) A c x.t fs ⟨h',gl,d,V.t₀+x.i,os⟩ P):
 SegX (model prog w) A c t fs ⟨h,gl,d,V.t₀+i,os⟩ P:=by
 cases t
 case rule tg k=>exact s_skim prog w A c fs P _ (.rule tg k) 1 (HX.T A c fs P _ _ _ _ _ _ _ _ _ _ _ O R hx hob K)
 case «at» q k=>exact s_skim prog w A c fs P _ (.at q k) 1 (HX.T A c fs P _ _ _ _ _ _ _ _ _ _ _ O R hx hob K)
 case point l k=>exact s_skim prog w A c fs P _ (.point l k) 1 (HX.T A c fs P _ _ _ _ _ _ _ _ _ _ _ O R hx hob K)
 case ask k=>
  have z:=HX.T A c fs P _ _ _ _ _ _ _ _ _ _ _ O R hx hob K
  have q:k (V.st false)=k (V.st true):=by
   have e:Ob.tree PySem.Fin (k (V.st false))=Ob.tree PySem.Fin (k (V.st true)):=HM.T _ _ _ _ _ _ _ (hx▸hob) (_,_) (.head _)
   injection e
  obtain⟨b,hb⟩:=O.st
  have q':k ⟨prog,w.params⟩=k (V.st true):=by
   rw[←hb]
   cases b
   ·exact q
   ·rfl
  refine s_skim prog w A c fs P _ (.ask k) 1 ?_
  show SegX (model prog w) A c (k ⟨prog,w.params⟩) fs _ P
  rw[q']
  exact z
 case fresh k=>exact s_fresh prog w A c fs P _ _ _ _ _ k (HX.T A c fs P _ _ _ _ _ _ _ _ _ _ _ O R hx hob K)
 case handled own k=>
  cases own with
  |true=>subst hx;exact K h R
  |false=>
   have z:=HX.T A c fs P _ _ _ _ _ _ _ _ _ _ _ O R hx hob K
   rw[O.hd] at z
   exact s_handled prog w A c fs P _ k z
 case alloc o k=>
  unfold stepT at hx
  dsimp only at hx
  split at hx
  ·subst hx;exact K h R
  ·rename_i hf
   refine s_cmd prog w A c fs P (m:=alloc o) (k:=k) (wpAny_alloc ?_)
   show SegX _ _ _ (k h.objs.size) _ _ _
   rw[R.size]
   exact HX.T A c fs P _ _ _ _ _ _ _ _ _ _ _ O (R.push hf) hx hob K
 case load a p k=>
  unfold stepT at hx
  dsimp only at hx
  split at hx
  ·subst hx;exact K h R
  ·split at hx
   ·split at hx
    ·rename_i e
     exact s_load prog w A c fs P _ _ _ _ _ a p k _ (R.kt (O.stat▸e)) (HX.T A c fs P _ _ _ _ _ _ _ _ _ _ _ O R hx hob K)
    ·subst hx;exact K h R
   ·split at hx
    ·rename_i q e
     have ha:a=q.1:=Ob.addr.inj (HM.T _ _ _ _ _ _ _ (hx▸hob) (.addr a,.addr q.1) (.head _))
     exact s_load prog w A c fs P _ _ _ _ _ a p k _ (by rw[ha];exact O.at_place R e) (HX.T A c fs P _ _ _ _ _ _ _ _ _ _ _ O R hx hob K)
    ·subst hx;exact K h R
 case loadIfAlive a k=>
  unfold stepT at hx
  dsimp only at hx
  split at hx
  ·subst hx;exact K h R
  ·split at hx
   ·split at hx
    ·rename_i e
     exact s_alive prog w A c fs P _ _ _ _ _ a k _ (R.kt (O.stat▸e)) (HX.T A c fs P _ _ _ _ _ _ _ _ _ _ _ O R hx hob K)
    ·subst hx;exact K h R
   ·split at hx
    ·rename_i q e
     have ha:a=q.1:=Ob.addr.inj (HM.T _ _ _ _ _ _ _ (hx▸hob) (.addr a,.addr q.1) (.head _))
     exact s_alive prog w A c fs P _ _ _ _ _ a k _ (by rw[ha];exact O.at_place R e) (HX.T A c fs P _ _ _ _ _ _ _ _ _ _ _ O R hx hob K)
    ·subst hx;exact K h R
 case update a p f k=>
  unfold stepT at hx
  dsimp only at hx
  split at hx
  ·subst hx;exact K h R
  ·split at hx
   ·subst hx;exact K h R
   ·split at hx
    ·rename_i q e
     split at hx
     ·rename_i hf
      split at hx
      rotate_left
      ·subst hx;exact K h R
      rename_i hpl
      have ha:a=q.1:=Ob.addr.inj (HM.T _ _ _ _ _ _ _ (hx▸hob) (.addr a,.addr q.1) (.head _))
      subst ha
      exact s_cmd prog w A c fs P (m:=updatePart q.1 p f) (k:=k) (wpAny_updatePart (R.at e) (HX.T A c fs P _ _ _ _ _ _ _ _ _ _ _ O (R.upd e hpl hf) hx hob K))
     ·subst hx;exact K h R
    ·subst hx;exact K h R
 case call c' hh g l k=>
  unfold stepT at hx
  dsimp only at hx
  split at hx
  ·subst hx;exact K h R
  ·split at hx
   ·subst hx;exact K h R
   ·split at hx
    ·split at hx
     ·rename_i r tab' m' i' ob' adv'' q
      refine s_code ?_
      exact H.C (A.over c fs) _ c' _ _ _ _ _ _ _ _ _ r _ O R q rfl (HM.T _ _ _ _ _ _ _ (hx▸hob)) fun h' R'=>HX.T A c fs P _ _ _ _ _ _ _ _ _ _ _ O R' hx hob K
     ·subst hx;exact K h R
    ·split at hx
     ·rename_i a ea
      have hc:c'=a.code:=Ob.code.inj (HM.T _ _ _ _ _ _ _ (hx▸hob) (.code c',.code a.code) (.head _))
      subst hc
      refine s_code ?_
      refine O.ans.nth ea (A.over c fs) _ h gl d _ os ?_
      have z:=HX.T A c fs P _ _ _ _ _ _ _ _ _ _ _ O R hx hob K
      rw[←Nat.add_assoc] at z
      exact z
     ·subst hx;exact K h R
 all_goals (unfold stepT at hx;dsimp only at hx;subst hx;exact K h R)
theorem ev_soundX:∀n,SoundX V B prog w (ev V n)
 |0=>⟨fun _ _ _ _ _ _ _ _ _ _ h _ _ _ _ _ R hx _ K=>by subst hx;exact K h R⟩
 |n+1=>⟨fun A c fs P t tab m i ob adv h gl d os x O R hx hob K=>stepT_soundX (ev_sound n) (ev_soundX n) (ev_mono V n) A c fs P t tab m i ob adv h gl d os x O R hx hob K⟩
end
inductive GotX where
 |val (f:Fin)
 |exc (e:Value)
 |call (c:Code)
 |yld (v:Value)
 |other
noncomputable def gotX:Sem Fin→GotX
 | .pure f=>.val f
 | .raise e=>.exc e
 | .call c h _ _ _=>match h with
  |none=>.call c
  |some _=>.other
 | .yield v g _ _=>match g with
  |false=>.yld v
  |true=>.other
 |_=>.other
noncomputable def callG:Sem Fin→Bool
 | .call _ _ g _ _=>g
 |_=>false
noncomputable def callL:Sem Fin→List Value
 | .call _ _ _ l _=>l
 |_=>[]
noncomputable def yldK:Sem Fin→Resume→Sem Fin
 | .yield _ _ _ k=>k
 |t=>fun _=>t
noncomputable def yldL:Sem Fin→List Value
 | .yield _ _ l _=>l
 |_=>[]
structure ViewX where
 got:GotX
 tab:Cells
 m:Nat
 i:Nat
 ob:List Ob
noncomputable def viewX(x:Out Fin)(mask:List Bool):ViewX:=⟨gotX x.t,pick x.tab mask,x.m,x.i,x.ob.map (·.1)⟩
section
variable {B:Base} {A:Around} {N t₀:Nat} {c:Code} {fs:List Frame} {P:End→Shared→Prop} {t:Sem Fin} {tab:Cells} {h:Heap} {gl:Array GenState} {d:Drawn} {os:OsState}
theorem sx_run(hh:(A.over c fs).handled=none)(R:Rep B N h tab 0)(ans:List Ans)(n:Nat)(adv:List Nat)(mask:List Bool)(g:GotX)(tab':Cells)(m i:Nat)
 (e:viewX (runA B N t₀ ans n adv t tab) mask=⟨g,tab',m,i,(runA B N t₀ ans n adv t tab).ob.map (·.2)⟩) (ha:AnsOk B.prog B.w ans)
 (K:∀h' N' t',gotX (runA B N t₀ ans n adv t tab).t=g→Rep B N' h' tab' 0→SegX (MB B) A c (runA B N t₀ ans n adv t tab).t fs ⟨h',gl,d,t',os⟩ P):SegX (MB B) A c t fs ⟨h,gl,d,t₀,os⟩ P:=by
 generalize hx:runA B N t₀ ans n adv t tab=x at e K
 unfold viewX at e
 injection e with e1 e2 e3 e4 e5
 exact(ev_soundX (V:=mkVA B N t₀ ans) (B:=B) n).T A c fs P t tab 0 0 [] adv h gl d os x (mkVA_ok B (A:=A.over c fs) hh N t₀ ha) R hx (Obs.of_map e5) fun h' R'=>K h' (N+x.m) _ e1 (e2▸(R'.sub (pick_sub _ mask)).flat)
theorem sx_val(hh:(A.over c fs).handled=none)(R:Rep B N h tab 0)(ans:List Ans)(n:Nat)(adv:List Nat)(mask:List Bool)(f:Fin)(tab':Cells)(m i:Nat)
 (e:viewX (runA B N t₀ ans n adv t tab) mask=⟨.val f,tab',m,i,(runA B N t₀ ans n adv t tab).ob.map (·.2)⟩) (ha:AnsOk B.prog B.w ans)
 (K:∀h' N' t',Rep B N' h' tab' 0→SegX (MB B) A c (.pure f) fs ⟨h',gl,d,t',os⟩ P):SegX (MB B) A c t fs ⟨h,gl,d,t₀,os⟩ P:=by
 refine sx_run hh R ans n adv mask _ tab' m i e ha fun h' N' t' q R'=>?_
 have hv:(runA B N t₀ ans n adv t tab).t=.pure f:=by
  generalize (runA B N t₀ ans n adv t tab).t=y at q
  cases y<;>unfold gotX at q<;>dsimp only at q<;>first|(cases q;done)|(injection q with q;rw[q])|(split at q<;>cases q)
 rw[hv]
 exact K h' N' t' R'
theorem sx_call(hh:(A.over c fs).handled=none)(R:Rep B N h tab 0)(ans:List Ans)(n:Nat)(adv:List Nat)(mask:List Bool)(f:Code)(tab':Cells)(m i:Nat)
 (e:viewX (runA B N t₀ ans n adv t tab) mask=⟨.call f,tab',m,i,(runA B N t₀ ans n adv t tab).ob.map (·.2)⟩) (ha:AnsOk B.prog B.w ans)
 (K:∀h' N' t',Rep B N' h' tab' 0→codeAny (MB B) (A.over c fs) f (fun r s'=>SegX (MB B) A c (callK (runA B N t₀ ans n adv t tab).t r) fs s' P) ⟨h',gl,d,t',os⟩):SegX (MB B) A c t fs ⟨h,gl,d,t₀,os⟩ P:=by
 refine sx_run hh R ans n adv mask _ tab' m i e ha fun h' N' t' q R'=>?_
 have K':=K h' N' t' R'
 generalize (runA B N t₀ ans n adv t tab).t=y at q K'⊢
 cases y<;>unfold gotX at q<;>dsimp only at q
 case call c' hd g l k=>
  cases hd with
  |some _=>cases q
  |none=>
   injection q with q
   subst q
   exact s_code K'
 case yield v g l k=>cases g<;>cases q
 all_goals cases q
theorem sx_push(hh:(A.over c fs).handled=none)(R:Rep B N h tab 0)(ans:List Ans)(n:Nat)(adv:List Nat)(mask:List Bool)(f:Code)(tab':Cells)(m i:Nat)
 (e:viewX (runA B N t₀ ans n adv t tab) mask=⟨.call f,tab',m,i,(runA B N t₀ ans n adv t tab).ob.map (·.2)⟩) (ha:AnsOk B.prog B.w ans)
 (K:∀h' N' t' p,Rep B N' h' tab' 0→SegX (MB B) A f (denZ f) (.ret (callK (runA B N t₀ ans n adv t tab).t) none (callG (runA B N t₀ ans n adv t tab).t) (callL (runA B N t₀ ans n adv t tab).t) c p []::fs) ⟨h',gl,d,t',os⟩ P):SegX (MB B) A c t fs ⟨h,gl,d,t₀,os⟩ P:=by
 refine sx_run hh R ans n adv mask _ tab' m i e ha fun h' N' t' q R'=>?_
 have K':=fun p=>K h' N' t' p R'
 generalize (runA B N t₀ ans n adv t tab).t=y at q K'⊢
 cases y<;>unfold gotX at q<;>dsimp only at q
 case call c' hd g l k=>
  cases hd with
  |some _=>cases q
  |none=>
   injection q with q
   subst q
   refine s_call B.prog B.w A c fs P _ c' none g l k fun p=>?_
   rw[denZ_eq]
   exact K' p
 case yield v g l k=>cases g<;>cases q
 all_goals cases q
theorem sx_yld(hh:(A.over c fs).handled=none)(hf1:splitAtGen fs=none)(hf2:fs.any Frame.guarded=false)(R:Rep B N h tab 0)(ans:List Ans)(n:Nat)(adv:List Nat)(mask:List Bool)(v:Value)(tab':Cells)(m i:Nat)
 (e:viewX (runA B N t₀ ans n adv t tab) mask=⟨.yld v,tab',m,i,(runA B N t₀ ans n adv t tab).ob.map (·.2)⟩) (ha:AnsOk B.prog B.w ans)
 (K:∀h' N' t' p,Rep B N' h' tab' 0→P (.susp v false (yldL (runA B N t₀ ans n adv t tab).t) (yldK (runA B N t₀ ans n adv t tab).t) c p fs) ⟨h',gl,d,t',os⟩):SegX (MB B) A c t fs ⟨h,gl,d,t₀,os⟩ P:=by
 refine sx_run hh R ans n adv mask _ tab' m i e ha fun h' N' t' q R'=>?_
 have K':=fun p=>K h' N' t' p R'
 generalize (runA B N t₀ ans n adv t tab).t=y at q K'⊢
 cases y<;>unfold gotX at q<;>dsimp only at q
 case call c' hd g l k=>cases hd<;>cases q
 case yield v' g l k=>
  cases g with
  |true=>cases q
  |false=>
   injection q with q
   subst q
   exact s_yield B.prog B.w A c fs P _ _ l k hf1 hf2 K'
 all_goals cases q
theorem sx_again{c':Code}(hq:c'.quiet=true)(K:SegX (MB B) A c' (denZ c') fs ⟨h,gl,d,t₀,os⟩ P):SegX (MB B) A c (.pure (.again c')) fs ⟨h,gl,d,t₀,os⟩ P:=by
 refine PySem.W.X.s_again B.prog B.w A c fs P _ c' hq ?_
 rw[denZ_eq];exact K
end
end Mine
namespace Mine
open PySem PySem.W PySem.W.X PyProof.Rows PySem.Calls
noncomputable def assignZ:Expr→Env→Value→Sem Unit:=PySem.W.ZFast.zw17772580674575903948
theorem assignZ_eq:assign=assignZ:=PySem.W.ZFast.ze17772580674575903948
noncomputable def isTup:Expr→Bool
 | .Tuple .. =>true
 |_=>false
section
variable {B:Base} {A:Around} {R:Result→Shared→Prop} {h:Heap} {gl:Array GenState} {d:Drawn} {t:Nat} {os:OsState} {N m u i c:Nat} {tab tab':Cells} {e a:Addr} {E:Value→Shared→Prop}
theorem let_enum{target:Expr}{it old:Value}{j:Int}{Q:Unit→Shared→Prop}(ht:isTup target=true)(Rp:Rep B N h tab 0)(i:Nat)(hx:nth tab i=some (e,EnumO (.int a 0) it j old))(ht':setN tab i (e,EnumO .none it j old)=tab')
 (K:∀h',Rep B N h' tab' 0→Q () ⟨h',gl,d,t,os⟩):wpAny (MB B) A (letOwnedTupleGo target (.ref e) (.ref a)) Q E ⟨h,gl,d,t,os⟩:=by
 subst ht'
 unfold isTup at ht
 split at ht
 ·have he:h.get? e=some (EnumO (.int a 0) it j old):=Rp.at hx
  have q:=K _ (Rp.upd (f:=Obj.mapFields (·.setIfInBounds 0 .none)) hx rfl rfl)
  unfold letOwnedTupleGo
  dsimp only
  refine wpAny_bind (wpAny_load he ?_)
  dsimp only
  rw[if_pos (by simp[rawInt])]
  refine wpAny_bind (wpAny_rule ?_)
  unfold updateField
  refine wpAny_bind (wpAny_load he ?_)
  dsimp only
  rw[if_pos (by simp)]
  exact wpAny_update he q
 ·cases ht
theorem pyNext_of{it:Value}{T id:String}{Q:Option Value→Shared→Prop}{s:Shared}(hT:s.TypeIs it T)(slot:Slot T "__next__" id)
 (hc:codeAny (MB B) A (.call (.builtin id) ⟨[it],[]⟩) (fun r s'=>match r with| .ok (.ret v)=>Q (some v) s'| .error e=>s'.TypeIs e "StopIteration"∧Q none s'|_=>False) s):wpAny (MB B) A (pyNext it) Q E s:=by
 unfold pyNext
 refine wpAny_bind (wpAny_attempt (wpAny_callSpecial?_slot (name:=Str.ofString "__next__") hT slot (wpAny_call (codeAny_mono hc fun r s' q=>?_))))
 cases r with
 |ok f=>
  cases f with
  |ret v=>exact wpAny_pure q
  |_=>exact q.elim
 |error e=>
  exact wpAny_bind (wpAny_isInstance (T:="StopIteration") (b:=true) q.1 isSubtype_stop (wpAny_pure q.2))
end
section
variable {B:Base} {A:Around} {s:Shared} {target:Expr} {it:Value} {body orelse:List Stmt} {env:Env}
noncomputable abbrev noE:Value→Shared→Prop:=fun _ _=>False
theorem for_turn{R:Result→Shared→Prop}(h:wpAny (MB B) (A.under (.forLoop target it body orelse env)) (pyNext it) (fun r s₁=>match r with
 |none=>codeAny (MB B) A (.block orelse env) R s₁
 |some v=>wpAny (MB B) (A.under (.forLoop target it body orelse env)) (letOwnedTupleGo target it v) (fun _ s₂=>wpAny (MB B) (A.under (.forLoop target it body orelse env)) (assignZ target env v) (fun _ s₃=>
  wpAny (MB B) (A.under (.forLoop target it body orelse env)) (execsZ body env) (fun f s₄=>match f with
   | .next| .cont=>codeAny (MB B) A (.forLoop target it body orelse env) R s₄
   | .brk=>R (.ok .next) s₄
   | .ret v=>R (.ok (.ret v)) s₄) noE s₃) noE s₂) noE s₁) noE s):codeAny (MB B) A (.forLoop target it body orelse env) R s:=by
 refine codeAny_of_tree ?_
 show wpAny _ _ ((forTurn target it body orelse env).onRaise (fun x=>do noteFrame x env;theTreesLotGoes x)) _ _ s
 refine wpAny_onRaise ?_
 simp only[forTurn]
 refine wpAny_bind (wpAny_standAt (wpAny_bind (wpAny_onRaise (wpAny_mono h (fun r s₁ h₁=>?_) fun _ _ q=>q.elim))))
 cases r with
 |none=>exact wpAny_pure ⟨rfl,h₁⟩
 |some v=>
  refine wpAny_bind (wpAny_mono h₁ (fun _ s₂ h₂=>?_) fun _ _ q=>q.elim)
  rw[assignZ_eq]
  refine wpAny_bind (wpAny_mono h₂ (fun _ s₃ h₃=>?_) fun _ _ q=>q.elim)
  rw[execsZ_eq]
  refine wpAny_bind (wpAny_mono h₃ (fun f s₄ h₄=>?_) fun _ _ q=>q.elim)
  cases f with
  |next=>exact wpAny_pure ⟨rfl,h₄⟩
  |cont=>exact wpAny_pure ⟨rfl,h₄⟩
  |brk=>exact wpAny_pure h₄
  |ret v=>exact wpAny_pure h₄
theorem wrap_wrap{α β γ:Type}(m:Sem α)(f:α→Sem β)(K:β→Sem γ)(H:Value→Sem γ):(m.wrap f .raise id id).wrap K H id id=m.wrap (fun a=>(f a).wrap K H id id) H id id:=by
 induction m<;>simp only[Sem.wrap,id, *]
theorem s_wrap{α:Type}{c:Code}{fs:List Frame}{P:End→Shared→Prop}{m:Sem α}{k:α→Sem Fin}{H:Value→Sem Fin}(h:wpAny (MB B) (A.over c fs) m (fun a s'=>SegX (MB B) A c (k a) fs s' P) noE s):
 SegX (MB B) A c (m.wrap k H id id) fs s P:=by
 rintro Γ p rfl hΓ
 obtain⟨e,s',hr,hq⟩:=runs_wrap_of_wp (Φ:=fun e s'=>e.quiet=true∧P e s') k H id id m (h (Γ.over fs) p (hΓ.over fs)) (fun a p' s' h'=>h' Γ p' rfl hΓ) (fun x p' s' h'=>h'.elim)
 exact⟨e,s',hr,hq⟩
noncomputable def turnTail(target:Expr)(it:Value)(body orelse:List Stmt)(env:Env):Sem Fin:=
 PySem.W.R.onRaiseR (PySem.W.R.bindR (execsZ body env) fun f=>match f with
  | .next| .cont=>Sem.pure (PySem.Fin.again (.forLoop target it body orelse env))
  | .brk=>Sem.pure (PySem.Fin.done .next)
  | .ret v=>Sem.pure (PySem.Fin.done (.ret v))) (fun x=>do noteFrame x env;theTreesLotGoes x)
theorem onRaise_bind{α β:Type}(m:Sem α)(f:α→Sem β)(g:Value→Sem Unit):(m >>= f).onRaise g=m.wrap (fun a=>(f a).onRaise g) (fun e=>(g e).bind fun _=>.raise e) id id:=by
 rw[Sem.onRaise_eq_wrap,Sem.bind_eq_wrap',wrap_wrap]
 congr 1
 funext a
 rw[Sem.onRaise_eq_wrap]
theorem s_turn{fs:List Frame}{P:End→Shared→Prop}
 (h:wpAny (MB B) (A.over (.forLoop target it body orelse env) fs) (pyNext it) (fun r s₁=>match r with
  |none=>SegX (MB B) A (.forLoop target it body orelse env) (.pure (.again (.block orelse env))) fs s₁ P
  |some v=>wpAny (MB B) (A.over (.forLoop target it body orelse env) fs) (letOwnedTupleGo target it v) (fun _ s₂=>wpAny (MB B) (A.over (.forLoop target it body orelse env) fs) (assignZ target env v) (fun _ s₃=>
   SegX (MB B) A (.forLoop target it body orelse env) (turnTail target it body orelse env) fs s₃ P) noE s₂) noE s₁) noE s):
 SegX (MB B) A (.forLoop target it body orelse env) (denZ (.forLoop target it body orelse env)) fs s P:=by
 rw[←denZ_eq]
 show SegX _ _ _ ((forTurn target it body orelse env).onRaise (fun x=>do noteFrame x env;theTreesLotGoes x)) fs s P
 simp only[forTurn]
 rw[onRaise_bind]
 refine s_wrap (wpAny_standAt ?_)
 rw[onRaise_bind]
 refine s_wrap (wpAny_onRaise (wpAny_mono h (fun r s₁ h₁=>?_) fun _ _ q=>q.elim))
 cases r with
 |none=>exact h₁
 |some v=>
  dsimp only
  rw[onRaise_bind]
  refine s_wrap (wpAny_mono h₁ (fun _ s₂ h₂=>?_) fun _ _ q=>q.elim)
  rw[onRaise_bind,assignZ_eq]
  refine s_wrap (wpAny_mono h₂ (fun _ s₃ h₃=>?_) fun _ _ q=>q.elim)
  unfold turnTail at h₃
  rw[←PySem.W.R.bindR_eq,←PySem.W.R.onRaiseR_eq,←execsZ_eq] at h₃
  exact h₃
end
noncomputable abbrev Slc(vl vu vs:Value):Obj:=⟨.type "slice",none,.fields #[vl,vu,vs],#[]⟩
section
variable {B:Base} {A:Around} {R:Result→Shared→Prop} {h:Heap} {gl:Array GenState} {d:Drawn} {t:Nat} {os:OsState} {N:Nat} {tab:Cells} {l sl:Addr} {items ys:Array Value} {n:Nat} {vl vu vs:Value} {lo hi st:Option Int}
theorem l_slice(Rp:Rep B N h tab 0)(i k:Nat)(hi':nth tab i=some (l,Lst items n))(hk:nth tab k=some (sl,Slc vl vu vs))(pl:IsPart vl lo)(pu:IsPart vu hi)(ps:IsPart vs st)(h0:st≠some 0)(hsz:items.size≤2^24)(e:slicePick items lo hi st=ys)
 (K:∀h' N' a,Rep B N' h' ((a,Lst ys 0)::tab) 0→R (.ok (.ret (.ref a))) ⟨h',gl,d,t,os⟩):codeAny (MB B) A (.call (.builtin "list.__getitem__") ⟨[.ref l,.ref sl],[]⟩) R ⟨h,gl,d,t,os⟩:=by
 subst e
 have hl:h.get? l=some (Lst items n):=Rp.at hi'
 have hs:h.get? sl=some (Slc vl vu vs):=Rp.at hk
 have hTs:(⟨h,gl,d,t,os⟩:Shared).TypeIs (.ref sl) "slice":=⟨_,hs,rfl⟩
 refine codeAny_call_builtin F.slot_list_getitem.plain F.entry_list_getitem (F.slot_list_getitem.check _ _ _ _ _ _ _ _ ⟨_,hl,rfl⟩ (F.args_list_getitem_2 _ _) ?_)
 show wpAny _ _ (Builtin.List.listSubscript? (.ref sl) >>= _) _ _ _
 refine wpAny_bind ?_
 unfold Builtin.List.listSubscript?
 refine wpAny_bind (wpAny_specialOf hTs slice_no_index ?_)
 simp only[Option.isNone_none,if_true]
 refine wpAny_pure ?_
 show wpAny _ _ (typeOf (.ref sl) >>= _) _ _ _
 refine wpAny_bind (wpAny_typeOf hTs ?_)
 rw[if_neg (by decide)]
 rw[listSliceParts_eq]
 have hstep:¬((rawPart st==rawInt 0)=true):=by
  cases st with
  |none=>exact Bool.false_ne_true
  |some c=>
   intro hh
   have:c=0:=by simpa[rawPart,rawInt] using hh
   exact h0 (by rw[this])
 refine wpAny_bind (wpAny_bind (wpAny_field hs rfl (x:=vs) rfl (wpAny_bind (wpAny_listPart ps ?_))))
 rw[if_neg hstep]
 refine wpAny_bind (wpAny_field hs rfl (x:=vl) rfl (wpAny_bind (wpAny_listPart pl ?_)))
 refine wpAny_bind (wpAny_field hs rfl (x:=vu) rfl (wpAny_bind (wpAny_listPart pu (wpAny_pure ?_))))
 refine wpAny_bind (m:=Builtin.List.listItems (.ref l)) ?_
 unfold Builtin.List.listItems
 refine wpAny_bind (wpAny_seqItems hl rfl (wpAny_pure ?_))
 refine wpAny_bind (wpAny_of_eq (sliceIndices_raw lo hi st items.size h0) ?_)
 have q:=(Rp.push (o:=Lst (slicePick items lo hi st) 0) rfl).flat
 have hN:=Rp.size
 rw[show N+0=h.objs.size from hN.symm] at q
 exact wpAny_bind (wpAny_newObj_type (wpAny_pure (K _ _ _ q)) (Nat.le_trans (slicePick_size_le items lo hi st) hsz))
end
section
variable {B:Base} {A:Around} {R:Result→Shared→Prop} {h:Heap} {gl:Array GenState} {d:Drawn} {t:Nat} {os:OsState} {N:Nat} {tab tab':Cells} {l sl it e:Addr} {items ys:Array Value} {n j:Nat} {vl vu vs x:Value} {lo hi st:Option Int}
theorem l_sliceS(Rp:Rep B N h tab 0)(hl:h.get? l=some (Lst items n))(k:Nat)(hk:nth tab k=some (sl,Slc vl vu vs))(pl:IsPart vl lo)(pu:IsPart vu hi)(ps:IsPart vs st)(h0:st≠some 0)(hsz:items.size≤2^24)(e:slicePick items lo hi st=ys)
 (K:∀h' N' a,Rep B N' h' ((a,Lst ys 0)::tab) 0→R (.ok (.ret (.ref a))) ⟨h',gl,d,t,os⟩):codeAny (MB B) A (.call (.builtin "list.__getitem__") ⟨[.ref l,.ref sl],[]⟩) R ⟨h,gl,d,t,os⟩:=by
 subst e
 have hs:h.get? sl=some (Slc vl vu vs):=Rp.at hk
 have hTs:(⟨h,gl,d,t,os⟩:Shared).TypeIs (.ref sl) "slice":=⟨_,hs,rfl⟩
 refine codeAny_call_builtin F.slot_list_getitem.plain F.entry_list_getitem (F.slot_list_getitem.check _ _ _ _ _ _ _ _ ⟨_,hl,rfl⟩ (F.args_list_getitem_2 _ _) ?_)
 show wpAny _ _ (Builtin.List.listSubscript? (.ref sl) >>= _) _ _ _
 refine wpAny_bind ?_
 unfold Builtin.List.listSubscript?
 refine wpAny_bind (wpAny_specialOf hTs slice_no_index ?_)
 simp only[Option.isNone_none,if_true]
 refine wpAny_pure ?_
 show wpAny _ _ (typeOf (.ref sl) >>= _) _ _ _
 refine wpAny_bind (wpAny_typeOf hTs ?_)
 rw[if_neg (by decide)]
 rw[listSliceParts_eq]
 have hstep:¬((rawPart st==rawInt 0)=true):=by
  cases st with
  |none=>exact Bool.false_ne_true
  |some c=>
   intro hh
   have:c=0:=by simpa[rawPart,rawInt] using hh
   exact h0 (by rw[this])
 refine wpAny_bind (wpAny_bind (wpAny_field hs rfl (x:=vs) rfl (wpAny_bind (wpAny_listPart ps ?_))))
 rw[if_neg hstep]
 refine wpAny_bind (wpAny_field hs rfl (x:=vl) rfl (wpAny_bind (wpAny_listPart pl ?_)))
 refine wpAny_bind (wpAny_field hs rfl (x:=vu) rfl (wpAny_bind (wpAny_listPart pu (wpAny_pure ?_))))
 refine wpAny_bind (m:=Builtin.List.listItems (.ref l)) ?_
 unfold Builtin.List.listItems
 refine wpAny_bind (wpAny_seqItems hl rfl (wpAny_pure ?_))
 refine wpAny_bind (wpAny_of_eq (sliceIndices_raw lo hi st items.size h0) ?_)
 have q:=(Rp.push (o:=Lst (slicePick items lo hi st) 0) rfl).flat
 have hN:=Rp.size
 rw[show N+0=h.objs.size from hN.symm] at q
 exact wpAny_bind (wpAny_newObj_type (wpAny_pure (K _ _ _ q)) (Nat.le_trans (slicePick_size_le items lo hi st) hsz))
theorem en_newL(hh:A.handled=none)(Rp:Rep B N h tab 0)(i:Nat)(hx:nth tab i=some (l,Lst items n))
 (K:∀h' N' t' e it,Rep B N' h' ((e,EnumO .none (.ref it) 0 .none)::(it,ListIt l ((0:Nat):Int))::tab) 0→R (.ok (.ret (.ref e))) ⟨h',gl,d,t',os⟩):codeAny (MB B) A (.call (.builtin "enumerate.__new__") ⟨[.type "enumerate",.ref l],[]⟩) R ⟨h,gl,d,t,os⟩:=by
 refine code_tree ?_
 refine seg_val hh Rp 20 [] [] (Fin.again (.builtin "enumerate.__new__" ⟨[.type "enumerate",.ref l],[]⟩)) (tab) 0 0 (by rfl') fun h1 N1 t1 Rp=>?_
 refine⟨Code.quiet_builtin _ (by decide+kernel),codeAny_builtin F.entry_enumerate_new ?_⟩
 rw[Around.under_plainId (by decide+kernel)]
 refine meets_enumerate_new l items n B.prog B.w A R _ ⟨Rp.at hx,?_⟩
 have hs:=Rp.size
 have q:=((Rp.push (o:=ListIt l ((0:Nat):Int)) rfl).push (o:=EnumO .none (.ref N1) 0 .none) rfl).flat
 dsimp only
 rw[Heap.size_push,hs]
 exact K _ _ _ _ _ q
theorem li_end(hh:A.handled=none)(Rp:Rep B N h tab 0)(i k:Nat)(hi:nth tab i=some (it,ListIt l (j:Int)))(hk:nth tab k=some (l,Lst items n))(he:items[j]? =none)(ht:setN tab i (it,⟨.type "list_iterator",none,.fields #[.none,.int j 0],#[]⟩)=tab')
 (K:∀h' N' a e,Rep B N' h' ((e,StopO a)::(a,⟨.type "tuple",none,.seq #[] 0,#[]⟩)::tab') 0→R (.error (.ref e)) ⟨h',gl,d,t,os⟩):codeAny (MB B) A (.call (.builtin "list_iterator.__next__") ⟨[.ref it],[]⟩) R ⟨h,gl,d,t,os⟩:=by
 subst ht
 have hl:h.get? l=some (Lst items n):=Rp.at hk
 have hit:h.get? it=some (ListIt l (j:Int)):=Rp.at hi
 refine codeAny_call_builtin slot_listiter_next.plain entry_listiter_next (slot_listiter_next.check _ _ _ _ _ _ _ _ ⟨_,hit,rfl⟩ (args_listiter_next _) ?_)
 unfold Builtin.«list_iterator.__next__»
 refine wpAny_bind (wpAny_of_eq (a:=(Value.ref it,[])) rfl ?_)
 try dsimp only
 refine wpAny_bind (wpAny_field hit rfl (x:=.ref l) rfl ?_)
 rw[if_neg (show¬((Value.ref l==Value.none)=true) from Bool.false_ne_true)]
 refine wpAny_bind (wpAny_field hit rfl (x:=rawInt (j:Int)) rfl ?_)
 show wpAny _ _ (seqItems? (.ref l) >>= _) _ _ _
 refine wpAny_bind (wpAny_seqItems hl rfl ?_)
 simp only[Int.toNat_natCast,he]
 have q:=Rp.upd (f:=Obj.mapFields fun vs=>vs.setIfInBounds 0 .none) hi rfl rfl
 have hs:=q.size
 have q:=((q.push (o:=⟨.type "tuple",none,.seq #[] 0,#[]⟩) rfl).push (o:=StopO N) rfl).flat
 refine wpAny_bind (wpAny_rule (wpAny_bind (wpAny_setField hit rfl (by simp) ?_)))
 show wpAny _ _ (newExc (.type "StopIteration") [] >>= _) _ _ _
 refine wpAny_bind ?_
 simp only[newExc,newTuple]
 refine wpAny_bind (wpAny_newObj_type ?_ (by size_fits))
 refine wpAny_bind (m:=firstArgMember _ _) (wpAny_of_eq (a:=Value.none) (by first|rfl|(simp only[firstArgMember];rfl)) ?_)
 refine wpAny_newObj_type ?_ (by size_fits)
 simp only[raiseNew]
 refine wpAny_bind (wpAny_handled ?_)
 rw[hh]
 refine wpAny_bind (wpAny_pure (wpAny_throw ?_))
 have q:=K _ _ _ _ q
 rw[Heap.size_push]
 rw[show(h.update it (Obj.mapFields fun x=>x.setIfInBounds 0 Value.none)).objs.size=N from hs]
 exact q
end
end Mine
namespace Mine
open PySem PySem.W PySem.W.X PyProof.Rows PySem.Spec PySem.Calls
section
variable {B:Base} {A:Around} {R:Result→Shared→Prop} {h:Heap} {gl:Array GenState} {d:Drawn} {t:Nat} {os:OsState} {N u i n:Nat} {c:Int} {tab:Cells} {e it l:Addr} {items:Array Value} {s:List Nat}
theorem en_nextI(hh:A.handled=none)(old:Value)(Rp:Rep B N h ((e,EnumO .none (.ref it) (i:Int) old)::(it,ListIt l (i:Int))::(l,Lst items n)::tab) 0)(hc:items[i]? =some (.int c u))
 (K:∀h' N' t' a v,Rep B N' h' ((a,⟨.type "tuple",none,.seq #[.int (i:Int) v,.int c u] 0,#[]⟩)::(e,EnumO (.int a 0) (.ref it) ((i+1:Nat):Int) (.int c u))::(it,ListIt l ((i+1:Nat):Int))::(l,Lst items n)::tab) 0→R (.ok (.ret (.ref a))) ⟨h',gl,d,t',os⟩):
 codeAny (MB B) A (.call (.builtin "enumerate.__next__") ⟨[.ref e],[]⟩) R ⟨h,gl,d,t,os⟩:=by
 refine code_tree ?_
 refine seg_val hh Rp 12 [5] [true,true,true] (Fin.again (.builtin "enumerate.__next__" ⟨[.ref e],[]⟩)) ((e,⟨.type "enumerate",none,.fields #[.none,.bool false,.ref it,.int ((↑i:Int)) 0,.none,old],#[]⟩)::(it,⟨.type "list_iterator",none,.fields #[.ref l,.int ((↑i:Int)) 0],#[]⟩)::(l,⟨.type "list",none,.seq items n,#[]⟩)::tab) 0 0 (by rfl') fun h1 N1 t1 Rp=>?_
 refine⟨Code.quiet_builtin _ (by decide+kernel),code_tree ?_⟩
 refine seg_call hh Rp 13 [5,6] [true,true,true] (.call (.builtin "list_iterator.__next__") ⟨[.ref it],[]⟩) ((e,⟨.type "enumerate",none,.fields #[.none,.bool false,.ref it,.int ((↑i:Int)) 0,.none,old],#[]⟩)::(it,⟨.type "list_iterator",none,.fields #[.ref l,.int ((↑i:Int)) 0],#[]⟩)::(l,⟨.type "list",none,.seq items n,#[]⟩)::tab) 0 0 (by rfl') fun h2 N2 t2 Rp=>?_
 refine li_next Rp 1 2 rfl rfl hc rfl fun hn1 Rp=>?_
 dsimp only[setN] at Rp
 refine seg_val hh Rp 29 [5,5,5,1,5,1,6,6,6,2,6,2,6,2] [true,true,true,true] (Fin.done (Flow.ret (.ref (N2+0)))) ((N2+0,⟨.type "tuple",none,.seq #[.int ((↑i:Int)) (t2+0),.int (c) u] 0,#[]⟩)::(e,⟨.type "enumerate",none,.fields #[.int ((↑(N2+0):Int)) 0,.bool false,.ref it,.int ((↑i:Int)+1) 0,.none,.int (c) u],#[]⟩)::(it,⟨.type "list_iterator",none,.fields #[.ref l,.int ((↑(i+1):Int)) 0],#[]⟩)::(l,⟨.type "list",none,.seq items n,#[]⟩)::tab) 1 1 (by rfl') fun h3 N3 t3 Rp=>?_
 exact K _ _ _ _ _ Rp
theorem en_endL(hh:A.handled=none)(old:Value)(Rp:Rep B N h ((e,EnumO .none (.ref it) (i:Int) old)::(it,ListIt l (i:Int))::(l,Lst items n)::tab) 0)(hc:items[i]? =none)
 (K:∀h' N' t' a e,Rep B N' h' ((e,StopO a)::(l,Lst items n)::tab) 0→R (.error (.ref e)) ⟨h',gl,d,t',os⟩):
 codeAny (MB B) A (.call (.builtin "enumerate.__next__") ⟨[.ref e],[]⟩) R ⟨h,gl,d,t,os⟩:=by
 refine code_tree ?_
 refine seg_val hh Rp 12 [5] [true,true,true] (Fin.again (.builtin "enumerate.__next__" ⟨[.ref e],[]⟩)) ((e,⟨.type "enumerate",none,.fields #[.none,.bool false,.ref it,.int ((↑i:Int)) 0,.none,old],#[]⟩)::(it,⟨.type "list_iterator",none,.fields #[.ref l,.int ((↑i:Int)) 0],#[]⟩)::(l,⟨.type "list",none,.seq items n,#[]⟩)::tab) 0 0 (by rfl') fun h1 N1 t1 Rp=>?_
 refine⟨Code.quiet_builtin _ (by decide+kernel),code_tree ?_⟩
 refine seg_call hh Rp 13 [5,6] [true,true,true] (.call (.builtin "list_iterator.__next__") ⟨[.ref it],[]⟩) ((e,⟨.type "enumerate",none,.fields #[.none,.bool false,.ref it,.int ((↑i:Int)) 0,.none,old],#[]⟩)::(it,⟨.type "list_iterator",none,.fields #[.ref l,.int ((↑i:Int)) 0],#[]⟩)::(l,⟨.type "list",none,.seq items n,#[]⟩)::tab) 0 0 (by rfl') fun h2 N2 t2 Rp=>?_
 refine li_end hh Rp 1 2 rfl rfl hc rfl fun hn1 Nn1 an1 en1 Rp=>?_
 dsimp only[setN] at Rp
 refine seg_exc hh Rp 11 [] [true,false,false,false,true] (.ref en1) ((en1,⟨.type "StopIteration",none,.fields #[.ref an1,.none,.none,.none,.bool false,.none],#[]⟩)::(l,⟨.type "list",none,.seq items n,#[]⟩)::tab) 0 0 (by rfl') fun h3 N3 t3 Rp=>?_
 exact K _ _ _ _ _ Rp
end
noncomputable def dE(P:Params)(k:List Nat)(t:Nat)(v:Value):DictEntry:={hash:=PyData.keyHash P (S k),key:=.str (S k) t,val:=v}
noncomputable def bEs(P:Params):Nat→List (String×List Nat)→List DictEntry
 |_,[]=>[]
 |n,(b,k)::r=>dE P k n (.builtin b)::bEs P (n+1) r
noncomputable def sA(i:Nat):Stmt:=(PySem.Challenge.pw_ta0116_01.main.body.drop i).headD default
noncomputable def sC(i:Nat):Stmt:=match sA 21 with
 | .ClassDef _ _ _ b _ _ _ _ _ _ _=>(b.drop i).headD default
 |_=>default
noncomputable def fO(q:List Nat)(s:Stmt)(d m:Value)(c:Nat):Obj:=match s with
 | .FunctionDef n a b _ _ _ s _ _ _=>⟨.type "function",none,.func {name:=n,qualname:=S q,params:=a,body:=.stmts b,scope:=s,globals:=3,closure:=[],defaults:=d,kwdefaults:=.none,pyModule:=m,code:=.ref c},#[]⟩
 |_=>default
noncomputable def cO(n q:List Nat)(t l k w f a:Nat)(y:Bool)(u:Nat):Obj:=
 let p:=S [47,99,108,97,105,109,47,99,117,116,46,112,121]
 ⟨.type "code",none,.fields #[.str (S n) t,.str (S q) (t+1),.str p (t+2),.int l 0,.int k 0,.int 0 0,.int w 0,.int f 0,.ref a,.bool true,.int 276 0,.ref (a+1),.none,
  cond y (.ref (a+2)) .none,cond y (.ref (a+3)) .none,.ref (cond y (a+4) (a+2)),.int u 0,.int l 0,.str p (u+1)],#[]⟩
set_option genSizeOf false in
set_option genInjectivity false in
inductive OT where
 |leaf (a:Addr) (o:Obj)
 |node (k:Addr) (l r:OT)
noncomputable def OT.get:OT→Addr→Option Obj
 | .leaf b o,a=>match Nat.beq a b with
  |true=>some o
  |false=>none
 | .node k l r,a=>match Nat.blt a k with
  |true=>l.get a
  |false=>r.get a
noncomputable def OT.list:OT→Frag
 | .leaf a o=>[(a,o)]
 | .node _ l r=>l.list++r.list
theorem allIn_app{h:Heap}:∀{k l:Frag},AllIn h (k++l)→AllIn h k∧AllIn h l
 |[],_,H=>⟨trivial,H⟩
 |_::_,_,H=>⟨⟨H.1,(allIn_app H.2).1⟩,(allIn_app H.2).2⟩
theorem OT.holds{h:Heap}{a:Addr}{o:Obj}:∀{t:OT},AllIn h t.list→t.get a=some o→h.get? a=some o
 | .leaf b _,H,e=>by
  unfold OT.get at e
  split at e
  ·cases e;rename_i q;rw[Nat.eq_of_beq_eq_true q];exact H.1
  ·cases e
 | .node ..,H,e=>by
  unfold OT.get at e
  split at e
  ·exact OT.holds (allIn_app H).1 e
  ·exact OT.holds (allIn_app H).2 e
noncomputable def ob0(P:Params):Obj:=⟨.type "dict",none,.dict ([dE P [95,95,110,97,109,101,95,95] 1 (.str (S [98,117,105,108,116,105,110,115]) 160),dE P [95,95,100,111,99,95,95] 2 (.builtin "builtins.__doc__:str#opaque"),dE P [95,95,112,97,99,107,97,103,101,95,95] 3 (.builtin "builtins.__package__:str#opaque"),dE P [95,95,108,111,97,100,101,114,95,95] 4 (.builtin "builtins.__loader__:shared#opaque"),dE P [95,95,115,112,101,99,95,95] 5 (.builtin "builtins.__spec__#opaque")]++bEs P 6 [("__build_class__",[95,95,98,117,105,108,100,95,99,108,97,115,115,95,95]),("__import__",[95,95,105,109,112,111,114,116,95,95]),("abs",[97,98,115]),("all",[97,108,108]),("any",[97,110,121]),("ascii",[97,115,99,105,105]),("bin",[98,105,110]),("breakpoint",[98,114,101,97,107,112,111,105,110,116]),("callable",[99,97,108,108,97,98,108,101]),("chr",[99,104,114]),("compile",[99,111,109,112,105,108,101]),("delattr",[100,101,108,97,116,116,114]),("dir",[100,105,114]),("divmod",[100,105,118,109,111,100]),("eval",[101,118,97,108]),("exec",[101,120,101,99]),("format",[102,111,114,109,97,116]),("getattr",[103,101,116,97,116,116,114]),("globals",[103,108,111,98,97,108,115]),("hasattr",[104,97,115,97,116,116,114]),("hash",[104,97,115,104]),("hex",[104,101,120]),("id",[105,100]),("input",[105,110,112,117,116]),("isinstance",[105,115,105,110,115,116,97,110,99,101]),("issubclass",[105,115,115,117,98,99,108,97,115,115]),("iter",[105,116,101,114]),("aiter",[97,105,116,101,114]),("len",[108,101,110]),("locals",[108,111,99,97,108,115]),("max",[109,97,120]),("min",[109,105,110]),("next",[110,101,120,116]),("anext",[97,110,101,120,116]),("oct",[111,99,116]),("ord",[111,114,100]),("pow",[112,111,119]),("print",[112,114,105,110,116]),("repr",[114,101,112,114]),("round",[114,111,117,110,100]),("setattr",[115,101,116,97,116,116,114]),("sorted",[115,111,114,116,101,100]),("sum",[115,117,109]),("vars",[118,97,114,115])]++[dE P [78,111,110,101] 50 (.none),dE P [69,108,108,105,112,115,105,115] 51 (.ellipsis),dE P [78,111,116,73,109,112,108,101,109,101,110,116,101,100] 52 (.notImplemented),dE P [70,97,108,115,101] 53 (.bool false),dE P [84,114,117,101] 54 (.bool true),dE P [98,111,111,108] 55 (.type "bool"),dE P [109,101,109,111,114,121,118,105,101,119] 56 (.type "memoryview"),dE P [98,121,116,101,97,114,114,97,121] 57 (.type "bytearray"),dE P [98,121,116,101,115] 58 (.type "bytes"),dE P [99,108,97,115,115,109,101,116,104,111,100] 59 (.type "classmethod"),dE P [99,111,109,112,108,101,120] 60 (.type "complex"),dE P [100,105,99,116] 61 (.type "dict"),dE P [101,110,117,109,101,114,97,116,101] 62 (.type "enumerate"),dE P [102,105,108,116,101,114] 63 (.type "filter"),dE P [102,108,111,97,116] 64 (.type "float"),dE P [102,114,111,122,101,110,115,101,116] 65 (.type "frozenset"),dE P [112,114,111,112,101,114,116,121] 66 (.type "property"),dE P [105,110,116] 67 (.type "int"),dE P [108,105,115,116] 68 (.type "list"),dE P [109,97,112] 69 (.type "map"),dE P [111,98,106,101,99,116] 70 (.type "object"),dE P [114,97,110,103,101] 71 (.type "range"),dE P [114,101,118,101,114,115,101,100] 72 (.type "reversed"),dE P [115,101,116] 73 (.type "set"),dE P [115,108,105,99,101] 74 (.type "slice"),dE P [115,116,97,116,105,99,109,101,116,104,111,100] 75 (.type "staticmethod"),dE P [115,116,114] 76 (.type "str"),dE P [115,117,112,101,114] 77 (.type "super"),dE P [116,117,112,108,101] 78 (.type "tuple"),dE P [116,121,112,101] 79 (.type "type"),dE P [122,105,112] 80 (.type "zip"),dE P [95,95,100,101,98,117,103,95,95] 81 (.bool true),dE P [66,97,115,101,69,120,99,101,112,116,105,111,110] 82 (.type "BaseException"),dE P [66,97,115,101,69,120,99,101,112,116,105,111,110,71,114,111,117,112] 83 (.type "BaseExceptionGroup"),dE P [69,120,99,101,112,116,105,111,110] 84 (.type "Exception"),dE P [71,101,110,101,114,97,116,111,114,69,120,105,116] 85 (.type "GeneratorExit"),dE P [75,101,121,98,111,97,114,100,73,110,116,101,114,114,117,112,116] 86 (.type "KeyboardInterrupt"),dE P [83,121,115,116,101,109,69,120,105,116] 87 (.type "SystemExit"),dE P [65,114,105,116,104,109,101,116,105,99,69,114,114,111,114] 88 (.type "ArithmeticError"),dE P [65,115,115,101,114,116,105,111,110,69,114,114,111,114] 89 (.type "AssertionError"),dE P [65,116,116,114,105,98,117,116,101,69,114,114,111,114] 90 (.type "AttributeError"),dE P [66,117,102,102,101,114,69,114,114,111,114] 91 (.type "BufferError"),dE P [69,79,70,69,114,114,111,114] 92 (.type "EOFError"),dE P [73,109,112,111,114,116,69,114,114,111,114] 93 (.type "ImportError"),dE P [76,111,111,107,117,112,69,114,114,111,114] 94 (.type "LookupError"),dE P [77,101,109,111,114,121,69,114,114,111,114] 95 (.type "MemoryError"),dE P [78,97,109,101,69,114,114,111,114] 96 (.type "NameError"),dE P [79,83,69,114,114,111,114] 97 (.type "OSError"),dE P [82,101,102,101,114,101,110,99,101,69,114,114,111,114] 98 (.type "ReferenceError"),dE P [82,117,110,116,105,109,101,69,114,114,111,114] 99 (.type "RuntimeError"),dE P [83,116,111,112,65,115,121,110,99,73,116,101,114,97,116,105,111,110] 100 (.type "StopAsyncIteration"),dE P [83,116,111,112,73,116,101,114,97,116,105,111,110] 101 (.type "StopIteration"),dE P [83,121,110,116,97,120,69,114,114,111,114] 102 (.type "SyntaxError"),dE P [83,121,115,116,101,109,69,114,114,111,114] 103 (.type "SystemError"),dE P [84,121,112,101,69,114,114,111,114] 104 (.type "TypeError"),dE P [86,97,108,117,101,69,114,114,111,114] 105 (.type "ValueError"),dE P [87,97,114,110,105,110,103] 106 (.type "Warning"),dE P [70,108,111,97,116,105,110,103,80,111,105,110,116,69,114,114,111,114] 107 (.type "FloatingPointError"),dE P [79,118,101,114,102,108,111,119,69,114,114,111,114] 108 (.type "OverflowError"),dE P [90,101,114,111,68,105,118,105,115,105,111,110,69,114,114,111,114] 109 (.type "ZeroDivisionError"),dE P [66,121,116,101,115,87,97,114,110,105,110,103] 110 (.type "BytesWarning"),dE P [68,101,112,114,101,99,97,116,105,111,110,87,97,114,110,105,110,103] 111 (.type "DeprecationWarning"),dE P [69,110,99,111,100,105,110,103,87,97,114,110,105,110,103] 112 (.type "EncodingWarning"),dE P [70,117,116,117,114,101,87,97,114,110,105,110,103] 113 (.type "FutureWarning"),dE P [73,109,112,111,114,116,87,97,114,110,105,110,103] 114 (.type "ImportWarning"),dE P [80,101,110,100,105,110,103,68,101,112,114,101,99,97,116,105,111,110,87,97,114,110,105,110,103] 115 (.type "PendingDeprecationWarning"),dE P [82,101,115,111,117,114,99,101,87,97,114,110,105,110,103] 116 (.type "ResourceWarning"),dE P [82,117,110,116,105,109,101,87,97,114,110,105,110,103] 117 (.type "RuntimeWarning"),dE P [83,121,110,116,97,120,87,97,114,110,105,110,103] 118 (.type "SyntaxWarning"),dE P [85,110,105,99,111,100,101,87,97,114,110,105,110,103] 119 (.type "UnicodeWarning"),dE P [85,115,101,114,87,97,114,110,105,110,103] 120 (.type "UserWarning"),dE P [66,108,111,99,107,105,110,103,73,79,69,114,114,111,114] 121 (.type "BlockingIOError"),dE P [67,104,105,108,100,80,114,111,99,101,115,115,69,114,114,111,114] 122 (.type "ChildProcessError"),dE P [67,111,110,110,101,99,116,105,111,110,69,114,114,111,114] 123 (.type "ConnectionError"),dE P [70,105,108,101,69,120,105,115,116,115,69,114,114,111,114] 124 (.type "FileExistsError"),dE P [70,105,108,101,78,111,116,70,111,117,110,100,69,114,114,111,114] 125 (.type "FileNotFoundError"),dE P [73,110,116,101,114,114,117,112,116,101,100,69,114,114,111,114] 126 (.type "InterruptedError"),dE P [73,115,65,68,105,114,101,99,116,111,114,121,69,114,114,111,114] 127 (.type "IsADirectoryError"),dE P [78,111,116,65,68,105,114,101,99,116,111,114,121,69,114,114,111,114] 128 (.type "NotADirectoryError"),dE P [80,101,114,109,105,115,115,105,111,110,69,114,114,111,114] 129 (.type "PermissionError"),dE P [80,114,111,99,101,115,115,76,111,111,107,117,112,69,114,114,111,114] 130 (.type "ProcessLookupError"),dE P [84,105,109,101,111,117,116,69,114,114,111,114] 131 (.type "TimeoutError"),dE P [73,110,100,101,110,116,97,116,105,111,110,69,114,114,111,114] 132 (.type "IndentationError"),dE P [95,73,110,99,111,109,112,108,101,116,101,73,110,112,117,116,69,114,114,111,114] 133 (.type "_IncompleteInputError"),dE P [73,110,100,101,120,69,114,114,111,114] 134 (.type "IndexError"),dE P [75,101,121,69,114,114,111,114] 135 (.type "KeyError"),dE P [77,111,100,117,108,101,78,111,116,70,111,117,110,100,69,114,114,111,114] 136 (.type "ModuleNotFoundError"),dE P [78,111,116,73,109,112,108,101,109,101,110,116,101,100,69,114,114,111,114] 137 (.type "NotImplementedError"),dE P [80,121,116,104,111,110,70,105,110,97,108,105,122,97,116,105,111,110,69,114,114,111,114] 138 (.type "PythonFinalizationError"),dE P [82,101,99,117,114,115,105,111,110,69,114,114,111,114] 139 (.type "RecursionError"),dE P [85,110,98,111,117,110,100,76,111,99,97,108,69,114,114,111,114] 140 (.type "UnboundLocalError"),dE P [85,110,105,99,111,100,101,69,114,114,111,114] 141 (.type "UnicodeError"),dE P [66,114,111,107,101,110,80,105,112,101,69,114,114,111,114] 142 (.type "BrokenPipeError"),dE P [67,111,110,110,101,99,116,105,111,110,65,98,111,114,116,101,100,69,114,114,111,114] 143 (.type "ConnectionAbortedError"),dE P [67,111,110,110,101,99,116,105,111,110,82,101,102,117,115,101,100,69,114,114,111,114] 144 (.type "ConnectionRefusedError"),dE P [67,111,110,110,101,99,116,105,111,110,82,101,115,101,116,69,114,114,111,114] 145 (.type "ConnectionResetError"),dE P [84,97,98,69,114,114,111,114] 146 (.type "TabError"),dE P [85,110,105,99,111,100,101,68,101,99,111,100,101,69,114,114,111,114] 147 (.type "UnicodeDecodeError"),dE P [85,110,105,99,111,100,101,69,110,99,111,100,101,69,114,114,111,114] 148 (.type "UnicodeEncodeError"),dE P [85,110,105,99,111,100,101,84,114,97,110,115,108,97,116,101,69,114,114,111,114] 149 (.type "UnicodeTranslateError"),dE P [69,120,99,101,112,116,105,111,110,71,114,111,117,112] 150 (.type "ExceptionGroup"),dE P [69,110,118,105,114,111,110,109,101,110,116,69,114,114,111,114] 151 (.type "OSError"),dE P [73,79,69,114,114,111,114] 152 (.type "OSError")]++bEs P 153 [("open",[111,112,101,110])]++[dE P [113,117,105,116] 154 (.builtin "builtins.quit#opaque"),dE P [101,120,105,116] 155 (.builtin "builtins.exit#opaque"),dE P [99,111,112,121,114,105,103,104,116] 156 (.builtin "builtins.copyright#opaque"),dE P [99,114,101,100,105,116,115] 157 (.builtin "builtins.credits#opaque"),dE P [108,105,99,101,110,115,101] 158 (.builtin "builtins.license#opaque"),dE P [104,101,108,112] 159 (.builtin "builtins.help#opaque")]).toArray 159,#[]⟩
noncomputable def ob2(P:Params):Obj:=⟨.none,none,.dict ([dE P [105,109,112,111,114,116,46,108,111,97,100,101,100,46,95,115,114,101] 183 (.bool true),dE P [99,108,97,115,115,46,95,102,114,111,122,101,110,95,105,109,112,111,114,116,108,105,98,46,66,117,105,108,116,105,110,73,109,112,111,114,116,101,114] 185 (.ref 14),dE P [119,97,116,99,104,101,100,46,105,109,112,111,114,116] 206 (.ref 18),dE P [99,108,97,115,115,46,95,102,114,111,122,101,110,95,105,109,112,111,114,116,108,105,98,46,77,111,100,117,108,101,83,112,101,99] 216 (.ref 22),dE P [115,121,115,46,109,111,100,117,108,101,115,46,98,111,111,107,101,100,45,101,112,111,99,104] 245 (.int 3 0),dE P [105,109,112,111,114,116,46,108,97,116,101,114,45,108,97,105,100,46,95,115,114,101] 270 (.bool true),dE P [119,97,116,99,104,101,100,46,108,105,98,114,97,114,121] 272 (.ref 27),dE P [119,97,116,99,104,101,100,46,108,105,98,114,97,114,121,45,111,98,106,101,99,116,115] 0 (.str (S [12]) 0),dE P [119,97,116,99,104,101,100,46,108,105,98,114,97,114,121,45,100,101,101,112,46,95,115,114,101] 273 (.str (S [4,0,0,11,4,0,0,11,4,0,0,3,4,0,0,11,8,4,100,105,99,116,2]) 0)]).toArray 9,#[]⟩
noncomputable def ob3(P:Params):Obj:=⟨.type "dict",none,.dict ([dE P [95,95,110,97,109,101,95,95] 165 (.str (S [108,97,119,95,116,97,48,49,49,54,95,48,49]) 677),dE P [95,95,100,111,99,95,95] 166 (.none),dE P [95,95,112,97,99,107,97,103,101,95,95] 167 (.none),dE P [95,95,108,111,97,100,101,114,95,95] 168 (.builtin "__main__.__loader__#opaque"),dE P [95,95,115,112,101,99,95,95] 169 (.none),dE P [95,95,97,110,110,111,116,97,116,105,111,110,115,95,95] 170 (.ref 6),dE P [95,95,98,117,105,108,116,105,110,115,95,95] 171 (.ref 4),dE P [95,95,102,105,108,101,95,95] 173 (.str (S [47,99,108,97,105,109,47,99,117,116,46,112,121]) 172),dE P [95,95,99,97,99,104,101,100,95,95] 174 (.none),dE P [95,115,114,101] 275 (.ref 12),dE P [95,119,97,108,108] 288 (.ref 38),dE P [95,105,116,101,114,95,101,115,99,97,112,101,100,95,99,104,97,114,115] 300 (.ref 45),dE P [95,115,116,114,105,112,95,113,117,111,116,101,100,95,114,101,97,108,110,97,109,101,115] 312 (.ref 52),dE P [95,99,104,101,99,107,95,112,97,114,101,110,116,104,101,115,105,115] 322 (.ref 59),dE P [95,68,73,86,95,76,73,77,73,84] 326 (.int 4000 325),dE P [95,100,105,118,50,110,49,110] 343 (.ref 66),dE P [95,100,105,118,51,110,50,110] 357 (.ref 73),dE P [95,105,110,116,50,100,105,103,105,116,115] 368 (.ref 80),dE P [95,100,105,103,105,116,115,50,105,110,116] 379 (.ref 87),dE P [95,100,105,118,109,111,100,95,112,111,115] 394 (.ref 94),dE P [105,110,116,95,100,105,118,109,111,100] 404 (.ref 101),dE P [114,103,98,95,116,111,95,104,108,115] 425 (.ref 108),dE P [114,103,98,95,116,111,95,104,115,118] 443 (.ref 115),dE P [104,115,118,95,116,111,95,114,103,98] 457 (.ref 122),dE P [95,110,97,109,101,95,100,105,115,97,108,108,111,119,101,100,95,114,101] 485 (.ref 127),dE P [95,118,97,108,117,101,95,100,105,115,97,108,108,111,119,101,100,95,114,101] 519 (.ref 132),dE P [72,101,97,100,101,114,115] 676 (.ref 255),dE P [95,108,97,119,95,112,105,101,99,101,115] 684 (.ref 264),dE P [95,108,97,119,95,109,97,116,101] 690 (.ref 269),dE P [95,108,97,119,95,104,111,111,107,101,100] 705 (.ref 276),dE P [95,108,97,119,95,104,117,101] 718 (.ref 283),dE P [108,97,119] 724 (.ref 288)]).toArray 32,#[]⟩
noncomputable def ob4(_:Params):Obj:=⟨.type "module",some 0,.plain,#[]⟩
noncomputable def ob44(_:Params):Obj:=cO [95,105,116,101,114,95,101,115,99,97,112,101,100,95,99,104,97,114,115] [95,105,116,101,114,95,101,115,99,97,112,101,100,95,99,104,97,114,115] 291 6 1 0 35 39 true 298
noncomputable def ob45(_:Params):Obj:=fO [95,105,116,101,114,95,101,115,99,97,112,101,100,95,99,104,97,114,115] (sA 3) (.none) (.str (S [99,112,121,51,49,51,46,101,109,97,105,108,46,117,116,105,108,115]) 289) 44
noncomputable def ob51(_:Params):Obj:=cO [95,115,116,114,105,112,95,113,117,111,116,101,100,95,114,101,97,108,110,97,109,101,115] [95,115,116,114,105,112,95,113,117,111,116,101,100,95,114,101,97,108,110,97,109,101,115] 301 19 1 0 3 46 true 310
noncomputable def ob52(_:Params):Obj:=fO [95,115,116,114,105,112,95,113,117,111,116,101,100,95,114,101,97,108,110,97,109,101,115] (sA 4) (.none) (.str (S [99,112,121,51,49,51,46,101,109,97,105,108,46,117,116,105,108,115]) 289) 51
noncomputable def ob58(_:Params):Obj:=cO [95,99,104,101,99,107,95,112,97,114,101,110,116,104,101,115,105,115] [95,99,104,101,99,107,95,112,97,114,101,110,116,104,101,115,105,115] 313 37 1 0 3 53 true 320
noncomputable def ob59(_:Params):Obj:=fO [95,99,104,101,99,107,95,112,97,114,101,110,116,104,101,115,105,115] (sA 5) (.none) (.str (S [99,112,121,51,49,51,46,101,109,97,105,108,46,117,116,105,108,115]) 289) 58
noncomputable def ob65(_:Params):Obj:=cO [95,100,105,118,50,110,49,110] [95,100,105,118,50,110,49,110] 327 50 3 0 3 60 true 341
noncomputable def ob66(_:Params):Obj:=fO [95,100,105,118,50,110,49,110] (sA 8) (.none) (.str (S [99,112,121,51,49,51,46,95,112,121,108,111,110,103]) 323) 65
noncomputable def ob75(_:Params):Obj:=⟨.none,none,.fields #[],#[]⟩
noncomputable def ob79(_:Params):Obj:=cO [95,105,110,116,50,100,105,103,105,116,115] [95,105,110,116,50,100,105,103,105,116,115] 358 76 2 0 3 74 true 366
noncomputable def ob80(_:Params):Obj:=fO [95,105,110,116,50,100,105,103,105,116,115] (sA 10) (.none) (.str (S [99,112,121,51,49,51,46,95,112,121,108,111,110,103]) 323) 79
noncomputable def ob82(_:Params):Obj:=⟨.none,none,.fields #[],#[]⟩
noncomputable def ob86(_:Params):Obj:=cO [95,100,105,103,105,116,115,50,105,110,116] [95,100,105,103,105,116,115,50,105,110,116] 369 92 2 0 3 81 true 377
noncomputable def ob87(_:Params):Obj:=fO [95,100,105,103,105,116,115,50,105,110,116] (sA 11) (.none) (.str (S [99,112,121,51,49,51,46,95,112,121,108,111,110,103]) 323) 86
noncomputable def ob93(_:Params):Obj:=cO [95,100,105,118,109,111,100,95,112,111,115] [95,100,105,118,109,111,100,95,112,111,115] 380 101 2 0 3 88 true 392
noncomputable def ob94(_:Params):Obj:=fO [95,100,105,118,109,111,100,95,112,111,115] (sA 12) (.none) (.str (S [99,112,121,51,49,51,46,95,112,121,108,111,110,103]) 323) 93
noncomputable def ob100(_:Params):Obj:=cO [105,110,116,95,100,105,118,109,111,100] [105,110,116,95,100,105,118,109,111,100] 395 112 2 0 3 95 true 402
noncomputable def ob101(_:Params):Obj:=fO [105,110,116,95,100,105,118,109,111,100] (sA 13) (.none) (.str (S [99,112,121,51,49,51,46,95,112,121,108,111,110,103]) 323) 100
noncomputable def ob107(_:Params):Obj:=cO [114,103,98,95,116,111,95,104,108,115] [114,103,98,95,116,111,95,104,108,115] 407 124 3 0 3 102 true 423
noncomputable def ob108(_:Params):Obj:=fO [114,103,98,95,116,111,95,104,108,115] (sA 15) (.none) (.str (S [99,112,121,51,49,51,46,99,111,108,111,114,115,121,115]) 405) 107
noncomputable def ob114(_:Params):Obj:=cO [114,103,98,95,116,111,95,104,115,118] [114,103,98,95,116,111,95,104,115,118] 426 147 3 0 3 109 true 441
noncomputable def ob115(_:Params):Obj:=fO [114,103,98,95,116,111,95,104,115,118] (sA 16) (.none) (.str (S [99,112,121,51,49,51,46,99,111,108,111,114,115,121,115]) 405) 114
noncomputable def ob121(_:Params):Obj:=cO [104,115,118,95,116,111,95,114,103,98] [104,115,118,95,116,111,95,114,103,98] 444 166 3 0 3 116 true 455
noncomputable def ob122(_:Params):Obj:=fO [104,115,118,95,116,111,95,114,103,98] (sA 17) (.none) (.str (S [99,112,121,51,49,51,46,99,111,108,111,114,115,121,115]) 405) 121
noncomputable def ob126(_:Params):Obj:=⟨.type "tuple",none,.seq #[.int 14 0,.int 10 0,.int 4 0,.int 1 0,.int 1 0,.int 22 0,.int 0 0,.int 31 0,.int 16 0,.int 127 0,.int 0 0,.int 13 0,.int 7 0,.int 22 0,.int 0 0,.int 31 0,.int 16 0,.int 127 0,.int 0 0,.int 1 0],#[]⟩
noncomputable def ob127(_:Params):Obj:=⟨.type "re.Pattern",none,.fields #[.str (S [91,92,120,48,48,45,92,120,49,70,92,120,55,70,93]) 461,.int 32 484,.int 0 0,.none,.none,.ref 126,.int 0 0],#[]⟩
noncomputable def ob131(_:Params):Obj:=⟨.type "tuple",none,.seq #[.int 14 0,.int 14 0,.int 4 0,.int 1 0,.int 1 0,.int 9 0,.int 4294966783 0,.int 0 0,.int 0 0,.int 2147483648 0,.int 0 0,.int 0 0,.int 0 0,.int 0 0,.int 0 0,.int 13 0,.int 11 0,.int 9 0,.int 4294966783 0,.int 0 0,.int 0 0,.int 2147483648 0,.int 0 0,.int 0 0,.int 0 0,.int 0 0,.int 0 0,.int 1 0],#[]⟩
noncomputable def ob132(_:Params):Obj:=⟨.type "re.Pattern",none,.fields #[.str (S [91,92,120,48,48,45,92,120,48,56,92,120,48,65,45,92,120,49,70,92,120,55,70,93]) 487,.int 32 518,.int 0 0,.none,.none,.ref 131,.int 0 0],#[]⟩
noncomputable def ob140(_:Params):Obj:=⟨.type "tuple",none,.seq #[.none],#[]⟩
noncomputable def ob146(_:Params):Obj:=cO [95,95,105,110,105,116,95,95] [72,101,97,100,101,114,115,46,95,95,105,110,105,116,95,95] 532 192 2 0 3 141 true 539
noncomputable def ob147(_:Params):Obj:=fO [72,101,97,100,101,114,115,46,95,95,105,110,105,116,95,95] (sC 0) (.ref 140) (.str (S [99,112,121,51,49,51,46,119,115,103,105,114,101,102,46,104,101,97,100,101,114,115]) 458) 146
noncomputable def ob153(_:Params):Obj:=cO [95,99,111,110,118,101,114,116,95,115,116,114,105,110,103,95,116,121,112,101] [72,101,97,100,101,114,115,46,95,99,111,110,118,101,114,116,95,115,116,114,105,110,103,95,116,121,112,101] 542 202 2 1 3 148 true 549
noncomputable def ob154(_:Params):Obj:=fO [72,101,97,100,101,114,115,46,95,99,111,110,118,101,114,116,95,115,116,114,105,110,103,95,116,121,112,101] (sC 1) (.none) (.str (S [99,112,121,51,49,51,46,119,115,103,105,114,101,102,46,104,101,97,100,101,114,115]) 458) 153
noncomputable def ob167(_:Params):Obj:=cO [95,95,115,101,116,105,116,101,109,95,95] [72,101,97,100,101,114,115,46,95,95,115,101,116,105,116,101,109,95,95] 559 213 3 0 3 162 true 565
noncomputable def ob168(_:Params):Obj:=fO [72,101,97,100,101,114,115,46,95,95,115,101,116,105,116,101,109,95,95] (sC 3) (.none) (.str (S [99,112,121,51,49,51,46,119,115,103,105,114,101,102,46,104,101,97,100,101,114,115]) 458) 167
noncomputable def ob172(_:Params):Obj:=cO [95,95,100,101,108,105,116,101,109,95,95] [72,101,97,100,101,114,115,46,95,95,100,101,108,105,116,101,109,95,95] 568 217 2 0 3 169 false 571
noncomputable def ob173(_:Params):Obj:=fO [72,101,97,100,101,114,115,46,95,95,100,101,108,105,116,101,109,95,95] (sC 4) (.none) (.str (S [99,112,121,51,49,51,46,119,115,103,105,114,101,102,46,104,101,97,100,101,114,115]) 458) 172
noncomputable def ob195(_:Params):Obj:=⟨.type "tuple",none,.seq #[.none],#[]⟩
noncomputable def ob201(_:Params):Obj:=cO [103,101,116] [72,101,97,100,101,114,115,46,103,101,116] 598 230 3 0 3 196 true 606
noncomputable def ob202(_:Params):Obj:=fO [72,101,97,100,101,114,115,46,103,101,116] (sC 8) (.ref 195) (.str (S [99,112,121,51,49,51,46,119,115,103,105,114,101,102,46,104,101,97,100,101,114,115]) 458) 201
noncomputable def ob244(_:Params):Obj:=cO [115,101,116,100,101,102,97,117,108,116] [72,101,97,100,101,114,115,46,115,101,116,100,101,102,97,117,108,116] 648 255 3 0 3 239 true 655
noncomputable def ob245(_:Params):Obj:=fO [72,101,97,100,101,114,115,46,115,101,116,100,101,102,97,117,108,116] (sC 15) (.none) (.str (S [99,112,121,51,49,51,46,119,115,103,105,114,101,102,46,104,101,97,100,101,114,115]) 458) 244
noncomputable def ob254(P:Params):Obj:=⟨.type "dict",none,.dict ([dE P [95,95,109,111,100,117,108,101,95,95] 527 (.str (S [99,112,121,51,49,51,46,119,115,103,105,114,101,102,46,104,101,97,100,101,114,115]) 458),dE P [95,95,102,105,114,115,116,108,105,110,101,110,111,95,95] 531 (.int 190 530),dE P [95,95,105,110,105,116,95,95] 541 (.ref 147),dE P [95,99,111,110,118,101,114,116,95,115,116,114,105,110,103,95,116,121,112,101] 551 (.ref 154),dE P [95,95,108,101,110,95,95] 558 (.ref 161),dE P [95,95,115,101,116,105,116,101,109,95,95] 567 (.ref 168),dE P [95,95,100,101,108,105,116,101,109,95,95] 573 (.ref 173),dE P [95,95,103,101,116,105,116,101,109,95,95] 581 (.ref 180),dE P [95,95,99,111,110,116,97,105,110,115,95,95] 589 (.ref 187),dE P [103,101,116,95,97,108,108] 597 (.ref 194),dE P [103,101,116] 608 (.ref 202),dE P [107,101,121,115] 614 (.ref 207),dE P [118,97,108,117,101,115] 620 (.ref 212),dE P [105,116,101,109,115] 627 (.ref 219),dE P [95,95,114,101,112,114,95,95] 634 (.ref 226),dE P [95,95,115,116,114,95,95] 640 (.ref 231),dE P [95,95,98,121,116,101,115,95,95] 647 (.ref 238),dE P [115,101,116,100,101,102,97,117,108,116] 657 (.ref 245),dE P [97,100,100,95,104,101,97,100,101,114] 667 (.ref 252),dE P [95,95,115,116,97,116,105,99,95,97,116,116,114,105,98,117,116,101,115,95,95] 669 (.ref 253),dE P [95,95,100,105,99,116,95,95] 671 (.ref 256),dE P [95,95,119,101,97,107,114,101,102,95,95] 673 (.ref 257),dE P [95,95,100,111,99,95,95] 674 (.none)]).toArray 4,#[]⟩
noncomputable def ob255(_:Params):Obj:=⟨.type "type",none,.cls {name:="Headers",bases:=[.type "object"],mro:=[.ref 255,.type "object"],ns:=254,qualname:="Headers"},#[none,none,some (.str (S [72,101,97,100,101,114,115]) 520),some (.str (S [72,101,97,100,101,114,115]) 528),some (.builtin "object.__new__"),some (.bool true)]⟩
noncomputable def ob263(_:Params):Obj:=cO [95,108,97,119,95,112,105,101,99,101,115] [95,108,97,119,95,112,105,101,99,101,115] 679 266 2 0 3 260 false 682
noncomputable def ob264(_:Params):Obj:=fO [95,108,97,119,95,112,105,101,99,101,115] (sA 23) (.none) (.str (S [108,97,119,95,116,97,48,49,49,54,95,48,49]) 677) 263
noncomputable def ob268(_:Params):Obj:=cO [95,108,97,119,95,109,97,116,101] [95,108,97,119,95,109,97,116,101] 685 269 2 0 3 265 false 688
noncomputable def ob269(_:Params):Obj:=fO [95,108,97,119,95,109,97,116,101] (sA 24) (.none) (.str (S [108,97,119,95,116,97,48,49,49,54,95,48,49]) 677) 268
noncomputable def ob275(_:Params):Obj:=cO [95,108,97,119,95,104,111,111,107,101,100] [95,108,97,119,95,104,111,111,107,101,100] 691 275 3 0 3 270 true 703
noncomputable def ob276(_:Params):Obj:=fO [95,108,97,119,95,104,111,111,107,101,100] (sA 25) (.none) (.str (S [108,97,119,95,116,97,48,49,49,54,95,48,49]) 677) 275
noncomputable def ob282(_:Params):Obj:=cO [95,108,97,119,95,104,117,101] [95,108,97,119,95,104,117,101] 706 285 3 0 3 277 true 716
noncomputable def ob283(_:Params):Obj:=fO [95,108,97,119,95,104,117,101] (sA 26) (.none) (.str (S [108,97,119,95,116,97,48,49,49,54,95,48,49]) 677) 282
noncomputable def ob287(_:Params):Obj:=cO [108,97,119] [108,97,119] 719 289 1 0 3 284 false 722
noncomputable def ob288(_:Params):Obj:=fO [108,97,119] (sA 27) (.none) (.str (S [108,97,119,95,116,97,48,49,49,54,95,48,49]) 677) 287
noncomputable def tr(P:Params):OT:=.node 127 (.node 80 (.node 52 (.node 4 (.node 2 (.leaf 0 (ob0 P)) (.node 3 (.leaf 2 (ob2 P)) (.leaf 3 (ob3 P)))) (.node 45 (.node 44 (.leaf 4 (ob4 P)) (.leaf 44 (ob44 P))) (.node 51 (.leaf 45 (ob45 P)) (.leaf 51 (ob51 P))))) (.node 65 (.node 58 (.leaf 52 (ob52 P)) (.node 59 (.leaf 58 (ob58 P)) (.leaf 59 (ob59 P)))) (.node 75 (.node 66 (.leaf 65 (ob65 P)) (.leaf 66 (ob66 P))) (.node 79 (.leaf 75 (ob75 P)) (.leaf 79 (ob79 P)))))) (.node 101 (.node 87 (.node 82 (.leaf 80 (ob80 P)) (.node 86 (.leaf 82 (ob82 P)) (.leaf 86 (ob86 P)))) (.node 94 (.node 93 (.leaf 87 (ob87 P)) (.leaf 93 (ob93 P))) (.node 100 (.leaf 94 (ob94 P)) (.leaf 100 (ob100 P))))) (.node 115 (.node 108 (.node 107 (.leaf 101 (ob101 P)) (.leaf 107 (ob107 P))) (.node 114 (.leaf 108 (ob108 P)) (.leaf 114 (ob114 P)))) (.node 122 (.node 121 (.leaf 115 (ob115 P)) (.leaf 121 (ob121 P))) (.node 126 (.leaf 122 (ob122 P)) (.leaf 126 (ob126 P))))))) (.node 202 (.node 154 (.node 140 (.node 131 (.leaf 127 (ob127 P)) (.node 132 (.leaf 131 (ob131 P)) (.leaf 132 (ob132 P)))) (.node 147 (.node 146 (.leaf 140 (ob140 P)) (.leaf 146 (ob146 P))) (.node 153 (.leaf 147 (ob147 P)) (.leaf 153 (ob153 P))))) (.node 172 (.node 167 (.leaf 154 (ob154 P)) (.node 168 (.leaf 167 (ob167 P)) (.leaf 168 (ob168 P)))) (.node 195 (.node 173 (.leaf 172 (ob172 P)) (.leaf 173 (ob173 P))) (.node 201 (.leaf 195 (ob195 P)) (.leaf 201 (ob201 P)))))) (.node 268 (.node 254 (.node 244 (.leaf 202 (ob202 P)) (.node 245 (.leaf 244 (ob244 P)) (.leaf 245 (ob245 P)))) (.node 263 (.node 255 (.leaf 254 (ob254 P)) (.leaf 255 (ob255 P))) (.node 264 (.leaf 263 (ob263 P)) (.leaf 264 (ob264 P))))) (.node 282 (.node 275 (.node 269 (.leaf 268 (ob268 P)) (.leaf 269 (ob269 P))) (.node 276 (.leaf 275 (ob275 P)) (.leaf 276 (ob276 P)))) (.node 287 (.node 283 (.leaf 282 (ob282 P)) (.leaf 283 (ob283 P))) (.node 288 (.leaf 287 (ob287 P)) (.leaf 288 (ob288 P)))))))
noncomputable def asK:List Addr:=[0,2,3,4,44,45,51,52,58,59,65,66,75,79,80,82,86,87,93,94,100,101,107,108,114,115,121,122,126,127,131,132,140,146,147,153,154,167,168,172,173,195,201,202,244,245,254,255,263,264,268,269,275,276,282,283,287,288]
noncomputable def Kf(P:Params):Frag:=(tr P).list
theorem keysK:∀P,asK=(Kf P).map (·.1):=fun P=>by rfl'
noncomputable def KH(h:Heap)(P:Params):Prop:=∀a o,(tr P).get a=some o→h.get? a=some o
noncomputable def qv:Program:={PySem.Challenge.pw_ta0116_01 with main:={PySem.Challenge.pw_ta0116_01.main with body:=[sA 0,sA 27]}}
noncomputable def lz:List Str:=(["_wall","_div2n1n","_div3n2n","_int2digits","_digits2int","_divmod_pos","int_divmod","rgb_to_hls","rgb_to_hsv","hsv_to_rgb","_iter_escaped_chars","_strip_quoted_realnames","_check_parenthesis","_name_disallowed_re","_value_disallowed_re","Headers","_law_pieces","_law_mate","_law_hooked","_law_hue","_DIV_LIMIT"]:List String).map Str.ofString
noncomputable def dk:DefRec×List (Str×Expr):=match defOf qv PySem.Challenge.rw_ta0116_01.row.name with|some x=>x|none=>(⟨⟨#[]⟩,default,[],default,default⟩,[])
theorem ok1:PySem.Challenge.rw_ta0116_01.wellSaid=true:=by
 rfl'
theorem hl:LeftO PySem.Challenge.rw_ta0116_01.row.prog qv lz (fun s=>xlAt qv [] s&&recOk (RowW.records PySem.Challenge.rw_ta0116_01.row.toRowW) s) (obsZ asK) (valZ Kf 289 725) 3190:=by
 intro w
 rfl'
noncomputable def Good(h₁:Heap)(os:OsState)(v:Value)(s':Shared):Prop:=v=.bool true∧OldK h₁ s'.heap∧s'.os=os∧AllBare s'.gens
theorem top1(H:∀(w:World) (h₁:Heap) (d:Drawn) (t:Nat) (os:OsState) (ns:List Int) (vs:List Value),IntsAre vs ns→ns.length≤63→
 KH h₁ w.params→h₁.objs.size=290→h₁.get? 289=some {cls:=.type "list",data:=.seq vs.toArray}→725≤t→
 wpAny (model PySem.Challenge.pw_ta0116_01 w) callerA (call (.ref 288) [.ref 289]) (Good h₁ os) (fun _ _=>False) ⟨h₁,#[],d,t,os⟩):PySem.Challenge.rw_ta0116_01.Holds:=by
 refine holds_law ok1 fun said=>?_
 refine holds_openX (q:=qv) (loose:=lz) (Xt:=fun s=>xlAt qv [] s&&recOk (RowW.records PySem.Challenge.rw_ta0116_01.row.toRowW) s) (XP:=XL qv []) (Yf:=obsZ asK) (Ya:=valZ Kf 289 725) (d:=dk.1) (kwd:=dk.2) (N:=3190) hl (fun s e=>xl_of s (Bool.and_eq_true_iff.mp e).1) XL.keeps (by rfl') (by rfl') (by rfl') (fun s e=>recFacts_of (Bool.and_eq_true_iff.mp e).2) (by rfl') said (by decide+kernel) ⟨rfl,rfl,rfl,rfl,rfl,by decide+kernel⟩ ?hw ?hc
 case hw=>w_witness2
 case hc=>
  intro w s₀ s₁ mg mb G y fa o pm cd doc dV kV ho hd hcd hD hmg hg args vals as L hpre hlay hrd hwl hlo
  obtain⟨ZA,ZI,ZN,ZT⟩:=z_facts keysK y
  have keeps:=Laid.keeps L
  have KX:Frag.In (Kf w.params) s₁.heap:=InK.keeps w s₀.heap s₁.heap ZI keeps
  have ZH:KH s₁.heap w.params:=fun a o e=>keeps _ _ (OT.holds ZA e)
  clear ZA ZI keeps
  refine Ground.open G ?_
  intro T B D TE TW
  wrow_args hpre hlay hrd hwl hlo
  obtain⟨hat,hsz⟩:=script_at L
  have htk:=script_toks L ZT
  rw[ZN] at hat hsz
  subst hat
  x_fa T KX hmg
  all_lens
  z_lists L
  clear hmg hcd ho hD
  rename IntsAre _ _=>hint
  have e:s₁=⟨s₁.heap,#[],s₁.drawn,s₁.toks,s₁.os⟩:=by rw[←hg]
  have Z:=H w s₁.heap s₁.drawn s₁.toks s₁.os _ _ hint (by omega) ZH hsz (by assumption) htk
  rw[←e] at Z
  refine wpAny_mono Z (fun v s' g=>?_) (fun _ _ g=>g.elim)
  obtain⟨rfl,hK,hos,hbare⟩:=g
  exact⟨.inl ⟨_,_,[],rfl,fun _=>rfl,ReadsW.bool true,by rfl',fun _=>⟨List.nodup_nil,fun _ hm=>(nomatch hm)⟩⟩,hK,hos,hbare⟩
noncomputable def stat2(w:World)(vs:List Value)(a:Addr):Option Obj:=match Nat.beq a 75 with
 |true=>none
 |false=>match Nat.beq a 82 with
  |true=>none
  |false=>match Nat.beq a 289 with
   |true=>some {cls:=.type "list",data:=.seq vs.toArray}
   |false=>(tr w.params).get a
theorem stat2_ok{w:World}{vs:List Value}{h:Heap}(H:KH h w.params)(hl:h.get? 289=some {cls:=.type "list",data:=.seq vs.toArray}){a:Addr}{o:Obj}(e:stat2 w vs a=some o):h.get? a=some o:=by
 unfold stat2 at e
 split at e
 ·cases e
 ·split at e
  ·cases e
  ·split at e
   ·rename_i q
    cases e
    rw[Nat.eq_of_beq_eq_true q];exact hl
   ·exact H _ _ e
noncomputable def Tab(ps:Array Value):Obj:=⟨.none,none,.fields ps,#[]⟩
noncomputable def codeO(qual:List Nat)(v:Nat→Value)(tk:Nat):Obj:=⟨.type "code",none,.fields #[v 0,.str (S qual) tk,v 2,v 3,v 4,v 5,v 6,v 7,v 8,v 9,v 10,v 11,v 12,v 13,v 14,v 15,v 16,v 17,v 18],#[]⟩
noncomputable def qual54:List Nat:=[95,105,110,116,50,100,105,103,105,116,115,46,60,108,111,99,97,108,115,62,46,105,110,110,101,114]
noncomputable def qual61:List Nat:=[95,100,105,103,105,116,115,50,105,110,116,46,60,108,111,99,97,108,115,62,46,105,110,110,101,114]
noncomputable def TabOk(h:Heap)(P:Addr)(l c:Int)(q:List Nat):Prop:=∃ps,h.get? P=some (Tab ps)∧(ps= #[]∨∃a v tk,ps= #[.int l 0,.int c 0,.ref a]∧290≤a∧h.get? a=some (codeO q v tk))
theorem TabOk.keeps{h h':Heap}{P:Addr}{l c:Int}{q:List Nat}(t:TabOk h P l c q)(k:∀b o,b=P∨290≤b∧plainO o=false→h.get? b=some o→h'.get? b=some o):TabOk h' P l c q:=
 let⟨ps,e,r⟩:=t
 ⟨ps,k _ _ (.inl rfl) e,match r with
  | .inl r=>.inl r
  | .inr ⟨a,v,tk,e1,e2,e3⟩=>.inr ⟨a,v,tk,e1,e2,k _ _ (.inr ⟨e2,rfl⟩) e3⟩⟩
structure Inv2 (h₁:Heap) (w:World) (vs:List Value) (h:Heap):Prop where
 old:OldK h₁ h
 st:∀a o,stat2 w vs a=some o→h.get? a=some o
 lim:h.NoLimit
 t54:TabOk h 75 79 4 qual54
 t61:TabOk h 82 94 4 qual61
noncomputable def B2(w:World)(vs:List Value)(h₁:Heap)(hs:h₁.objs.size=290)(H:KH h₁ w.params)(hl:h₁.get? 289=some {cls:=.type "list",data:=.seq vs.toArray}):Base where
 prog:=PySem.Challenge.pw_ta0116_01
 w:=w
 stat:=stat2 w vs
 ro:=[]
 top:=290
 I:=Inv2 h₁ w vs
 push:=fun h o i=>⟨i.old.step_keeps fun _ _ e=>Heap.get?_push_of_some _ e,fun a o e=>Heap.get?_push_of_some _ (i.st a o e),i.lim.push o,i.t54.keeps fun _ _ _ e=>Heap.get?_push_of_some _ e,i.t61.keeps fun _ _ _ e=>Heap.get?_push_of_some _ e⟩
 upd:=fun h a f o ha ho hp i=>by
  have sb:Heap.SameBut a h (h.update a f):=Heap.SameBut.update ..
  refine⟨i.old.step_same (hs▸ha) sb,fun b o e=>(sb.2 b fun z=>?_).trans (i.st b o e),i.lim.sameBut sb (fun z=>absurd (z▸ha) (by decide)),
   i.t54.keeps fun b o' q e=>(sb.2 _ fun z=>?_).trans e,i.t61.keeps fun b o' q e=>(sb.2 _ fun z=>?_).trans e⟩
  ·have:=Heap.lt_size (stat2_ok H hl e)
   rw[hs,z] at this
   exact absurd this (Nat.not_lt.mpr ha)
  ·rcases q with q|q
   ·exact absurd (z.symm.trans q▸ha) (by decide)
   ·rw[z,ho] at e;cases e;exact absurd (hp.symm.trans q.2) (by decide)
  ·rcases q with q|q
   ·exact absurd (z.symm.trans q▸ha) (by decide)
   ·rw[z,ho] at e;cases e;exact absurd (hp.symm.trans q.2) (by decide)
 hold:=fun h i=>i.st
 hro:=fun _ _ _ hp=>(nomatch hp)
 lim:=fun h i=>i.lim
structure W2 where
 w:World
 vs:List Value
 h₁:Heap
 hs:h₁.objs.size=290
 H:KH h₁ w.params
 hl:h₁.get? 289=some {cls:=.type "list",data:=.seq vs.toArray}
noncomputable def W2.B(x:W2):Base:=B2 x.w x.vs x.h₁ x.hs x.H x.hl
end Mine
namespace Mine
open PySem
inductive IsNum:Value→Prop
 |int (i t):IsNum (.int i t)
 |float (x t):IsNum (.float x t)
end Mine
namespace Mine
open PySem PySem.W PySem.W.X PyProof.Rows PySem.Spec PySem.Calls
noncomputable def mkFd(fd:FuncData)(s:Stmt)(md:Value)(closure:List (Str×Addr))(code tup:Value):FuncData:=match s with
 | .FunctionDef name args body _ _ _ scope _ _ _=>{name:=name,qualname:=fd.qualname++dotLocals++name,params:=args,body:=.stmts body,scope:=scope,globals:=fd.globals,closure:=closure,defaults:=.none,kwdefaults:=.none,doc:=.none,pyModule:=md,annotations:=none,code:=code,closureTuple:=tup,builtins:=fd.builtins}
 |_=>default
noncomputable def envC(e:Env)(cells:List (Str×Addr)):Env:={e with cells:=cells}
noncomputable def stmtAt(B:Base)(f:Addr)(k:Nat):Stmt:=((bodyOf (fdOf B f)).drop k).headD default
noncomputable def fieldsIn(o:Obj):Array Value:=match o.data with
 | .fields vs=>vs
 |_=>#[]
theorem tab₁_2{w:World}{h₁:Heap}(H:KH h₁ w.params):h₁.TableAt 79 75 #[]∧h₁.TableAt 86 82 #[]:=by
 have g:∀a o,(tr w.params).get a=some o→h₁.get? a=some o:=fun a o e=>by
  exact H _ _ e
 refine⟨⟨⟨((tr w.params).get 79).getD default,fieldsIn (((tr w.params).get 79).getD default),g _ _ (by rfl'),by rfl',by rfl',by rfl'⟩,g _ _ (by rfl')⟩,
  ⟨⟨((tr w.params).get 86).getD default,fieldsIn (((tr w.params).get 86).getD default),g _ _ (by rfl'),by rfl',by rfl',by rfl'⟩,g _ _ (by rfl')⟩⟩
theorem stat2_ne{w:World}{vs:List Value}{a:Addr}{o:Obj}(e:stat2 w vs a=some o):a≠75∧a≠82:=by
 constructor
 ·intro q;subst q;unfold stat2 at e;cases e
 ·intro q;subst q;unfold stat2 at e;cases e
theorem Inv2.grow54{h₁:Heap}{w:World}{vs:List Value}{h:Heap}(H:KH h₁ w.params)(i:Inv2 h₁ w vs h)(e:h.get? 75=some (Tab #[])){f:Obj→Obj}{a:Addr}{v:Nat→Value}{tk:Nat}(hf:f (Tab #[])=Tab #[.int 79 0,.int 4 0,.ref a])(ha:290≤a)(hc:h.get? a=some (codeO qual54 v tk)):Inv2 h₁ w vs (h.update 75 f):=by
 have sb:Heap.SameBut 75 h (h.update 75 f):=Heap.SameBut.update ..
 have e':(h.update 75 f).get? 75=some (Tab #[.int 79 0,.int 4 0,.ref a]):=by rw[Heap.get?_update_self f e (by rw[hf];rfl),hf]
 have T:=(tab₁_2 H).1
 obtain⟨⟨o,us,ho,h1,h2,h3⟩,h4⟩:=T
 have c:=i.old.get_of_cls ho (by rw[h1];exact fun z=>nomatch z)
 have nb:∀(b:Addr) o,b=82∨290≤b∧plainO o=false→b≠75:=fun b o q z=>by
  subst z
  rcases q with q|q
  ·exact absurd q (by decide)
  ·exact absurd q.1 (by decide)
 have hc':(h.update 75 f).get? a=some (codeO qual54 v tk):=(sb.2 _ fun z=>by rw[z] at ha;exact absurd ha (by decide)).trans hc
 refine⟨i.old.step_table (ps:=#[]) (more:=#[.int 79 0,.int 4 0,.ref a]) ⟨⟨o,us,ho,h1,h2,h3⟩,h4⟩ ⟨⟨o,us,c,h1,h2,h3⟩,e⟩ ⟨⟨o,us,(sb.2 _ (by decide)).trans c,h1,h2,h3⟩,e'⟩ (fun b o hb e=>(sb.2 b hb).trans e) (by decide),
  fun b o q=>(sb.2 b (stat2_ne q).1).trans (i.st b o q),i.lim.sameBut sb (by decide),⟨_,e',.inr ⟨a,v,tk,rfl,ha,hc'⟩⟩,i.t61.keeps fun b o r q=>(sb.2 _ (nb b o r)).trans q⟩
theorem Inv2.grow61{h₁:Heap}{w:World}{vs:List Value}{h:Heap}(H:KH h₁ w.params)(i:Inv2 h₁ w vs h)(e:h.get? 82=some (Tab #[])){f:Obj→Obj}{a:Addr}{v:Nat→Value}{tk:Nat}(hf:f (Tab #[])=Tab #[.int 94 0,.int 4 0,.ref a])(ha:290≤a)(hc:h.get? a=some (codeO qual61 v tk)):Inv2 h₁ w vs (h.update 82 f):=by
 have sb:Heap.SameBut 82 h (h.update 82 f):=Heap.SameBut.update ..
 have e':(h.update 82 f).get? 82=some (Tab #[.int 94 0,.int 4 0,.ref a]):=by rw[Heap.get?_update_self f e (by rw[hf];rfl),hf]
 have T:=(tab₁_2 H).2
 obtain⟨⟨o,us,ho,h1,h2,h3⟩,h4⟩:=T
 have c:=i.old.get_of_cls ho (by rw[h1];exact fun z=>nomatch z)
 have nb:∀(b:Addr) o,b=75∨290≤b∧plainO o=false→b≠82:=fun b o q z=>by
  subst z
  rcases q with q|q
  ·exact absurd q (by decide)
  ·exact absurd q.1 (by decide)
 have hc':(h.update 82 f).get? a=some (codeO qual61 v tk):=(sb.2 _ fun z=>by rw[z] at ha;exact absurd ha (by decide)).trans hc
 refine⟨i.old.step_table (ps:=#[]) (more:=#[.int 94 0,.int 4 0,.ref a]) ⟨⟨o,us,ho,h1,h2,h3⟩,h4⟩ ⟨⟨o,us,c,h1,h2,h3⟩,e⟩ ⟨⟨o,us,(sb.2 _ (by decide)).trans c,h1,h2,h3⟩,e'⟩ (fun b o hb e=>(sb.2 b hb).trans e) (by decide),
  fun b o q=>(sb.2 b (stat2_ne q).2).trans (i.st b o q),i.lim.sameBut sb (by decide),i.t54.keeps fun b o r q=>(sb.2 _ (nb b o r)).trans q,⟨_,e',.inr ⟨a,v,tk,rfl,ha,hc'⟩⟩⟩
noncomputable def W2.E54(x:W2):Base:=x.B.ext [(75,Tab #[])] (by intro p hp;rcases List.mem_singleton.mp hp with rfl;exact .inl (show 75<290 by decide))
noncomputable def W2.F54(x:W2)(a:Addr)(v:Nat→Value)(tk:Nat):Base:=x.B.ext [(75,Tab #[.int 79 0,.int 4 0,.ref a]),(a,codeO qual54 v tk)] (by
 intro p hp
 rcases List.mem_cons.mp hp with rfl|hp
 ·exact .inl (show 75<290 by decide)
 ·rcases List.mem_singleton.mp hp with rfl;exact .inr rfl)
theorem W2.open54(x:W2){N m:Nat}{h:Heap}{tab:Cells}(R:Rep x.B N h tab m):Rep x.E54 N h tab m∨∃a v tk,Rep (x.F54 a v tk) N h tab m:=by
 obtain⟨ps,e,r⟩:=Inv2.t54 (show Inv2 x.h₁ x.w x.vs h from R.inv)
 rcases r with rfl|⟨a,v,tk,rfl,ha,hc⟩
 ·exact .inl (R.toExt _ fun p hp=>by rcases List.mem_singleton.mp hp with rfl;exact e)
 ·refine .inr ⟨a,v,tk,R.toExt _ fun p hp=>?_⟩
  rcases List.mem_cons.mp hp with rfl|hp
  ·exact e
  ·rcases List.mem_singleton.mp hp with rfl;exact hc
theorem W2.grow54(x:W2){N:Nat}{h:Heap}{tab:Cells}{a:Addr}{v:Nat→Value}{tk:Nat}(R:Rep x.E54 N h ((a,codeO qual54 v tk)::tab) 0){f:Obj→Obj}(hf:f (Tab #[])=Tab #[.int 79 0,.int 4 0,.ref a]):
 Rep (x.F54 a v tk) N (h.update 75 f) tab 0:=by
 have e:=R.inv.2 _ (List.mem_singleton.mpr rfl)
 have hc:=R.cells _ (.head _)
 have sb:Heap.SameBut 75 h (h.update 75 f):=Heap.SameBut.update ..
 have ha:(290:Nat)≤a:=hc.2
 refine⟨⟨Inv2.grow54 x.H R.inv.1 e hf ha hc.1,fun p hp=>?_⟩,by rw[sb.1];exact R.size,R.top,fun p hp=>⟨(sb.2 _ fun z=>?_).trans (R.cells p (.tail _ hp)).1,(R.cells p (.tail _ hp)).2⟩,(List.nodup_cons.mp R.nd).2⟩
 ·rcases List.mem_cons.mp hp with rfl|hp
  ·show(h.update 75 f).get? 75=_
   rw[Heap.get?_update_self f e (by rw[hf];rfl),hf]
  ·rcases List.mem_singleton.mp hp with rfl
   exact(sb.2 _ fun z=>by have z:a=75:=z;rw[z] at ha;exact absurd ha (by decide)).trans hc.1
 ·have:(290:Nat)≤p.1:=(R.cells p (.tail _ hp)).2
  rw[z] at this
  exact absurd this (by decide)
noncomputable def W2.E61(x:W2):Base:=x.B.ext [(82,Tab #[])] (by intro p hp;rcases List.mem_singleton.mp hp with rfl;exact .inl (show 82<290 by decide))
noncomputable def W2.F61(x:W2)(a:Addr)(v:Nat→Value)(tk:Nat):Base:=x.B.ext [(82,Tab #[.int 94 0,.int 4 0,.ref a]),(a,codeO qual61 v tk)] (by
 intro p hp
 rcases List.mem_cons.mp hp with rfl|hp
 ·exact .inl (show 82<290 by decide)
 ·rcases List.mem_singleton.mp hp with rfl;exact .inr rfl)
theorem W2.open61(x:W2){N m:Nat}{h:Heap}{tab:Cells}(R:Rep x.B N h tab m):Rep x.E61 N h tab m∨∃a v tk,Rep (x.F61 a v tk) N h tab m:=by
 obtain⟨ps,e,r⟩:=Inv2.t61 (show Inv2 x.h₁ x.w x.vs h from R.inv)
 rcases r with rfl|⟨a,v,tk,rfl,ha,hc⟩
 ·exact .inl (R.toExt _ fun p hp=>by rcases List.mem_singleton.mp hp with rfl;exact e)
 ·refine .inr ⟨a,v,tk,R.toExt _ fun p hp=>?_⟩
  rcases List.mem_cons.mp hp with rfl|hp
  ·exact e
  ·rcases List.mem_singleton.mp hp with rfl;exact hc
theorem W2.grow61(x:W2){N:Nat}{h:Heap}{tab:Cells}{a:Addr}{v:Nat→Value}{tk:Nat}(R:Rep x.E61 N h ((a,codeO qual61 v tk)::tab) 0){f:Obj→Obj}(hf:f (Tab #[])=Tab #[.int 94 0,.int 4 0,.ref a]):
 Rep (x.F61 a v tk) N (h.update 82 f) tab 0:=by
 have e:=R.inv.2 _ (List.mem_singleton.mpr rfl)
 have hc:=R.cells _ (.head _)
 have sb:Heap.SameBut 82 h (h.update 82 f):=Heap.SameBut.update ..
 have ha:(290:Nat)≤a:=hc.2
 refine⟨⟨Inv2.grow61 x.H R.inv.1 e hf ha hc.1,fun p hp=>?_⟩,by rw[sb.1];exact R.size,R.top,fun p hp=>⟨(sb.2 _ fun z=>?_).trans (R.cells p (.tail _ hp)).1,(R.cells p (.tail _ hp)).2⟩,(List.nodup_cons.mp R.nd).2⟩
 ·rcases List.mem_cons.mp hp with rfl|hp
  ·show(h.update 82 f).get? 82=_
   rw[Heap.get?_update_self f e (by rw[hf];rfl),hf]
  ·rcases List.mem_singleton.mp hp with rfl
   exact(sb.2 _ fun z=>by have z:a=82:=z;rw[z] at ha;exact absurd ha (by decide)).trans hc.1
 ·have:(290:Nat)≤p.1:=(R.cells p (.tail _ hp)).2
  rw[z] at this
  exact absurd this (by decide)
theorem Rep.code{B:Base}{N m:Nat}{h:Heap}{tab:Cells}{a:Addr}{q:List Nat}{tk:Nat}{f0 f2 f3 f4 f5 f6 f7 f8 f9 f10 f11 f12 f13 f14 f15 f16 f17 f18:Value}
 (R:Rep B N h ((a,⟨.type "code",none,.fields #[f0,.str (S q) tk,f2,f3,f4,f5,f6,f7,f8,f9,f10,f11,f12,f13,f14,f15,f16,f17,f18],#[]⟩)::tab) m):∃v,Rep B N h ((a,codeO q v tk)::tab) m:=
 ⟨fun i=>(#[f0,f0,f2,f3,f4,f5,f6,f7,f8,f9,f10,f11,f12,f13,f14,f15,f16,f17,f18].getD i .none),R⟩
theorem W2.upd54(x:W2){N:Nat}{h:Heap}{tab:Cells}{a:Addr}{v:Nat→Value}{tk:Nat}(R:Rep x.E54 N h ((a,codeO qual54 v tk)::tab) 0){f:Obj→Obj}(hf:f (Tab #[])=Tab #[.int 79 0,.int 4 0,.ref a])
 {α:Type} {A:Around} {t:Sem α} {Q:α→Shared→Prop} {E:Value→Shared→Prop} {gl:Array GenState} {d:Drawn} {tt:Nat} {os:OsState} (K:∀h',Rep (x.F54 a v tk) N h' tab 0→wpAny (MB (x.F54 a v tk)) A t Q E ⟨h',gl,d,tt,os⟩):
 ∃o,h.get? 75=some o∧wpAny (MB x.E54) A t Q E ⟨h.update 75 f,gl,d,tt,os⟩:=
 ⟨_,R.inv.2 _ (List.mem_singleton.mpr rfl),K _ (x.grow54 R hf)⟩
theorem W2.upd61(x:W2){N:Nat}{h:Heap}{tab:Cells}{a:Addr}{v:Nat→Value}{tk:Nat}(R:Rep x.E61 N h ((a,codeO qual61 v tk)::tab) 0){f:Obj→Obj}(hf:f (Tab #[])=Tab #[.int 94 0,.int 4 0,.ref a])
 {α:Type} {A:Around} {t:Sem α} {Q:α→Shared→Prop} {E:Value→Shared→Prop} {gl:Array GenState} {d:Drawn} {tt:Nat} {os:OsState} (K:∀h',Rep (x.F61 a v tk) N h' tab 0→wpAny (MB (x.F61 a v tk)) A t Q E ⟨h',gl,d,tt,os⟩):
 ∃o,h.get? 82=some o∧wpAny (MB x.E61) A t Q E ⟨h.update 82 f,gl,d,tt,os⟩:=
 ⟨_,R.inv.2 _ (List.mem_singleton.mpr rfl),K _ (x.grow61 R hf)⟩
noncomputable def geEnv(x:W2)(F:Addr):Env:=envOf (fdOf x.B 45) 45 F
noncomputable def geLoop(x:W2)(F e:Addr):Code:=loopOf (stmtAt x.B 45 2) (.ref e) (geEnv x F)
noncomputable def geBody(x:W2)(F:Addr):Code:=.func (bodyOf (fdOf x.B 45)) (geEnv x F)
noncomputable def geFr(x:W2)(l:List Nat)(ka ta k1 k2:Nat)(pos:Value)(b:Bool)(more:List DictEntry)(n:Nat):Obj:=⟨.type "frame",none,.dict (#[En x.B n_addr ka (.str (S l) ta),En x.B n_pos k1 pos,En x.B n_escape k2 (.bool b)]++more.toArray) n,#[]⟩
noncomputable def lexB:Bool→Nat→List Nat→List (Nat×List Nat)
 |true,i,[]=>[(i-1,[92])]
 |false,_,[]=>[]
 |true,i,c::r=>(i,[92,c])::lexB false (i+1) r
 |false,i,c::r=>if c=92 then lexB true (i+1) r else(i,[c])::lexB false (i+1) r
noncomputable def pairO(i:Nat)(w:List Nat)(u v:Nat):Obj:=⟨.type "tuple",none,.seq #[.int (i:Int) u,.str (S w) v] 0,#[]⟩
noncomputable def ResOk(x:W2)(F e:Addr)(fs:List Frame)(b:Bool)(k:Resume→Sem Fin):Prop:=∀(A:Around) (_:(A.over (geLoop x F e) fs).handled=none) (l:List Nat) (ka ta k1 k2 k3:Nat) (pos vc:Value) (N t:Nat) (h:Heap) (gl d os) (rest:Cells) (P:End→Shared→Prop)
 (_:Rep x.B N h ((F,geFr x l ka ta k1 k2 pos b [En x.B n_ch k3 vc] 4)::rest) 0) (_:∀h' N' t',Rep x.B N' h' ((F,geFr x l ka ta k1 k2 pos false [En x.B n_ch k3 vc] 4)::rest) 0→SegX (MB x.B) A (geLoop x F e) (denZ (geLoop x F e)) fs ⟨h',gl,d,t',os⟩ P),
 SegX (MB x.B) A (geLoop x F e) (k (.send .none)) fs ⟨h,gl,d,t,os⟩ P
theorem ge_t1(x:W2)(F e it:Addr)(A:Around)(fs:List Frame)(hh:(A.over (geLoop x F e) fs).handled=none)(hf1:splitAtGen fs=none)(hf2:fs.any Frame.guarded=false)(l:List Nat)(i c:Nat)(hc:l[i]? =some c)(P:End→Shared→Prop)
 (ka ta k1 k2 k3:Nat) (pos vc old:Value) (N t:Nat) (h:Heap) (gl d os) (rest:Cells)
 (Rp:Rep x.B N h ((e,EnumO .none (.ref it) (i:Int) old)::(it,SIt l ta (i:Int))::(F,geFr x l ka ta k1 k2 pos true [En x.B n_ch k3 vc] 4)::rest) 0)
 (K:∀h' N' t' p a u v k3 pos vc old ll kk,ResOk x F e fs true kk→Rep x.B N' h' ((a,pairO i [92,c] u v)::(e,EnumO .none (.ref it) ((i+1:Nat):Int) old)::(it,SIt l ta ((i+1:Nat):Int))::(F,geFr x l ka ta k1 k2 pos true [En x.B n_ch k3 vc] 4)::rest) 0→P (.susp (.ref a) false ll kk (geLoop x F e) p fs) ⟨h',gl,d,t',os⟩):
 SegX (MB x.B) A (geLoop x F e) (denZ (geLoop x F e)) fs ⟨h,gl,d,t,os⟩ P:=by
 dsimp only[geFr] at Rp
 refine s_turn (pyNext_of ⟨_,Rp.at (n:=0) rfl,rfl⟩ PySem.F.slot_enumerate_next (en_next hh old Rp hc fun h7 N7 t7 a7 v7 w7 Rp=>?_))
 refine let_enum (by rfl') Rp 1 rfl rfl fun h8 Rp=>?_
 dsimp only[setN] at Rp
 refine seg_val hh Rp 71 [5,5,5,0,5,5,5,0,5,5,5,6,5,1,5,0,5,5,5,6,5,1,5,0,5,5,5,6,5,1,5,11,7,11,7] [false,false,false,true,true,true,true] () ((a7,⟨.type "tuple",none,.seq #[.int ((↑i:Int)) v7,.str (S [c]) w7] 0,#[]⟩)::(e,⟨.type "enumerate",none,.fields #[.none,.bool false,.ref it,.int ((↑(i+1):Int)) 0,.none,.str (S [c]) w7],#[]⟩)::(it,⟨.type "str_ascii_iterator",none,.fields #[.str (S l) ta,.int ((↑(i+1):Int)) 0],#[]⟩)::(F,⟨.type "frame",none,.dict #[En x.B n_addr ka (.str (S l) ta),En x.B n_pos k1 (.int ((↑i:Int)) v7),En x.B n_escape k2 (.bool true),En x.B n_ch k3 (.str (S [c]) w7)] 4,#[]⟩)::rest) 3 2 (by rfl') fun h1 N1 t1 Rp=>?_
 refine sx_yld hh hf1 hf2 Rp [] 30 [8,8,8,0] [true,false,true,true,true] (.ref (N1+0)) ((N1+0,⟨.type "tuple",none,(.seq #[.int ((↑i:Int)) v7,(.str ({cps:={toList:=[92]}}++S [c]) (t1+1))] 0),#[]⟩)::(e,⟨.type "enumerate",none,.fields #[.none,.bool false,.ref it,.int ((↑(i+1):Int)) 0,.none,.str (S [c]) w7],#[]⟩)::(it,⟨.type "str_ascii_iterator",none,.fields #[.str (S l) ta,.int ((↑(i+1):Int)) 0],#[]⟩)::(F,⟨.type "frame",none,.dict #[En x.B n_addr ka (.str (S l) ta),En x.B n_pos k1 (.int ((↑i:Int)) v7),En x.B n_escape k2 (.bool true),En x.B n_ch k3 (.str (S [c]) w7)] 4,#[]⟩)::rest) 1 2 (by rfl') aN fun h2 N2 t2 p2 Rp=>?_
 refine K _ _ _ _ _ _ _ _ _ _ _ _ _ ?_ Rp
 intro A' hh' l' ka' ta' q1 q2 q3 pos' vc' N' t' h' gl' d' os' rest' P' Rp K'
 clear hh
 have hh:=hh'
 dsimp only[geFr] at Rp
 refine sx_val hh Rp [] 19 [5,1] [true] (Fin.again (loopOf (stmtAt x.B 45 2) (.ref e) (geEnv x F))) ((F,⟨.type "frame",none,.dict #[En x.B n_addr ka' (.str (S l') ta'),En x.B n_pos q1 (pos'),En x.B n_escape q2 (.bool false),En x.B n_ch q3 (vc')] 4,#[]⟩)::rest') 0 1 (by rfl') aN fun h3 N3 t3 Rp=>?_
 exact sx_again rfl (K' _ _ _ Rp)
theorem ge_t2(x:W2)(F e it:Addr)(A:Around)(fs:List Frame)(hh:(A.over (geLoop x F e) fs).handled=none)(hf1:splitAtGen fs=none)(hf2:fs.any Frame.guarded=false)(l:List Nat)(i c:Nat)(hc:l[i]? =some c)(hq:c=92)(P:End→Shared→Prop)
 (ka ta k1 k2 k3:Nat) (pos vc old:Value) (N t:Nat) (h:Heap) (gl d os) (rest:Cells)
 (Rp:Rep x.B N h ((e,EnumO .none (.ref it) (i:Int) old)::(it,SIt l ta (i:Int))::(F,geFr x l ka ta k1 k2 pos false [En x.B n_ch k3 vc] 4)::rest) 0)
 (K:∀h' N' t' k3 v0 vc old,Rep x.B N' h' ((e,EnumO .none (.ref it) ((i+1:Nat):Int) old)::(it,SIt l ta ((i+1:Nat):Int))::(F,geFr x l ka ta k1 k2 (.int (i:Int) v0) true [En x.B n_ch k3 vc] 4)::rest) 0→SegX (MB x.B) A (geLoop x F e) (denZ (geLoop x F e)) fs ⟨h',gl,d,t',os⟩ P):
 SegX (MB x.B) A (geLoop x F e) (denZ (geLoop x F e)) fs ⟨h,gl,d,t,os⟩ P:=by
 dsimp only[geFr] at Rp
 refine s_turn (pyNext_of ⟨_,Rp.at (n:=0) rfl,rfl⟩ PySem.F.slot_enumerate_next (en_next hh old Rp hc fun h7 N7 t7 a7 v7 w7 Rp=>?_))
 refine let_enum (by rfl') Rp 1 rfl rfl fun h8 Rp=>?_
 dsimp only[setN] at Rp
 refine seg_val hh Rp 71 [5,5,5,0,5,5,5,0,5,5,5,6,5,1,5,0,5,5,5,6,5,1,5,0,5,5,5,6,5,1,5,11,7,11,7] [false,false,false,true,true,true,true] () ((a7,⟨.type "tuple",none,.seq #[.int ((↑i:Int)) v7,.str (S [c]) w7] 0,#[]⟩)::(e,⟨.type "enumerate",none,.fields #[.none,.bool false,.ref it,.int ((↑(i+1):Int)) 0,.none,.str (S [c]) w7],#[]⟩)::(it,⟨.type "str_ascii_iterator",none,.fields #[.str (S l) ta,.int ((↑(i+1):Int)) 0],#[]⟩)::(F,⟨.type "frame",none,.dict #[En x.B n_addr ka (.str (S l) ta),En x.B n_pos k1 (.int ((↑i:Int)) v7),En x.B n_escape k2 (.bool false),En x.B n_ch k3 (.str (S [c]) w7)] 4,#[]⟩)::rest) 3 2 (by rfl') fun h1 N1 t1 Rp=>?_
 refine sx_val hh Rp [⟨.call (.builtin "str.__eq__") ⟨[.str (S [c]) w7,.str (S [92]) (t1+0)],[]⟩,fun _=>.bool true,0⟩] 30 [8,8,1,8,4] [false,true,true,true] (Fin.again (loopOf (stmtAt x.B 45 2) (.ref e) (geEnv x F))) ((e,⟨.type "enumerate",none,.fields #[.none,.bool false,.ref it,.int ((↑(i+1):Int)) 0,.none,.str (S [c]) w7],#[]⟩)::(it,⟨.type "str_ascii_iterator",none,.fields #[.str (S l) ta,.int ((↑(i+1):Int)) 0],#[]⟩)::(F,⟨.type "frame",none,.dict #[En x.B n_addr ka (.str (S l) ta),En x.B n_pos k1 (.int ((↑i:Int)) v7),En x.B n_escape k2 (.bool true),En x.B n_ch k3 (.str (S [c]) w7)] 4,#[]⟩)::rest) 0 2 (by rfl') (aC (s_eq' (l:=([c])) (l':=[92]) (by first|rfl|(simp[*];done)|(simp;omega))) aN) fun h2 N2 t2 Rp=>?_
 exact sx_again rfl (K _ _ _ _ _ _ _ Rp)
theorem ge_t3(x:W2)(F e it:Addr)(A:Around)(fs:List Frame)(hh:(A.over (geLoop x F e) fs).handled=none)(hf1:splitAtGen fs=none)(hf2:fs.any Frame.guarded=false)(l:List Nat)(i c:Nat)(hc:l[i]? =some c)(hq:c≠92)(P:End→Shared→Prop)
 (ka ta k1 k2 k3:Nat) (pos vc old:Value) (N t:Nat) (h:Heap) (gl d os) (rest:Cells)
 (Rp:Rep x.B N h ((e,EnumO .none (.ref it) (i:Int) old)::(it,SIt l ta (i:Int))::(F,geFr x l ka ta k1 k2 pos false [En x.B n_ch k3 vc] 4)::rest) 0)
 (K:∀h' N' t' p a u v k3 pos vc old ll kk,ResOk x F e fs false kk→Rep x.B N' h' ((a,pairO i [c] u v)::(e,EnumO .none (.ref it) ((i+1:Nat):Int) old)::(it,SIt l ta ((i+1:Nat):Int))::(F,geFr x l ka ta k1 k2 pos false [En x.B n_ch k3 vc] 4)::rest) 0→P (.susp (.ref a) false ll kk (geLoop x F e) p fs) ⟨h',gl,d,t',os⟩):
 SegX (MB x.B) A (geLoop x F e) (denZ (geLoop x F e)) fs ⟨h,gl,d,t,os⟩ P:=by
 dsimp only[geFr] at Rp
 refine s_turn (pyNext_of ⟨_,Rp.at (n:=0) rfl,rfl⟩ PySem.F.slot_enumerate_next (en_next hh old Rp hc fun h7 N7 t7 a7 v7 w7 Rp=>?_))
 refine let_enum (by rfl') Rp 1 rfl rfl fun h8 Rp=>?_
 dsimp only[setN] at Rp
 refine seg_val hh Rp 71 [5,5,5,0,5,5,5,0,5,5,5,6,5,1,5,0,5,5,5,6,5,1,5,0,5,5,5,6,5,1,5,11,7,11,7] [false,false,false,true,true,true,true] () ((a7,⟨.type "tuple",none,.seq #[.int ((↑i:Int)) v7,.str (S [c]) w7] 0,#[]⟩)::(e,⟨.type "enumerate",none,.fields #[.none,.bool false,.ref it,.int ((↑(i+1):Int)) 0,.none,.str (S [c]) w7],#[]⟩)::(it,⟨.type "str_ascii_iterator",none,.fields #[.str (S l) ta,.int ((↑(i+1):Int)) 0],#[]⟩)::(F,⟨.type "frame",none,.dict #[En x.B n_addr ka (.str (S l) ta),En x.B n_pos k1 (.int ((↑i:Int)) v7),En x.B n_escape k2 (.bool false),En x.B n_ch k3 (.str (S [c]) w7)] 4,#[]⟩)::rest) 3 2 (by rfl') fun h1 N1 t1 Rp=>?_
 refine sx_yld hh hf1 hf2 Rp [⟨.call (.builtin "str.__eq__") ⟨[.str (S [c]) w7,.str (S [92]) (t1+0)],[]⟩,fun _=>.bool false,0⟩] 30 [8,8,1,8,8] [true,false,true,true,true] (.ref (N1+0)) ((N1+0,⟨.type "tuple",none,.seq #[.int ((↑i:Int)) v7,.str (S [c]) w7] 0,#[]⟩)::(e,⟨.type "enumerate",none,.fields #[.none,.bool false,.ref it,.int ((↑(i+1):Int)) 0,.none,.str (S [c]) w7],#[]⟩)::(it,⟨.type "str_ascii_iterator",none,.fields #[.str (S l) ta,.int ((↑(i+1):Int)) 0],#[]⟩)::(F,⟨.type "frame",none,.dict #[En x.B n_addr ka (.str (S l) ta),En x.B n_pos k1 (.int ((↑i:Int)) v7),En x.B n_escape k2 (.bool false),En x.B n_ch k3 (.str (S [c]) w7)] 4,#[]⟩)::rest) 1 1 (by rfl') (aC (s_eq' (l:=([c])) (l':=[92]) (by first|rfl|(simp[*];done)|(simp;omega))) aN) fun h2 N2 t2 p2 Rp=>?_
 refine K _ _ _ _ _ _ _ _ _ _ _ _ _ ?_ Rp
 intro A' hh' l' ka' ta' q1 q2 q3 pos' vc' N' t' h' gl' d' os' rest' P' Rp K'
 clear hh
 have hh:=hh'
 dsimp only[geFr] at Rp
 refine sx_val hh Rp [] 11 [] [true] (Fin.again (loopOf (stmtAt x.B 45 2) (.ref e) (geEnv x F))) ((F,⟨.type "frame",none,.dict #[En x.B n_addr ka' (.str (S l') ta'),En x.B n_pos q1 (pos'),En x.B n_escape q2 (.bool false),En x.B n_ch q3 (vc')] 4,#[]⟩)::rest') 0 0 (by rfl') aN fun h3 N3 t3 Rp=>?_
 exact sx_again rfl (K' _ _ _ Rp)
theorem ge_t20(x:W2)(F e it:Addr)(A:Around)(fs:List Frame)(hh:(A.over (geLoop x F e) fs).handled=none)(hf1:splitAtGen fs=none)(hf2:fs.any Frame.guarded=false)(l:List Nat)(i c:Nat)(hc:l[i]? =some c)(hq:c=92)(P:End→Shared→Prop)
 (ka ta k1 k2:Nat) (pos old:Value) (N t:Nat) (h:Heap) (gl d os) (rest:Cells)
 (Rp:Rep x.B N h ((e,EnumO .none (.ref it) (i:Int) old)::(it,SIt l ta (i:Int))::(F,geFr x l ka ta k1 k2 pos false [] 3)::rest) 0)
 (K:∀h' N' t' k3 v0 vc old,Rep x.B N' h' ((e,EnumO .none (.ref it) ((i+1:Nat):Int) old)::(it,SIt l ta ((i+1:Nat):Int))::(F,geFr x l ka ta k1 k2 (.int (i:Int) v0) true [En x.B n_ch k3 vc] 4)::rest) 0→SegX (MB x.B) A (geLoop x F e) (denZ (geLoop x F e)) fs ⟨h',gl,d,t',os⟩ P):
 SegX (MB x.B) A (geLoop x F e) (denZ (geLoop x F e)) fs ⟨h,gl,d,t,os⟩ P:=by
 dsimp only[geFr] at Rp
 refine s_turn (pyNext_of ⟨_,Rp.at (n:=0) rfl,rfl⟩ PySem.F.slot_enumerate_next (en_next hh old Rp hc fun h7 N7 t7 a7 v7 w7 Rp=>?_))
 refine let_enum (by rfl') Rp 1 rfl rfl fun h8 Rp=>?_
 dsimp only[setN] at Rp
 refine seg_val hh Rp 71 [5,5,5,0,5,5,5,0,5,5,5,6,5,1,5,0,5,5,5,6,5,1,5,0,5,5,5,6,5,1,5,11,7,11,7] [false,false,false,true,true,true,true] () ((a7,⟨.type "tuple",none,.seq #[.int ((↑i:Int)) v7,.str (S [c]) w7] 0,#[]⟩)::(e,⟨.type "enumerate",none,.fields #[.none,.bool false,.ref it,.int ((↑(i+1):Int)) 0,.none,.str (S [c]) w7],#[]⟩)::(it,⟨.type "str_ascii_iterator",none,.fields #[.str (S l) ta,.int ((↑(i+1):Int)) 0],#[]⟩)::(F,⟨.type "frame",none,.dict #[En x.B n_addr ka (.str (S l) ta),En x.B n_pos k1 (.int ((↑i:Int)) v7),En x.B n_escape k2 (.bool false),En x.B n_ch (t7+1) (.str (S [c]) w7)] 4,#[]⟩)::rest) 3 2 (by rfl') fun h1 N1 t1 Rp=>?_
 refine sx_val hh Rp [⟨.call (.builtin "str.__eq__") ⟨[.str (S [c]) w7,.str (S [92]) (t1+0)],[]⟩,fun _=>.bool true,0⟩] 30 [8,8,1,8,4] [false,true,true,true] (Fin.again (loopOf (stmtAt x.B 45 2) (.ref e) (geEnv x F))) ((e,⟨.type "enumerate",none,.fields #[.none,.bool false,.ref it,.int ((↑(i+1):Int)) 0,.none,.str (S [c]) w7],#[]⟩)::(it,⟨.type "str_ascii_iterator",none,.fields #[.str (S l) ta,.int ((↑(i+1):Int)) 0],#[]⟩)::(F,⟨.type "frame",none,.dict #[En x.B n_addr ka (.str (S l) ta),En x.B n_pos k1 (.int ((↑i:Int)) v7),En x.B n_escape k2 (.bool true),En x.B n_ch (t7+1) (.str (S [c]) w7)] 4,#[]⟩)::rest) 0 2 (by rfl') (aC (s_eq' (l:=([c])) (l':=[92]) (by first|rfl|(simp[*];done)|(simp;omega))) aN) fun h2 N2 t2 Rp=>?_
 exact sx_again rfl (K _ _ _ _ _ _ _ Rp)
theorem ge_t30(x:W2)(F e it:Addr)(A:Around)(fs:List Frame)(hh:(A.over (geLoop x F e) fs).handled=none)(hf1:splitAtGen fs=none)(hf2:fs.any Frame.guarded=false)(l:List Nat)(i c:Nat)(hc:l[i]? =some c)(hq:c≠92)(P:End→Shared→Prop)
 (ka ta k1 k2:Nat) (pos old:Value) (N t:Nat) (h:Heap) (gl d os) (rest:Cells)
 (Rp:Rep x.B N h ((e,EnumO .none (.ref it) (i:Int) old)::(it,SIt l ta (i:Int))::(F,geFr x l ka ta k1 k2 pos false [] 3)::rest) 0)
 (K:∀h' N' t' p a u v k3 pos vc old ll kk,ResOk x F e fs false kk→Rep x.B N' h' ((a,pairO i [c] u v)::(e,EnumO .none (.ref it) ((i+1:Nat):Int) old)::(it,SIt l ta ((i+1:Nat):Int))::(F,geFr x l ka ta k1 k2 pos false [En x.B n_ch k3 vc] 4)::rest) 0→P (.susp (.ref a) false ll kk (geLoop x F e) p fs) ⟨h',gl,d,t',os⟩):
 SegX (MB x.B) A (geLoop x F e) (denZ (geLoop x F e)) fs ⟨h,gl,d,t,os⟩ P:=by
 dsimp only[geFr] at Rp
 refine s_turn (pyNext_of ⟨_,Rp.at (n:=0) rfl,rfl⟩ PySem.F.slot_enumerate_next (en_next hh old Rp hc fun h7 N7 t7 a7 v7 w7 Rp=>?_))
 refine let_enum (by rfl') Rp 1 rfl rfl fun h8 Rp=>?_
 dsimp only[setN] at Rp
 refine seg_val hh Rp 71 [5,5,5,0,5,5,5,0,5,5,5,6,5,1,5,0,5,5,5,6,5,1,5,0,5,5,5,6,5,1,5,11,7,11,7] [false,false,false,true,true,true,true] () ((a7,⟨.type "tuple",none,.seq #[.int ((↑i:Int)) v7,.str (S [c]) w7] 0,#[]⟩)::(e,⟨.type "enumerate",none,.fields #[.none,.bool false,.ref it,.int ((↑(i+1):Int)) 0,.none,.str (S [c]) w7],#[]⟩)::(it,⟨.type "str_ascii_iterator",none,.fields #[.str (S l) ta,.int ((↑(i+1):Int)) 0],#[]⟩)::(F,⟨.type "frame",none,.dict #[En x.B n_addr ka (.str (S l) ta),En x.B n_pos k1 (.int ((↑i:Int)) v7),En x.B n_escape k2 (.bool false),En x.B n_ch (t7+1) (.str (S [c]) w7)] 4,#[]⟩)::rest) 3 2 (by rfl') fun h1 N1 t1 Rp=>?_
 refine sx_yld hh hf1 hf2 Rp [⟨.call (.builtin "str.__eq__") ⟨[.str (S [c]) w7,.str (S [92]) (t1+0)],[]⟩,fun _=>.bool false,0⟩] 30 [8,8,1,8,8] [true,false,true,true,true] (.ref (N1+0)) ((N1+0,⟨.type "tuple",none,.seq #[.int ((↑i:Int)) v7,.str (S [c]) w7] 0,#[]⟩)::(e,⟨.type "enumerate",none,.fields #[.none,.bool false,.ref it,.int ((↑(i+1):Int)) 0,.none,.str (S [c]) w7],#[]⟩)::(it,⟨.type "str_ascii_iterator",none,.fields #[.str (S l) ta,.int ((↑(i+1):Int)) 0],#[]⟩)::(F,⟨.type "frame",none,.dict #[En x.B n_addr ka (.str (S l) ta),En x.B n_pos k1 (.int ((↑i:Int)) v7),En x.B n_escape k2 (.bool false),En x.B n_ch (t7+1) (.str (S [c]) w7)] 4,#[]⟩)::rest) 1 1 (by rfl') (aC (s_eq' (l:=([c])) (l':=[92]) (by first|rfl|(simp[*];done)|(simp;omega))) aN) fun h2 N2 t2 p2 Rp=>?_
 refine K _ _ _ _ _ _ _ _ _ _ _ _ _ ?_ Rp
 intro A' hh' l' ka' ta' q1 q2 q3 pos' vc' N' t' h' gl' d' os' rest' P' Rp K'
 clear hh
 have hh:=hh'
 dsimp only[geFr] at Rp
 refine sx_val hh Rp [] 11 [] [true] (Fin.again (loopOf (stmtAt x.B 45 2) (.ref e) (geEnv x F))) ((F,⟨.type "frame",none,.dict #[En x.B n_addr ka' (.str (S l') ta'),En x.B n_pos q1 (pos'),En x.B n_escape q2 (.bool false),En x.B n_ch q3 (vc')] 4,#[]⟩)::rest') 0 0 (by rfl') aN fun h3 N3 t3 Rp=>?_
 exact sx_again rfl (K' _ _ _ Rp)
noncomputable def dAf(k:Nat)(n:Nat):List Nat:=match k with
 |0=>[]
 |k+1=>match Nat.beq n 0 with
  |true=>[]
  |false=>(n%64-1)::dAf k (n/64)
termination_by structural k
noncomputable def dA(n:Nat):List Nat:=dAf 900 n
noncomputable def dMf(k:Nat)(n:Nat):List Bool:=match k with
 |0=>[]
 |k+1=>match Nat.beq n 1 with
  |true=>[]
  |false=>(Nat.beq (n%2) 1)::dMf k (n/2)
termination_by structural k
noncomputable def dM(n:Nat):List Bool:=dMf 400 n
inductive Op where
 |k
 |d
 |u (f:Obj→Obj)
noncomputable def opsRun(ops:List Op)(l:Cells):Cells:=match ops with
 |[]=>l
 |o::ops=>match l with
  |[]=>[]
  |x::l=>match o with
   | .k=>x::opsRun ops l
   | .d=>opsRun ops l
   | .u f=>match x with
    |(a,o)=>(a,f o)::opsRun ops l
termination_by structural ops
noncomputable def opB(o:Op):Bool:=match o with
 | .d=>false
 |_=>true
noncomputable def mkB(mk:List Bool)(ops:List Op):List Bool:=match mk with
 |[]=>ops.map opB
 |b::mk=>b::mkB mk ops
noncomputable def nw(news l:Cells):Cells:=match news with
 |[]=>l
 |x::r=>x::nw r l
noncomputable def setV(i:Nat)(v:Value)(l:List DictEntry):List DictEntry:=match i with
 |0=>match l with
  |[]=>[]
  |e::l=>{e with val:=v}::l
 |i+1=>match l with
  |[]=>[]
  |e::l=>e::setV i v l
noncomputable def setVs(s:List (Nat×Value))(l:List DictEntry):List DictEntry:=match s with
 |[]=>l
 |(i,v)::s=>setVs s (setV i v l)
noncomputable def dU(s:List (Nat×Value))(adds:List DictEntry)(n:Nat)(o:Obj):Obj:=match o with
 |⟨c,d,dt,sl⟩=>match dt with
  | .dict es _=>⟨c,d,.dict ⟨(setVs s es.toList)++adds⟩ n,sl⟩
  |_=>o
noncomputable abbrev oL(xs:Array Value)(n:Nat):Obj:=⟨.type "list",none,.seq xs n,#[]⟩
noncomputable abbrev oT(xs:Array Value):Obj:=⟨.type "tuple",none,.seq xs 0,#[]⟩
noncomputable abbrev oF(es:Array DictEntry)(n:Nat):Obj:=⟨.type "frame",none,.dict es n,#[]⟩
noncomputable abbrev oD(es:Array DictEntry)(n:Nat):Obj:=⟨.type "dict",none,.dict es n,#[]⟩
noncomputable abbrev oC(v:Option Value):Obj:=⟨.type "cell",none,.cell v,#[]⟩
noncomputable abbrev oI(c:String)(fs:Array Value):Obj:=⟨.type c,none,.fields fs,#[]⟩
noncomputable abbrev cB(id:String)(l:List Value):Code:=.call (.builtin id) ⟨l,[]⟩
noncomputable abbrev cR(a:Addr)(l:List Value):Code:=.call (.ref a) ⟨l,[]⟩
noncomputable abbrev aI(id:String)(l:List Value)(c:Int):Ans:=⟨cB id l,fun t=>.int c t,1⟩
noncomputable abbrev aF(id:String)(l:List Value)(c:Int):Ans:=⟨cB id l,fun t=>.float (fl c) t,1⟩
noncomputable abbrev aB(id:String)(l:List Value)(r:Bool):Ans:=⟨cB id l,fun _=>.bool r,0⟩
section
variable {α:Type} {B:Base} {A:Around} {N t₀:Nat} {Q:α→Shared→Prop} {E:Value→Shared→Prop} {t:Sem α} {tab:Cells} {h:Heap} {gl:Array GenState} {d:Drawn} {os:OsState}
theorem seg_valD(hh:A.handled=none)(R:Rep B N h tab 0)(ans:List Ans)(n:Nat)(adv:List Nat)(mk:List Bool)(a:α)(news:Cells)(ops:List Op)(m i:Nat)
 (K:let T:=nw news (opsRun ops tab);∀h' N' t',Rep B N' h' T 0→Q a ⟨h',gl,d,t',os⟩) (ha:AnsOk B.prog B.w ans:=by exact aN)
  (e:view (runA B N t₀ ans n adv t tab) (mkB mk ops)=⟨.val a,nw news (opsRun ops tab),m,i,(runA B N t₀ ans n adv t tab).ob.map (·.2)⟩:=by rfl'):wpAny (MB B) A t Q E ⟨h,gl,d,t₀,os⟩:=
 seg_valA hh R ans n adv _ a _ m i e ha K
theorem seg_callD(hh:A.handled=none)(R:Rep B N h tab 0)(ans:List Ans)(n:Nat)(adv:List Nat)(mk:List Bool)(c:Code)(news:Cells)(ops:List Op)(m i:Nat)
 (K:let T:=nw news (opsRun ops tab);∀h' N' t',Rep B N' h' T 0→let k:=callK (runA B N t₀ ans n adv t tab).t;codeAny (MB B) A c (fun r s'=>wpAny (MB B) A (k r) Q E s') ⟨h',gl,d,t',os⟩) (ha:AnsOk B.prog B.w ans:=by exact aN)
  (e:view (runA B N t₀ ans n adv t tab) (mkB mk ops)=⟨.call c,nw news (opsRun ops tab),m,i,(runA B N t₀ ans n adv t tab).ob.map (·.2)⟩:=by rfl'):wpAny (MB B) A t Q E ⟨h,gl,d,t₀,os⟩:=
 seg_callA hh R ans n adv _ c _ m i e ha K
theorem seg_codeD{P:Result→Shared→Prop}{c:Code}(hh:A.handled=none)(R:Rep B N h tab 0)(ans:List Ans)(n:Nat)(adv:List Nat)(mk:List Bool)(r:Result)(news:Cells)(ops:List Op)(m i:Nat)
 (e:viewC (runC B N t₀ ans n adv c tab) (mkB mk ops)=⟨some r,nw news (opsRun ops tab),m,i,(runC B N t₀ ans n adv c tab).ob.map (·.2)⟩) (ha:AnsOk B.prog B.w ans)
 (K:let T:=nw news (opsRun ops tab);∀h' N' t',Rep B N' h' T 0→P r ⟨h',gl,d,t',os⟩):codeAny (MB B) A c P ⟨h,gl,d,t₀,os⟩:=
 seg_code hh R ans n adv _ r _ m i e ha K
theorem enterD{R:Result→Shared→Prop}{f:Value}{args:Args}(hh:A.handled=none)(Rp:Rep B N h tab 0)(hd:A.depth<1000)(n:Nat)(adv:List Nat)(body:List Stmt)(env:Env)(news:Cells)(m i:Nat)
 (e:viewS (run B N t₀ n adv (denZ (.call f args)) tab) []=⟨PySem.W.R.bindR (PySem.W.ZFast.enterX 0) (fun _=>.pure (.again (.func body env))),nw news tab,m,i,(run B N t₀ n adv (denZ (.call f args)) tab).ob.map (·.2)⟩)
 (K:let T:=nw news tab;∀h' N' t',Rep B N' h' T 0→wpAny (MB B) (A.under (.func body env)) (execsZ body env) (fun f s'=>R (.ok (.ret (flowVal f))) s') (fun _ _=>False) ⟨h',gl,d,t',os⟩):
 codeAny (MB B) A (.call f args) R ⟨h,gl,d,t₀,os⟩:=
 enter hh Rp hd n adv [] body env _ m i e K
end
section
variable {B:Base} {A:Around} {h:Heap} {gl:Array GenState} {d:Drawn} {t:Nat} {os:OsState} {N n n':Nat} {L L' e u T:Addr} {es es':Array DictEntry} {sl:Array (Option Value)} {rest:Cells} {E:Value→Shared→Prop}
end
section
variable {α:Type} {B:Base} {A:Around} {N t₀:Nat} {Q:α→Shared→Prop} {E:Value→Shared→Prop} {t:Sem α} {tab:Cells} {h:Heap} {gl:Array GenState} {d:Drawn} {os:OsState}
end
noncomputable def evalZ:Expr→Env→Sem Value:=PySem.W.ZFast.zw14044960220447912780
theorem evalZ_eq:eval=evalZ:=PySem.W.ZFast.ze14044960220447912780
set_option backward.match.sparseCases false
set_option backward.match.sparseCases true
section
variable {B:Base} {A:Around} {env:Env} {L:Addr} {s:Stmt}
end
section
variable {α:Type} {B:Base} {A:Around} {N t₀:Nat} {Q:α→Shared→Prop} {E:Value→Shared→Prop} {t:Sem α} {tab:Cells} {h:Heap} {gl:Array GenState} {d:Drawn} {os:OsState}
end
noncomputable def ResEnd(x:W2)(F:Addr)(k:Resume→Sem Fin):Prop:=∀(A:Around) (_:A.handled=none) (N t:Nat) (h:Heap) (gl d os) (rest:Cells) (P:End→Shared→Prop)
 (_:Rep x.B N h rest 0) (_:∀h' N' t',Rep x.B N' h' rest 0→P (.ret (.ok (.ret .none))) ⟨h',gl,d,t',os⟩),SegX (MB x.B) A (geBody x F) (k (.send .none)) [] ⟨h,gl,d,t,os⟩ P
structure TailOk (x:W2) (F:Addr) (kk:Result→Sem Fin):Prop where
 f:∀(A:Around) (_:A.handled=none) (l:List Nat) (ka ta k1 k2 n:Nat) (pos:Value) (more:List DictEntry) (_:(more=[]∧n=3)∨(∃k3 vc,more=[En x.B n_ch k3 vc]∧n=4)) (N t:Nat) (h:Heap) (gl d os) (rest:Cells) (P:End→Shared→Prop)
  (_:Rep x.B N h ((F,geFr x l ka ta k1 k2 pos false more n)::rest) 0) (_:∀h' N' t',Rep x.B N' h' rest 0→P (.ret (.ok (.ret .none))) ⟨h',gl,d,t',os⟩),
  SegX (MB x.B) A (geBody x F) (kk (.ok .next)) [] ⟨h,gl,d,t,os⟩ P
 y:∀(A:Around) (_:A.handled=none) (l:List Nat) (ka ta k1 k2 k3 v0:Nat) (i:Nat) (vc:Value) (N t:Nat) (h:Heap) (gl d os) (rest:Cells) (P:End→Shared→Prop)
  (_:Rep x.B N h ((F,geFr x l ka ta k1 k2 (.int (i:Int) v0) true [En x.B n_ch k3 vc] 4)::rest) 0) (_:∀h' N' t' p a u v ll kk,ResEnd x F kk→Rep x.B N' h' ((a,pairO i [92] u v)::rest) 0→P (.susp (.ref a) false ll kk (geBody x F) p []) ⟨h',gl,d,t',os⟩),
  SegX (MB x.B) A (geBody x F) (kk (.ok .next)) [] ⟨h,gl,d,t,os⟩ P
theorem gen0(x:W2)(A:Around)(hh:A.handled=none)(F:Addr)(l:List Nat)(hl:Asc l)(ka ta:Nat)(P:End→Shared→Prop)
 (N t:Nat) (h:Heap) (gl d os) (rest:Cells) (Rp:Rep x.B N h ((F,⟨.type "frame",none,.dict #[En x.B n_addr ka (.str (S l) ta)] 1,#[]⟩)::rest) 0)
 (K:∀h' N' t' e it k1 k2 v0 kk gg ll p,gg=false→TailOk x F kk→Rep x.B N' h' ((e,EnumO .none (.ref it) ((0:Nat):Int) .none)::(it,SIt l ta ((0:Nat):Int))::(F,geFr x l ka ta k1 k2 (.int 0 v0) false [] 3)::rest) 0→
  SegX (MB x.B) A (geLoop x F e) (denZ (geLoop x F e)) [.ret kk none gg ll (geBody x F) p []] ⟨h',gl,d,t',os⟩ P):
 SegX (MB x.B) A (geBody x F) (denZ (geBody x F)) [] ⟨h,gl,d,t,os⟩ P:=by
 refine sx_call hh Rp [] 36 [5,1,5,1,0,0,5] [true] (.call (.type "enumerate") ⟨[.str (S l) ta],[]⟩) ((F,oF #[En x.B n_addr ka (.str (S l) ta),En x.B n_pos (t+1) (.int 0 (t+0)),En x.B n_escape (t+2) (.bool false)] 3)::rest) 0 3 (by rfl') aN fun h1 N1 t1 Rp=>?_
 refine code_tree ?_
 with_reducible refine seg_valD (by with_unfolding_all exact hh) Rp [] 11 (dA 0x0) [] (Fin.again (.builtin "type.__call__" ⟨[.type "enumerate",.str (S l) ta],[]⟩)) [] [] 0 0 ?_
 intro Tb2 h2 N2 t2 Rp
 refine⟨Code.quiet_builtin _ (by decide+kernel),code_tree ?_⟩
 with_reducible refine seg_callD (by with_unfolding_all exact hh) Rp [] 11 (dA 0x0) [] (cB "enumerate.__new__" [.type "enumerate",.str (S l) ta]) [] [] 0 0 ?_
 intro Tb3 h3 N3 t3 Rp kk3
 refine en_newS hh hl Rp fun h7 N7 t7 e it Rp=>?_
 with_reducible refine seg_valD (by with_unfolding_all exact hh) Rp [] 18 (dA 0x6181186) [] (Fin.done (Flow.ret (.ref e))) [] [] 0 0 ?_
 intro Tb4 h4 N4 t4 Rp
 show SegX _ _ _ _ _ _ _
 refine sx_push hh Rp [] 21 [5,5,0,5,5] [true,true,true] (loopOf (stmtAt x.B 45 2) (.ref e) (geEnv x F)) ((e,oI "enumerate" #[.none,.bool false,.ref it,.int 0 0,.none,.none])::(it,oI "str_ascii_iterator" #[.str (S l) ta,.int 0 0])::(F,oF #[En x.B n_addr ka (.str (S l) ta),En x.B n_pos (t+1) (.int 0 (t+0)),En x.B n_escape (t+2) (.bool false)] 3)::rest) 0 0 (by rfl') aN fun h5 N5 t5 p5 Rp=>?_
 refine K _ _ _ _ _ _ _ _ _ _ _ _ (by rfl') ⟨?_,?_⟩ Rp
 ·intro A hh l ka ta k1 k2 n pos more hm N t h gl d os rest P Rp K'
  rcases hm with⟨rfl,rfl⟩|⟨k3,vc,rfl,rfl⟩
  ·dsimp only[geFr] at Rp
   refine sx_val hh Rp [] 15 [5] [false] (Fin.done (Flow.ret .none)) (rest) 0 0 (by rfl') aN fun h6 N6 t6 Rp=>?_
   exact s_end _ _ _ _ _ _ (.ok (.ret .none)) _ rfl (K' _ _ _ Rp)
  ·dsimp only[geFr] at Rp
   refine sx_val hh Rp [] 15 [5] [false] (Fin.done (Flow.ret .none)) (rest) 0 0 (by rfl') aN fun h6 N6 t6 Rp=>?_
   exact s_end _ _ _ _ _ _ (.ok (.ret .none)) _ rfl (K' _ _ _ Rp)
 ·intro A hh l ka ta k1 k2 k3 v0 i vc N t h gl d os rest P Rp K'
  dsimp only[geFr] at Rp
  refine sx_yld hh rfl rfl Rp [] 22 [5,5] [true,false] (.ref (N+0)) ((N+0,oT #[.int ((↑i:Int)) v0,.str (S [92]) (t+0)])::rest) 1 1 (by rfl') aN fun h6 N6 t6 p6 Rp=>?_
  refine K' _ _ _ _ _ _ _ _ _ ?_ Rp
  intro A hh N t h gl d os rest P Rp K''
  refine sx_val hh Rp [] 11 [] [] (Fin.done (Flow.ret .none)) (rest) 0 0 (by rfl') aN fun h8 N8 t8 Rp=>?_
  exact s_end _ _ _ _ _ _ (.ok (.ret .none)) _ rfl (K'' _ _ _ Rp)
theorem ge_end(x:W2)(F e it:Addr)(A:Around)(hA:A.handled=none)(kk:Result→Sem Fin)(ll:List Value)(p:Pos)(l:List Nat)(i:Nat)(hc:l[i]? =none)(P:End→Shared→Prop)
 (ta:Nat) (old:Value) (N t:Nat) (h:Heap) (gl d os) (rest:Cells)
 (Rp:Rep x.B N h ((e,EnumO .none (.ref it) (i:Int) old)::(it,SIt l ta (i:Int))::rest) 0)
 (K:∀h' N' t',Rep x.B N' h' rest 0→SegX (MB x.B) A (geBody x F) (kk (.ok .next)) [] ⟨h',gl,d,t',os⟩ P):
 SegX (MB x.B) A (geLoop x F e) (denZ (geLoop x F e)) [.ret kk none false ll (geBody x F) p []] ⟨h,gl,d,t,os⟩ P:=by
 have hh:(A.over (geLoop x F e) [.ret kk none false ll (geBody x F) p []]).handled=none:=hA
 refine s_turn (pyNext_of ⟨_,Rp.at (n:=0) rfl,rfl⟩ PySem.F.slot_enumerate_next (en_next_end hh old Rp hc fun h7 N7 t7 a7 e7 Rp=>⟨⟨_,Rp.at (n:=0) rfl,rfl⟩,?_⟩))
 have hh2:(A.over (.block (forE (stmtAt x.B 45 2)) (geEnv x F)) [.ret kk none false ll (geBody x F) p []]).handled=none:=hA
 refine sx_again rfl ?_
 clear hh
 have hh:=hh2
 refine sx_val hh Rp [] 11 [] [false] (Fin.done Flow.next) (rest) 0 0 (by rfl') aN fun h1 N1 t1 Rp=>?_
 exact s_pop _ _ _ _ _ _ _ (.ok .next) _ rfl _ _ _ _ _ _ _ (K _ _ _ Rp)
noncomputable def GoSeg(x:W2)(gs:GenState)(A:Around)(s:Shared)(P:End→Shared→Prop):Prop:=match gs with
 | .fresh c=>SegX (MB x.B) A c (denZ c) [] s P
 | .suspended k _ c _ fs _=>SegX (MB x.B) A c (k (.send .none)) fs s P
 |_=>False
noncomputable def GenP(x:W2):List (Nat×List Nat)→GenState→Cells→Prop
 |[],gs,cs=>∀(A:Around),A.handled=none→∀(N t:Nat) (h:Heap) (gl d os) (rest:Cells) (P:End→Shared→Prop),Rep x.B N h (cs++rest) 0→
  (∀h' N' t',Rep x.B N' h' rest 0→P (.ret (.ok (.ret .none))) ⟨h',gl,d,t',os⟩)→GoSeg x gs A ⟨h,gl,d,t,os⟩ P
 |(i,w)::outs,gs,cs=>∀(A:Around),A.handled=none→∀(N t:Nat) (h:Heap) (gl d os) (rest:Cells) (P:End→Shared→Prop),Rep x.B N h (cs++rest) 0→
  (∀h' N' t' a u v ll kk c p fs cs',(End.genState (.susp (.ref a) false ll kk c p fs)).bare=true→GenP x outs (End.genState (.susp (.ref a) false ll kk c p fs)) cs'→Rep x.B N' h' ((a,pairO i w u v)::(cs'++rest)) 0→P (.susp (.ref a) false ll kk c p fs) ⟨h',gl,d,t',os⟩)→GoSeg x gs A ⟨h,gl,d,t,os⟩ P
noncomputable def Told(x:W2)(outs:List (Nat×List Nat))(rest:Cells)(gl:Array GenState)(d:Drawn)(os:OsState)(P:End→Shared→Prop):Prop:=match outs with
 |[]=>∀h' N' t',Rep x.B N' h' rest 0→P (.ret (.ok (.ret .none))) ⟨h',gl,d,t',os⟩
 |(i,w)::outs=>∀h' N' t' a u v ll kk c p fs cs',(End.genState (.susp (.ref a) false ll kk c p fs)).bare=true→GenP x outs (End.genState (.susp (.ref a) false ll kk c p fs)) cs'→Rep x.B N' h' ((a,pairO i w u v)::(cs'++rest)) 0→P (.susp (.ref a) false ll kk c p fs) ⟨h',gl,d,t',os⟩
theorem genP_of{x:W2}{outs:List (Nat×List Nat)}{gs:GenState}{cs:Cells}
 (h:∀(A:Around),A.handled=none→∀(N t:Nat) (h:Heap) (gl d os) (rest:Cells) (P:End→Shared→Prop),Rep x.B N h (cs++rest) 0→Told x outs rest gl d os P→GoSeg x gs A ⟨h,gl,d,t,os⟩ P):GenP x outs gs cs:=by
 cases outs with
 |nil=>exact fun A hA N t hp gl d os rest P Rp K=>h A hA N t hp gl d os rest P Rp K
 |cons o outs=>exact fun A hA N t hp gl d os rest P Rp K=>h A hA N t hp gl d os rest P Rp K
theorem GenP.go{x:W2}{outs:List (Nat×List Nat)}{gs:GenState}{cs:Cells}(g:GenP x outs gs cs)(A:Around)(hA:A.handled=none)(N t:Nat)(h:Heap)(gl d os)(rest:Cells)(P:End→Shared→Prop)(Rp:Rep x.B N h (cs++rest) 0)(K:Told x outs rest gl d os P):GoSeg x gs A ⟨h,gl,d,t,os⟩ P:=by
 cases outs with
 |nil=>exact g A hA N t h gl d os rest P Rp K
 |cons o outs=>exact g A hA N t h gl d os rest P Rp K
theorem gen_run(x:W2)(F e it:Addr)(kk:Result→Sem Fin)(ll:List Value)(p:Pos)(T:TailOk x F kk)(l:List Nat)(ka ta k1 k2:Nat):∀(r:List Nat) (i:Nat) (_:l.drop i=r) (b:Bool) (_:b=true→0<i) (A:Around) (_:A.handled=none)
 (N t:Nat) (h:Heap) (gl d os) (rest:Cells) (P:End→Shared→Prop) (pos vc old:Value) (k3 v0:Nat) (_:b=true→pos=.int ((i-1:Nat):Int) v0)
 (_:Rep x.B N h ((e,EnumO .none (.ref it) (i:Int) old)::(it,SIt l ta (i:Int))::(F,geFr x l ka ta k1 k2 pos b [En x.B n_ch k3 vc] 4)::rest) 0) (_:Told x (lexB b i r) rest gl d os P),
 SegX (MB x.B) A (geLoop x F e) (denZ (geLoop x F e)) [.ret kk none false ll (geBody x F) p []] ⟨h,gl,d,t,os⟩ P:=by
 intro r
 induction r with
 |nil=>
  intro i hr b hb A hA N t h gl d os rest P pos vc old k3 v0 hpos Rp K
  have hc:l[i]? =none:=by
   rw[List.getElem?_eq_none_iff]
   have:=congrArg List.length hr
   simp at this;omega
  refine ge_end x F e it A hA kk ll p l i hc P ta old N t h gl d os _ Rp fun h' N' t' Rp=>?_
  cases b with
  |false=>exact T.f A hA l ka ta k1 k2 4 pos _ (.inr ⟨k3,vc,rfl,rfl⟩) _ _ _ _ _ _ _ P Rp K
  |true=>
   rw[hpos rfl] at Rp
   refine T.y A hA l ka ta k1 k2 k3 v0 (i-1) vc _ _ _ _ _ _ _ P Rp fun h' N' t' p a u v ll kk hk Rp=>?_
   exact K _ _ _ _ _ _ _ _ _ _ _ [] rfl (genP_of fun A hA N t h gl d os rest P Rp K=>hk A hA N t h gl d os rest P Rp K) Rp
 |cons c r ih=>
  intro i hr b hb A hA N t h gl d os rest P pos vc old k3 v0 hpos Rp K
  have hc:l[i]? =some c:=by
   have:=congrArg (fun z=>z[0]?) hr
   simpa using this
  have hr':l.drop (i+1)=r:=by
   have:=congrArg List.tail hr
   simpa using this
  have hh:(A.over (geLoop x F e) [.ret kk none false ll (geBody x F) p []]).handled=none:=hA
  have hk:∀b k,ResOk x F e [.ret kk none false ll (geBody x F) p []] b k→∀(ll':List Value) (p':Pos) (pos vc old:Value) (k3:Nat),GenP x (lexB false (i+1) r) (End.genState (.susp .none false ll' k (geLoop x F e) p' [.ret kk none false ll (geBody x F) p []]))
   [(e,EnumO .none (.ref it) ((i+1:Nat):Int) old),(it,SIt l ta ((i+1:Nat):Int)),(F,geFr x l ka ta k1 k2 pos b [En x.B n_ch k3 vc] 4)]:=fun b k hk ll' p' pos vc old k3=>
   genP_of fun A hA N t h gl d os rest P Rp K=>hk A hA l ka ta k1 k2 k3 pos vc N t h gl d os ((e,EnumO .none (.ref it) ((i+1:Nat):Int) old)::(it,SIt l ta ((i+1:Nat):Int))::rest) P
    (Rp.perm ((List.perm_middle (l₁:=[_,_])))) fun h' N' t' Rp=>ih (i+1) hr' false (fun z=>nomatch z) A hA _ _ _ _ _ _ _ P pos vc old k3 0 (fun z=>nomatch z) (Rp.perm (List.perm_middle (l₁:=[_,_])).symm) K
  cases b with
  |true=>
   refine ge_t1 x F e it A _ hh rfl rfl l i c hc P ka ta k1 k2 k3 pos vc old N t h gl d os rest Rp fun h' N' t' p' a u v k3' pos' vc' old' ll' k' hk' Rp=>?_
   exact K _ _ _ _ _ _ _ _ _ _ _ _ rfl (hk true k' hk' ll' p' pos' vc' old' k3') Rp
  |false=>
   by_cases hq:c=92
   ·refine ge_t2 x F e it A _ hh rfl rfl l i c hc hq P ka ta k1 k2 k3 pos vc old N t h gl d os rest Rp fun h' N' t' k3' v0' vc' old' Rp=>?_
    refine ih (i+1) hr' true (fun _=>by exact odD) A hA _ _ _ _ _ _ _ P _ vc' old' k3' v0' (fun _=>rfl) Rp ?_
    unfold lexB at K
    rw[if_pos hq] at K
    exact K
   ·unfold lexB at K
    rw[if_neg hq] at K
    refine ge_t3 x F e it A _ hh rfl rfl l i c hc hq P ka ta k1 k2 k3 pos vc old N t h gl d os rest Rp fun h' N' t' p' a u v k3' pos' vc' old' ll' k' hk' Rp=>?_
    exact K _ _ _ _ _ _ _ _ _ _ _ _ rfl (hk false k' hk' ll' p' pos' vc' old' k3') Rp
noncomputable def geFr0(x:W2)(l:List Nat)(ka ta:Nat):Obj:=⟨.type "frame",none,.dict #[En x.B n_addr ka (.str (S l) ta)] 1,#[]⟩
theorem gen_fresh(x:W2)(F:Addr)(l:List Nat)(hl:Asc l)(ka ta:Nat):GenP x (lexB false 0 l) (.fresh (geBody x F)) [(F,geFr0 x l ka ta)]:=by
 refine genP_of fun A hA N t h gl d os rest P Rp K=>?_
 refine gen0 x A hA F l hl ka ta P N t h gl d os rest Rp fun h' N' t' e it k1 k2 v0 kk gg ll p hg T Rp=>?_
 subst hg
 have hh:(A.over (geLoop x F e) [.ret kk none false ll (geBody x F) p []]).handled=none:=hA
 cases l with
 |nil=>
  refine ge_end x F e it A hA kk ll p [] 0 rfl P ta .none _ _ _ _ _ _ _ Rp fun h' N' t' Rp=>?_
  exact T.f A hA [] ka ta k1 k2 3 _ [] (.inl ⟨rfl,rfl⟩) _ _ _ _ _ _ _ P Rp K
 |cons c r=>
  have hk:∀b k,ResOk x F e [.ret kk none false ll (geBody x F) p []] b k→∀(ll':List Value) (p':Pos) (pos vc old:Value) (k3:Nat),GenP x (lexB false (0+1) r) (End.genState (.susp .none false ll' k (geLoop x F e) p' [.ret kk none false ll (geBody x F) p []]))
   [(e,EnumO .none (.ref it) ((0+1:Nat):Int) old),(it,SIt (c::r) ta ((0+1:Nat):Int)),(F,geFr x (c::r) ka ta k1 k2 pos b [En x.B n_ch k3 vc] 4)]:=fun b k hk ll' p' pos vc old k3=>
   genP_of fun A hA N t h gl d os rest P Rp K=>hk A hA (c::r) ka ta k1 k2 k3 pos vc N t h gl d os ((e,EnumO .none (.ref it) ((0+1:Nat):Int) old)::(it,SIt (c::r) ta ((0+1:Nat):Int))::rest) P
    (Rp.perm ((List.perm_middle (l₁:=[_,_])))) fun h' N' t' Rp=>gen_run x F e it kk ll p T (c::r) ka ta k1 k2 r (0+1) rfl false (fun z=>nomatch z) A hA _ _ _ _ _ _ _ P pos vc old k3 0 (fun z=>nomatch z) (Rp.perm (List.perm_middle (l₁:=[_,_])).symm) K
  by_cases hq:c=92
  ·refine ge_t20 x F e it A _ hh rfl rfl (c::r) 0 c rfl hq P ka ta k1 k2 (.int 0 v0) .none _ _ _ _ _ _ rest Rp fun h' N' t' k3' v0' vc' old' Rp=>?_
   refine gen_run x F e it kk ll p T (c::r) ka ta k1 k2 r (0+1) rfl true (fun _=>by decide) A hA _ _ _ _ _ _ _ P _ vc' old' k3' v0' (fun _=>rfl) Rp ?_
   unfold lexB at K
   rw[if_pos hq] at K
   exact K
  ·unfold lexB at K
   rw[if_neg hq] at K
   refine ge_t30 x F e it A _ hh rfl rfl (c::r) 0 c rfl hq P ka ta k1 k2 (.int 0 v0) .none _ _ _ _ _ _ rest Rp fun h' N' t' p' a u v k3' pos' vc' old' ll' k' hk' Rp=>?_
   exact K _ _ _ _ _ _ _ _ _ _ _ _ rfl (hk false k' hk' ll' p' pos' vc' old' k3') Rp
noncomputable abbrev GenO(n:Nat)(nm qn:Value):Obj:=⟨.type "generator",none,.fields #[.int (n:Int) 0,nm,qn],#[]⟩
theorem enterK{B:Base}{A:Around}{R:Result→Shared→Prop}{N t₀:Nat}{tab:Cells}{h:Heap}{gl:Array GenState}{d:Drawn}{os:OsState}{f:Value}{args:Args}
 (hh:A.handled=none) (Rp:Rep B N h tab 0) (hd:A.depth<recursionLimit) (n:Nat) (adv:List Nat) (mask:List Bool) (kk:Unit→Sem Fin) (tab':Cells) (m i:Nat)
 (e:viewS (run B N t₀ n adv (denZ (.call f args)) tab) mask=⟨PySem.W.R.bindR (PySem.W.ZFast.enterX 0) kk,tab',m,i,(run B N t₀ n adv (denZ (.call f args)) tab).ob.map (·.2)⟩)
 (K:∀h' N' t',Rep B N' h' tab' 0→wpAny (MB B) (A.under (.call f args)) (kk ()) (finPost B A R) (fun e s'=>R (.error e) s') ⟨h',gl,d,t',os⟩):
 codeAny (MB B) A (.call f args) R ⟨h,gl,d,t₀,os⟩:=by
 refine code_tree ?_
 generalize hx:run B N t₀ n adv (denZ (.call f args)) tab=x at e
 unfold viewS at e
 injection e with e1 e2 e3 e4 e5
 refine(ev_sound (V:=mkV B N t₀) (B:=B) n).T PySem.Fin _ _ _ _ tab 0 0 [] adv h gl d os x (mkV_ok B (A:=A.under (.call f args)) hh N t₀) Rp hx (Obs.of_map e5) fun h' R'=>?_
 rw[e1,←PySem.W.R.bindR_eq,←PySem.W.ZFast.enterX_eq]
 have hd':(A.under (.call f args)).depth<recursionLimit:=hd
 exact wpAny_bind (m:=enterFrame 0) (f:=kk) (wpAny_enterFrame (B.lim _ R'.inv) hd' (K h' (N+x.m) _ (e2▸(R'.sub (pick_sub _ mask)).flat)))
theorem mk_gen(x:W2)(A:Around)(hh:A.handled=none)(hA:A.depth<900)(R:Result→Shared→Prop)(l:List Nat)(ta:Nat)
 (N t:Nat) (h:Heap) (gl d os) (rest:Cells) (Rp:Rep x.B N h rest 0)
 (K:∀h' N' t' a F ka nm qn,Rep x.B N' h' ((a,GenO gl.size nm qn)::(F,geFr0 x l ka ta)::rest) 0→R (.ok (.ret (.ref a))) ⟨h',gl.push (.fresh (geBody x F)),d,t',os⟩):
 codeAny (MB x.B) A (.call (.ref 45) ⟨[.str (S l) ta],[]⟩) R ⟨h,gl,d,t,os⟩:=by
 refine enterK hh Rp (by first|assumption|(simp only[Around.under,Code.weight,recursionLimit] at*;omega)) 18 [0,0,5,1] [] (fun _=>newGenerator (.func (bodyOf (fdOf x.B 45)) (envOf (fdOf x.B 45) 45 (N+0))) (fdOf x.B 45).name (fdOf x.B 45).qualname >>= fun g=>ret g) ((N+0,⟨.type "frame",none,.dict #[En x.B n_addr (t+0) (.str (S l) ta)] 1,#[]⟩)::rest) 1 1 (by rfl') fun h1 N1 t1 Rp=>?_
 simp only[newGenerator,newFields]
 have q:=(Rp.push (o:=GenO gl.size (.str (fdOf x.B 45).name t1) (.str (fdOf x.B 45).qualname (t1+1))) rfl).flat
 have hs:=Rp.size
 refine wpAny_bind (wpAny_bind (wpAny_newGen (wpAny_bind (wpAny_mkText (wpAny_bind (wpAny_mkText (wpAny_newObj_type ?_ (by size_fits))))))))
 refine wpAny_pure ?_
 dsimp only[finPost]
 rw[hs]
 exact K _ _ _ _ _ _ _ _ q
structure GlAt (gl:Array GenState) (g:Nat) (gs:GenState):Prop where
 at':gl[g]? =some gs
 bare:AllBare gl
theorem bare_set{gl:Array GenState}{g:Nat}{gs:GenState}(h:AllBare gl)(hb:gs.bare=true):AllBare (gl.setIfInBounds g gs):=fun y hy=>by
 rcases Array.mem_or_eq_of_mem_setIfInBounds hy with h'|rfl
 ·exact h y h'
 ·exact hb
noncomputable def NextK(x:W2)(outs:List (Nat×List Nat))(a:Addr)(g:Nat)(nm qn:Value)(rest:Cells)(d:Drawn)(os:OsState)(R:Result→Shared→Prop):Prop:=match outs with
 |[]=>∀h' N' t' gl' a' e,AllBare gl'→Rep x.B N' h' ((e,StopO a')::rest) 0→R (.error (.ref e)) ⟨h',gl',d,t',os⟩
 |(i,w)::outs=>∀h' N' t' gl' a' u v gs' cs',GenP x outs gs' cs'→GlAt gl' g gs'→Rep x.B N' h' ((a',pairO i w u v)::(cs'++((a,GenO g nm qn)::rest))) 0→R (.ok (.ret (.ref a'))) ⟨h',gl',d,t',os⟩
theorem g_next(x:W2){outs:List (Nat×List Nat)}{gs:GenState}{cs:Cells}(A:Around)(hh:A.handled=none)(hA:A.depth<900)(R:Result→Shared→Prop)(a:Addr)(g:Nat)(nm qn:Value)(N t:Nat)(h:Heap)(gl:Array GenState)(d os)(rest:Cells)
 (Rp:Rep x.B N h (cs++((a,GenO g nm qn)::rest)) 0) (hg:GlAt gl g gs) (G:GenP x outs gs cs) (K:NextK x outs a g nm qn rest d os R):
 codeAny (MB x.B) A (.call (.builtin "generator.__next__") ⟨[.ref a],[]⟩) R ⟨h,gl,d,t,os⟩:=by
 obtain⟨hg,hbr⟩:=hg
 have ha:h.get? a=some (GenO g nm qn):=(Rp.cells _ (List.mem_append_right _ (.head _))).1
 have hgen:h.IsGen a g:=⟨_,nm,qn,ha,rfl,rfl,rfl⟩
 have hsz:g<gl.size:=by
  rcases Nat.lt_or_ge g gl.size with c|c
  ·exact c
  ·rw[Array.getElem?_eq_none c] at hg;cases hg
 refine codeAny_call_builtin slot_gen_next.plain entry_gen_next (slot_gen_next.check _ _ _ _ _ _ _ _ hgen.typeIs (args_gen_next _) ?_)
 show wpAny _ _ (Builtin.Generator.genWake (.ref a) (.send .none)) _ _ _
 unfold Builtin.Generator.genWake
 refine wpAny_bind (wpAny_holding (wpAny_genNumber hgen (wpAny_bind (wpAny_genState hg ?_))))
 have hd:A.in1.depth<recursionLimit:=by show A.depth<1000;exact oaF hA
 have key:∀P,Told x outs ((a,GenO g nm qn)::rest) (gl.setIfInBounds g .running) d os P→GoSeg x gs A.in1 ⟨h,gl.setIfInBounds g .running,d,t,os⟩ P:=fun P q=>G.go A.in1 hh N t h (gl.setIfInBounds g .running) d os ((a,GenO g nm qn)::rest) P Rp q
 have hset:∀gs',((gl.setIfInBounds g .running).setIfInBounds g gs')[g]? =some gs':=fun gs'=>by
  rw[Array.getElem?_setIfInBounds_self_of_lt (by rw[Array.size_setIfInBounds];exact hsz)]
 have told0:Told x outs ((a,GenO g nm qn)::rest) (gl.setIfInBounds g .running) d os (fun _ _=>True):=by
  cases outs with
  |nil=>exact fun _ _ _ _=>True.intro
  |cons o outs=>exact fun _ _ _ _ _ _ _ _ _ _ _ _ _ _ _=>True.intro
 cases gs with
 |running=>exact(key (fun _ _=>True) told0).elim
 |finished=>exact(key (fun _ _=>True) told0).elim
 |fresh c=>
  refine wpAny_bind (wpAny_roomToWake (x.B.lim _ Rp.inv) hd ?_)
  show wpAny _ _ (.resume g (.send .none) [] _) _ _ _
  intro Γ p hΓ
  refine wake_any _ x.B.prog x.B.w hg (.inl ⟨rfl,rfl,rfl,rfl⟩) (fun Γ=>Γ.In A.in1) (fun _ q=>q) ?_ Γ p hΓ
  rw[denZ_eq]
  show GoSeg x (.fresh c) A.in1 ⟨h,gl.setIfInBounds g .running,d,t,os⟩ _
  refine key _ ?_
  clear key
  cases outs with
  |nil=>
   intro h' N' t' Rp'
   show wpAny (MB x.B) A.in1 (newExc (.type "StopIteration") [] >>= _) _ _ ⟨h',_,d,t',os⟩
   have hs:=Rp'.size
   have q:=((Rp'.push (o:=⟨.type "tuple",none,.seq #[] 0,#[]⟩) rfl).push (o:=StopO N') rfl).flat
   refine wpAny_bind ?_
   simp only[newExc,newTuple]
   refine wpAny_bind (wpAny_newObj_type ?_ (by size_fits))
   refine wpAny_bind (m:=firstArgMember _ _) (wpAny_of_eq (a:=Value.none) (by first|rfl|(simp only[firstArgMember];rfl)) ?_)
   refine wpAny_newObj_type ?_ (by size_fits)
   simp only[raiseNew]
   refine wpAny_bind (wpAny_bind (wpAny_handled ?_))
   rw[show A.in1.handled=none from hh]
   refine wpAny_throw ?_
   rw[Heap.size_push,hs]
   exact K _ _ _ _ _ _ (bare_set (bare_set hbr rfl) rfl) (q.sub (.cons_cons _ (.cons _ (.cons _ (.refl _)))))
  |cons o outs=>
   intro h' N' t' a' u v ll kk c' p' fs' cs' hb hG Rp'
   show wpAny (MB x.B) A.in1 (ret (.ref a')) _ _ ⟨h',_,d,t',os⟩
   exact wpAny_pure (K _ _ _ _ _ _ _ _ _ hG ⟨hset _,bare_set (bare_set hbr rfl) hb⟩ Rp')
 |suspended k l c p₀ fs cl=>
  refine wpAny_bind (wpAny_roomToWake (x.B.lim _ Rp.inv) hd ?_)
  show wpAny _ _ (.resume g (.send .none) [] _) _ _ _
  intro Γ p hΓ
  refine wake_any _ x.B.prog x.B.w hg (.inr ⟨k,l,p₀,cl,rfl,rfl⟩) (fun Γ=>Γ.In A.in1) (fun _ q=>q) ?_ Γ p hΓ
  show GoSeg x (.suspended k l c p₀ fs cl) A.in1 ⟨h,gl.setIfInBounds g .running,d,t,os⟩ _
  refine key _ ?_
  clear key
  cases outs with
  |nil=>
   intro h' N' t' Rp'
   show wpAny (MB x.B) A.in1 (newExc (.type "StopIteration") [] >>= _) _ _ ⟨h',_,d,t',os⟩
   have hs:=Rp'.size
   have q:=((Rp'.push (o:=⟨.type "tuple",none,.seq #[] 0,#[]⟩) rfl).push (o:=StopO N') rfl).flat
   refine wpAny_bind ?_
   simp only[newExc,newTuple]
   refine wpAny_bind (wpAny_newObj_type ?_ (by size_fits))
   refine wpAny_bind (m:=firstArgMember _ _) (wpAny_of_eq (a:=Value.none) (by first|rfl|(simp only[firstArgMember];rfl)) ?_)
   refine wpAny_newObj_type ?_ (by size_fits)
   simp only[raiseNew]
   refine wpAny_bind (wpAny_bind (wpAny_handled ?_))
   rw[show A.in1.handled=none from hh]
   refine wpAny_throw ?_
   rw[Heap.size_push,hs]
   exact K _ _ _ _ _ _ (bare_set (bare_set hbr rfl) rfl) (q.sub (.cons_cons _ (.cons _ (.cons _ (.refl _)))))
  |cons o outs=>
   intro h' N' t' a' u v ll kk c' p' fs' cs' hb hG Rp'
   show wpAny (MB x.B) A.in1 (ret (.ref a')) _ _ ⟨h',_,d,t',os⟩
   exact wpAny_pure (K _ _ _ _ _ _ _ _ _ hG ⟨hset _,bare_set (bare_set hbr rfl) hb⟩ Rp')
theorem perm_gen{fs cs r:Cells}{g:Addr×Obj}:(fs++(g::(cs++r))).Perm (cs++(g::(fs++r))):=by
 have h1:fs++(g::(cs++r))=(fs++([g]++cs))++r:=by simp
 have h2:cs++(g::(fs++r))=((cs++[g])++fs)++r:=by simp
 rw[h1,h2]
 exact((List.perm_append_comm (l₁:=fs) (l₂:=[g]++cs)).trans ((List.perm_append_comm (l₁:=[g]) (l₂:=cs)).append_right fs)).append_right r
noncomputable def NextK2(x:W2)(outs:List (Nat×List Nat))(fs:Cells)(a:Addr)(g:Nat)(nm qn:Value)(rest:Cells)(d:Drawn)(os:OsState)(R:Result→Shared→Prop):Prop:=match outs with
 |[]=>∀h' N' t' gl' a' e,AllBare gl'→Rep x.B N' h' ((e,StopO a')::(fs++rest)) 0→R (.error (.ref e)) ⟨h',gl',d,t',os⟩
 |(i,w)::outs=>∀h' N' t' gl' a' u v gs' cs',GenP x outs gs' cs'→GlAt gl' g gs'→Rep x.B N' h' ((a',pairO i w u v)::(fs++((a,GenO g nm qn)::(cs'++rest)))) 0→R (.ok (.ret (.ref a'))) ⟨h',gl',d,t',os⟩
theorem g_next2(x:W2){outs:List (Nat×List Nat)}{gs:GenState}{cs:Cells}(fs:Cells)(A:Around)(hh:A.handled=none)(hA:A.depth<900)(R:Result→Shared→Prop)(a:Addr)(g:Nat)(nm qn:Value)(N t:Nat)(h:Heap)(gl:Array GenState)(d os)(rest:Cells)
 (Rp:Rep x.B N h (fs++((a,GenO g nm qn)::(cs++rest))) 0) (hg:GlAt gl g gs) (G:GenP x outs gs cs) (K:NextK2 x outs fs a g nm qn rest d os R):
 codeAny (MB x.B) A (.call (.builtin "generator.__next__") ⟨[.ref a],[]⟩) R ⟨h,gl,d,t,os⟩:=by
 refine g_next x A hh hA R a g nm qn N t h gl d os (fs++rest) (Rp.perm perm_gen) hg G ?_
 cases outs with
 |nil=>exact K
 |cons o outs=>exact fun h' N' t' gl' a' u v gs' cs' G' hg' Rp'=>K h' N' t' gl' a' u v gs' cs' G' hg' (Rp'.perm (.cons _ perm_gen.symm))
end Mine
namespace Mine
open PySem PySem.W PySem.W.X PyProof.Rows PySem.Calls
section
variable {B:Base} {A:Around} {R:Result→Shared→Prop} {h:Heap} {gl:Array GenState} {d:Drawn} {t:Nat} {os:OsState} {N m u v j:Nat} {tab tab':Cells} {l l':List Nat} {sl:Addr}
theorem s_contains{r:Bool}(e:(!(Builtin.Str.occurrences (S l) (S l') 0 (S l).length 1).isEmpty)=r)(K:R (.ok (.ret (.bool r))) ⟨h,gl,d,t,os⟩):codeAny (MB B) A (.call (.builtin "str.__contains__") ⟨[.str (S l) u,.str (S l') v],[]⟩) R ⟨h,gl,d,t,os⟩:=by
 subst e
 exact gvc F.slot_str_contains rfl F.entry_str_contains (F.args_str_contains_2 _ _) (gives_str_contains _ _ _ _) K
theorem s_contains'{r:Bool}(e:(!(Builtin.Str.occurrences (S l) (S l') 0 (S l).length 1).isEmpty)=r):(⟨(.call (.builtin "str.__contains__") ⟨[.str (S l) u,.str (S l') v],[]⟩),fun t=>((.bool r)),0⟩:Ans).Ok B.prog B.w:=fun _ _ _ _ _ _ _ K=>s_contains e K
theorem gf{id:String}{b:Builtin}{args:List Value}{s:Shared}(hk:builtinKind id=none)(hp:plainId id=true)(hb:entryFor table id=some b)(ha:argsOk id ⟨args,[]⟩)
 (hc:wpAny (MB B) A.in1 (b ⟨args,[]⟩) (fun fin s'=>∃v,fin=.done (.ret v)∧R (.ok (.ret v)) s') (fun e s'=>R (.error e) s') s):codeAny (MB B) A (.call (.builtin id) ⟨args,[]⟩) R s:=by
 refine codeAny_call_builtin hp hb ?_
 have hfin:=wpAny_mono hc (Q':=fun fin s'=>match fin with
  | .done f=>R (.ok f) s'
  | .again c'=>c'.quiet=true∧codeAny (MB B) A c' R s')
  (fun fin s' h'=>by obtain⟨v,rfl,hv⟩:=h';exact hv) fun _ _ h'=>h'
 simp only[checkBuiltinCall,hk]
 cases hsig:Manifest.signature? id with
 |none=>exact wpAny_pure hfin
 |some sig=>
  have ha':Bind.checkArgs id sig ⟨args,[]⟩=pure ():=by simpa only[argsOk,hsig] using ha
  first
   |exact wpAny_onRaise (wpAny_of_eq ha' hfin)
   |exact wpAny_of_eq ha' hfin
theorem s_len{c:Int}(e:(l.length:Int)=c)(hc:c<2^63)(K:R (.ok (.ret (.int c (t+1)))) ⟨h,gl,d,t+2,os⟩):codeAny (MB B) A (.call (.builtin "len") ⟨[.str (S l) u],[]⟩) R ⟨h,gl,d,t,os⟩:=by
 subst e
 refine gf kind_len plain_len entry_len (args_len1 _) ?_
 unfold Builtin.«len»
 refine wpAny_bind (m:=oneArg "len" _) (wpAny_pure ?_)
 refine wpAny_bind (m:=callSpecial? _ (Str.ofString "__len__")) (wpAny_callSpecial?_slot (name:=Str.ofString "__len__") (T:="str") rfl F.slot_str_len (call_gives F.slot_str_len rfl F.entry_str_len (F.args_str_len_1 _) (gives_str_len (S l) u) ?_))
 refine wpAny_bind (wpAny_holding (wpAny_pure ?_))
 refine wpAny_bind (wpAny_letGo ?_)
 show wpAny _ _ (if(l.length:Int)<0 then _ else _) _ _ _
 rw[if_neg (by exact oda)]
 show wpAny _ _ (if(l.length:Int)≥2^63 then _ else _) _ _ _
 rw[if_neg (by omega)]
 exact wpAny_bind (wpAny_mkInt (wpAny_pure ⟨_,rfl,K⟩))
theorem s_len'{c:Int}(e:(l.length:Int)=c)(hc:c<2^63):(⟨(.call (.builtin "len") ⟨[.str (S l) u],[]⟩),fun t=>((.int c (t+1))),2⟩:Ans).Ok B.prog B.w:=fun _ _ _ _ _ _ _ K=>s_len e hc K
noncomputable def cutL(l:List Nat)(lo hi:Option Int):List Nat:=
 let p:=Builtin.Str.strSliceIndices lo hi 1 l.length
 if p.length==l.length then l else p.filterMap (l[·]?)
theorem s_slice(hl:l.length≤2^20)(Rp:Rep B N h tab 0)(i:Nat)(lo hi:Option (Int×Tok))(hx:nth tab i=some (sl,⟨.type "slice",none,.fields #[partValue lo,partValue hi,.none],#[]⟩))
 (K:∀t' tok,R (.ok (.ret (.str (S (cutL l (lo.map (·.1)) (hi.map (·.1)))) tok))) ⟨h,gl,d,t',os⟩):codeAny (MB B) A (.call (.builtin "str.__getitem__") ⟨[.str (S l) u,.ref sl],[]⟩) R ⟨h,gl,d,t,os⟩:=by
 have hs:=Rp.at hx
 refine gm F.slot_str_getitem rfl F.entry_str_getitem (F.args_str_getitem_2 _ _) (meets_str_getitem_slice (S l) u sl lo hi none rfl) ⟨⟨_,hs,rfl,rfl⟩,?_⟩
 unfold sliceMade slicePicked
 show Made.post (if((1:Int)==1&&(Builtin.Str.strSliceIndices (lo.map (·.1)) (hi.map (·.1)) 1 l.length).length==l.length)=true then _ else _) _ _
 by_cases c:((1:Int)==1&&(Builtin.Str.strSliceIndices (lo.map (·.1)) (hi.map (·.1)) 1 l.length).length==l.length)=true
 ·rw[if_pos c]
  have c':((Builtin.Str.strSliceIndices (lo.map (·.1)) (hi.map (·.1)) 1 l.length).length==l.length)=true:=by simpa using c
  have k:=K t u
  unfold cutL at k
  dsimp only at k
  rw[if_pos c'] at k
  exact k
 ·rw[if_neg c]
  have c':¬((Builtin.Str.strSliceIndices (lo.map (·.1)) (hi.map (·.1)) 1 l.length).length==l.length)=true:=by simpa using c
  have k:=K (t+1) t
  unfold cutL at k
  dsimp only at k
  rw[if_neg c'] at k
  have e:S (List.filterMap (fun x=>l[x]?) (Builtin.Str.strSliceIndices (lo.map (·.1)) (hi.map (·.1)) 1 l.length))=⟨(List.filterMap (fun x=>(S l).cps[x]?) (Builtin.Str.strSliceIndices (lo.map (·.1)) (hi.map (·.1)) 1 l.length)).toArray⟩:=by
   unfold S
   simp
  rw[e] at k
  have e2:(S l).length=l.length:=by show Array.size ⟨l⟩=_;simp
  rw[e2]
  refine⟨?_,k⟩
  have h1:=List.length_filterMap_le (fun x=>(S l).cps[x]?) (Builtin.Str.strSliceIndices (lo.map (·.1)) (hi.map (·.1)) 1 l.length)
  have h2:=sliceIndices_le (lo.map (·.1)) (hi.map (·.1)) l.length
  show Array.size _≤_
  rw[List.size_toArray]
  refine Nat.le_trans (Nat.le_trans h1 h2) (Nat.le_trans hl ?_)
  unfold sizeLine
  decide
noncomputable def joinL(ws:List (List Nat)):List Nat:=match ws with
 |[w]=>w
 |_=>(Builtin.Str.glued (S []) (ws.map S)).cps.toList
theorem S_toList(x:Str):S x.cps.toList=x:=by
 cases x;rfl
theorem s_join(Rp:Rep B N h tab 0)(i n:Nat)(ws:List (List Nat×Nat))(a:Addr)(hx:nth tab i=some (a,Lst ((ws.map fun p=>Value.str (S p.1) p.2).toArray) n))(hz:(joinL (ws.map (·.1))).length≤2^20)
 (hz2:Builtin.Str.tooLong (((ws.map fun p=>(S p.1,p.2)).map (·.1)).toArray.foldl (·+·.length+(S []).length) 0)=false)
 (K:∀t' tok,R (.ok (.ret (.str (S (joinL (ws.map (·.1)))) tok))) ⟨h,gl,d,t',os⟩):codeAny (MB B) A (.call (.builtin "str.join") ⟨[.str (S []) u,.ref a],[]⟩) R ⟨h,gl,d,t,os⟩:=by
 have hs:=Rp.at hx
 have e:(strValues (ws.map fun p=>(S p.1,p.2)))=ws.map fun p=>Value.str (S p.1) p.2:=by unfold strValues;simp
 refine gm F.slot_str_join rfl F.entry_str_join (F.args_str_join_2 _ _) (meets_str_join_list (S []) u a (ws.map fun p=>(S p.1,p.2)) hz2) ⟨⟨_,hs,rfl,n,by rw[e]⟩,?_⟩
 match ws,hz,K with
 |[w],_,K=>exact K t w.2
 |[],hz,K=>
  have k:=K (t+1) t
  unfold joinL at k
  simp only[List.map_nil] at k
  rw[S_toList] at k
  exact⟨by decide+kernel,k⟩
 |a::b::r,hz,K=>
  have k:=K (t+1) t
  unfold joinL at k hz
  simp only[List.map_cons] at k hz
  rw[S_toList] at k
  have em:List.map (fun x=>x.1) ((S a.1,a.2)::List.map (fun p:List Nat×Nat=>(S p.1,p.2)) (b::r))=S a.1::S b.1::List.map S (List.map (·.1) r):=by simp
  show _∧_
  dsimp only
  rw[em]
  refine⟨?_,k⟩
  rw[Array.length_toList] at hz
  exact Nat.le_trans hz (by unfold sizeLine;decide)
end
end Mine
namespace Mine
open PySem PySem.W PySem.W.X PyProof.Rows PySem.Spec PySem.Calls
noncomputable abbrev cpLoop(x:W2)(F a:Addr):Code:=loopOf (stmtAt x.B 59 2) (.ref a) (envOf (fdOf x.B 59) 59 F)
noncomputable def cpFr(x:W2)(ka kb tk:Nat)(va:Value)(k:Int)(more:List DictEntry)(n:Nat):Obj:=⟨.type "frame",none,.dict (#[En x.B n_addr ka va,En x.B n_opens kb (.int k tk)]++more.toArray) n,#[]⟩
noncomputable def parL:Int→List (Nat×List Nat)→Option Int
 |k,[]=>some k
 |k,(_,w)::r=>if w=[40] then parL (k+1) r else if w=[41] then(if k-1<0 then none else parL (k-1) r) else parL k r
theorem cp_o0(x:W2)(A:Around)(hh:A.handled=none)(hA:A.depth<800)(R:Result→Shared→Prop)(F a:Addr)(g:Nat)(nm qn va:Value)(k:Int)(ka kb tk:Nat)(i:Nat)(w:List Nat)(outs:List (Nat×List Nat))(gs:GenState)(cs:Cells)(G:GenP x ((i,w)::outs) gs cs)
 (hw1:w=[40])
 (N t:Nat) (h:Heap) (gl:Array GenState) (hg:GlAt gl g gs) (d os) (rest:Cells)
 (Rp:Rep x.B N h ((F,cpFr x ka kb tk va k [] 2)::(a,GenO g nm qn)::(cs++rest)) 0)
 (K:∀h' N' t' gl' gs' cs' q1 q2 v1 v2 tk,GenP x outs gs' cs'→GlAt gl' g gs'→Rep x.B N' h' ((F,cpFr x ka kb tk va (k+1) [En x.B n_pos q1 v1,En x.B n_ch q2 v2] 4)::(a,GenO g nm qn)::(cs'++rest)) 0→codeAny (MB x.B) A (cpLoop x F a) R ⟨h',gl',d,t',os⟩):codeAny (MB x.B) A (cpLoop x F a) R ⟨h,gl,d,t,os⟩:=by
 dsimp only[cpFr] at Rp
 refine code_tree ?_
 refine seg_call hh Rp 13 [6] [true,true] (.call (.builtin "generator.__next__") ⟨[.ref a],[]⟩) ((F,⟨.type "frame",none,.dict #[En x.B n_addr ka (va),En x.B n_opens kb (.int (k) tk)] 2,#[]⟩)::(a,⟨.type "generator",none,.fields #[.int ((↑g:Int)) 0,nm,qn],#[]⟩)::cs++rest) 0 0 (by rfl') fun h1 N1 t1 Rp=>?_
 refine g_next2 x [_] (A.under _) hh (by show A.depth+0<900;exact oae hA) _ a g nm qn _ _ _ _ _ _ _ Rp hg G fun h8 N8 t8 gl' a8 u8 v8 gs' cs' G' hg' Rp=>?_
 dsimp only[List.cons_append,List.nil_append,pairO] at Rp
 refine seg_valA hh Rp [⟨.call (.builtin "str.__eq__") ⟨[.str (S w) v8,.str (S [40]) (t8+2)],[]⟩,fun _=>.bool true,0⟩] 94 [7,5,5,5,0,5,5,5,0,5,5,5,6,5,1,5,0,5,5,5,6,5,1,5,0,5,5,5,6,5,1,5,9,5,9,5,9,1,9,0,9,5] [false,false,false,false,true,true] (Fin.again (loopOf (stmtAt x.B 59 2) (.ref a) (envOf (fdOf x.B 59) 59 F))) ((F,⟨.type "frame",none,.dict #[En x.B n_addr ka (va),En x.B n_opens kb (.int (k+1) (t8+4)),En x.B n_pos (t8+0) (.int ((↑i:Int)) u8),En x.B n_ch (t8+1) (.str (S w) v8)] 4,#[]⟩)::(a,⟨.type "generator",none,.fields #[.int ((↑g:Int)) 0,nm,qn],#[]⟩)::cs'++rest) 3 6 (by rfl') (aC (s_eq' (l:=(w)) (l':=[40]) (by first|rfl|(simp[*];done)|(simp;omega))) aN) fun h2 N2 t2 Rp=>?_
 exact⟨rfl,K _ _ _ _ _ _ _ _ _ _ _ G' hg' Rp⟩
theorem cp_f0(x:W2)(A:Around)(hh:A.handled=none)(hA:A.depth<800)(R:Result→Shared→Prop)(F a:Addr)(g:Nat)(nm qn va:Value)(k:Int)(ka kb tk:Nat)(i:Nat)(w:List Nat)(outs:List (Nat×List Nat))(gs:GenState)(cs:Cells)(G:GenP x ((i,w)::outs) gs cs)
 (hw1:w=[41]) (hk:k<1)
 (N t:Nat) (h:Heap) (gl:Array GenState) (hg:GlAt gl g gs) (d os) (rest:Cells)
 (Rp:Rep x.B N h ((F,cpFr x ka kb tk va k [] 2)::(a,GenO g nm qn)::(cs++rest)) 0)
 (K:∀h' N' t' gl',AllBare gl'→Rep x.B N' h' rest 0→R (.ok (.ret (.bool false))) ⟨h',gl',d,t',os⟩):codeAny (MB x.B) A (cpLoop x F a) R ⟨h,gl,d,t,os⟩:=by
 dsimp only[cpFr] at Rp
 refine code_tree ?_
 refine seg_call hh Rp 13 [6] [true,true] (.call (.builtin "generator.__next__") ⟨[.ref a],[]⟩) ((F,⟨.type "frame",none,.dict #[En x.B n_addr ka (va),En x.B n_opens kb (.int (k) tk)] 2,#[]⟩)::(a,⟨.type "generator",none,.fields #[.int ((↑g:Int)) 0,nm,qn],#[]⟩)::cs++rest) 0 0 (by rfl') fun h1 N1 t1 Rp=>?_
 refine g_next2 x [_] (A.under _) hh (by show A.depth+0<900;exact oae hA) _ a g nm qn _ _ _ _ _ _ _ Rp hg G fun h8 N8 t8 gl' a8 u8 v8 gs' cs' G' hg' Rp=>?_
 dsimp only[List.cons_append,List.nil_append,pairO] at Rp
 refine seg_valA hh Rp [⟨.call (.builtin "str.__eq__") ⟨[.str (S w) v8,.str (S [40]) (t8+2)],[]⟩,fun _=>.bool false,0⟩,⟨.call (.builtin "str.__eq__") ⟨[.str (S w) v8,.str (S [41]) (t8+3)],[]⟩,fun _=>.bool true,0⟩,⟨.call (.builtin "int.__lt__") ⟨[.int (k-1) (t8+5),.int 0 (t8+7)],[]⟩,fun _=>.bool true,0⟩] 109 [7,5,5,5,0,5,5,5,0,5,5,5,6,5,1,5,0,5,5,5,6,5,1,5,0,5,5,5,6,5,1,5,9,5,9,5,9,1,9,2,9,0,9,5,9,3] [false,false,false,false,false,false] (Fin.done (Flow.ret (.bool false))) (cs'++rest) 3 8 (by rfl') (aC (s_eq' (l:=(w)) (l':=[40]) (by first|rfl|(simp[*];done)|(simp;omega))) (aC (s_eq' (l:=(w)) (l':=[41]) (by first|rfl|(simp[*];done)|(simp;omega))) (aC (i_lt' (decide_eq_true (by exact ofZ hk))) aN))) fun h2 N2 t2 Rp=>?_
 exact K _ _ _ _ hg'.bare (Rp.sub (List.sublist_append_right _ _))
theorem cp_n0(x:W2)(A:Around)(hh:A.handled=none)(hA:A.depth<800)(R:Result→Shared→Prop)(F a:Addr)(g:Nat)(nm qn va:Value)(k:Int)(ka kb tk:Nat)(i:Nat)(w:List Nat)(outs:List (Nat×List Nat))(gs:GenState)(cs:Cells)(G:GenP x ((i,w)::outs) gs cs)
 (hw1:w≠[40]) (hw2:w≠[41])
 (N t:Nat) (h:Heap) (gl:Array GenState) (hg:GlAt gl g gs) (d os) (rest:Cells)
 (Rp:Rep x.B N h ((F,cpFr x ka kb tk va k [] 2)::(a,GenO g nm qn)::(cs++rest)) 0)
 (K:∀h' N' t' gl' gs' cs' q1 q2 v1 v2 tk,GenP x outs gs' cs'→GlAt gl' g gs'→Rep x.B N' h' ((F,cpFr x ka kb tk va k [En x.B n_pos q1 v1,En x.B n_ch q2 v2] 4)::(a,GenO g nm qn)::(cs'++rest)) 0→codeAny (MB x.B) A (cpLoop x F a) R ⟨h',gl',d,t',os⟩):codeAny (MB x.B) A (cpLoop x F a) R ⟨h,gl,d,t,os⟩:=by
 dsimp only[cpFr] at Rp
 refine code_tree ?_
 refine seg_call hh Rp 13 [6] [true,true] (.call (.builtin "generator.__next__") ⟨[.ref a],[]⟩) ((F,⟨.type "frame",none,.dict #[En x.B n_addr ka (va),En x.B n_opens kb (.int (k) tk)] 2,#[]⟩)::(a,⟨.type "generator",none,.fields #[.int ((↑g:Int)) 0,nm,qn],#[]⟩)::cs++rest) 0 0 (by rfl') fun h1 N1 t1 Rp=>?_
 refine g_next2 x [_] (A.under _) hh (by show A.depth+0<900;exact oae hA) _ a g nm qn _ _ _ _ _ _ _ Rp hg G fun h8 N8 t8 gl' a8 u8 v8 gs' cs' G' hg' Rp=>?_
 dsimp only[List.cons_append,List.nil_append,pairO] at Rp
 refine seg_valA hh Rp [⟨.call (.builtin "str.__eq__") ⟨[.str (S w) v8,.str (S [40]) (t8+2)],[]⟩,fun _=>.bool false,0⟩,⟨.call (.builtin "str.__eq__") ⟨[.str (S w) v8,.str (S [41]) (t8+3)],[]⟩,fun _=>.bool false,0⟩] 86 [7,5,5,5,0,5,5,5,0,5,5,5,6,5,1,5,0,5,5,5,6,5,1,5,0,5,5,5,6,5,1,5,9,5,9,5,9,1,9,2] [false,false,false,false,true,true] (Fin.again (loopOf (stmtAt x.B 59 2) (.ref a) (envOf (fdOf x.B 59) 59 F))) ((F,⟨.type "frame",none,.dict #[En x.B n_addr ka (va),En x.B n_opens kb (.int (k) tk),En x.B n_pos (t8+0) (.int ((↑i:Int)) u8),En x.B n_ch (t8+1) (.str (S w) v8)] 4,#[]⟩)::(a,⟨.type "generator",none,.fields #[.int ((↑g:Int)) 0,nm,qn],#[]⟩)::cs'++rest) 3 4 (by rfl') (aC (s_eq' (l:=(w)) (l':=[40]) (by first|rfl|(simp[*];done)|(simp;omega))) (aC (s_eq' (l:=(w)) (l':=[41]) (by first|rfl|(simp[*];done)|(simp;omega))) aN)) fun h2 N2 t2 Rp=>?_
 exact⟨rfl,K _ _ _ _ _ _ _ _ _ _ _ G' hg' Rp⟩
theorem cp_o(x:W2)(A:Around)(hh:A.handled=none)(hA:A.depth<800)(R:Result→Shared→Prop)(F a:Addr)(g:Nat)(nm qn va:Value)(k:Int)(ka kb tk:Nat)(q1 q2:Nat)(v1 v2:Value)(i:Nat)(w:List Nat)(outs:List (Nat×List Nat))(gs:GenState)(cs:Cells)(G:GenP x ((i,w)::outs) gs cs)
 (hw1:w=[40])
 (N t:Nat) (h:Heap) (gl:Array GenState) (hg:GlAt gl g gs) (d os) (rest:Cells)
 (Rp:Rep x.B N h ((F,cpFr x ka kb tk va k [En x.B n_pos q1 v1,En x.B n_ch q2 v2] 4)::(a,GenO g nm qn)::(cs++rest)) 0)
 (K:∀h' N' t' gl' gs' cs' q1 q2 v1 v2 tk,GenP x outs gs' cs'→GlAt gl' g gs'→Rep x.B N' h' ((F,cpFr x ka kb tk va (k+1) [En x.B n_pos q1 v1,En x.B n_ch q2 v2] 4)::(a,GenO g nm qn)::(cs'++rest)) 0→codeAny (MB x.B) A (cpLoop x F a) R ⟨h',gl',d,t',os⟩):codeAny (MB x.B) A (cpLoop x F a) R ⟨h,gl,d,t,os⟩:=by
 dsimp only[cpFr] at Rp
 refine code_tree ?_
 refine seg_call hh Rp 13 [6] [true,true] (.call (.builtin "generator.__next__") ⟨[.ref a],[]⟩) ((F,⟨.type "frame",none,.dict #[En x.B n_addr ka (va),En x.B n_opens kb (.int (k) tk),En x.B n_pos q1 (v1),En x.B n_ch q2 (v2)] 4,#[]⟩)::(a,⟨.type "generator",none,.fields #[.int ((↑g:Int)) 0,nm,qn],#[]⟩)::cs++rest) 0 0 (by rfl') fun h1 N1 t1 Rp=>?_
 refine g_next2 x [_] (A.under _) hh (by show A.depth+0<900;exact oae hA) _ a g nm qn _ _ _ _ _ _ _ Rp hg G fun h8 N8 t8 gl' a8 u8 v8 gs' cs' G' hg' Rp=>?_
 dsimp only[List.cons_append,List.nil_append,pairO] at Rp
 refine seg_valA hh Rp [⟨.call (.builtin "str.__eq__") ⟨[.str (S w) v8,.str (S [40]) (t8+2)],[]⟩,fun _=>.bool true,0⟩] 94 [7,5,5,5,0,5,5,5,0,5,5,5,6,5,1,5,0,5,5,5,6,5,1,5,0,5,5,5,6,5,1,5,9,5,9,5,9,1,9,0,9,5] [false,false,false,false,true,true] (Fin.again (loopOf (stmtAt x.B 59 2) (.ref a) (envOf (fdOf x.B 59) 59 F))) ((F,⟨.type "frame",none,.dict #[En x.B n_addr ka (va),En x.B n_opens kb (.int (k+1) (t8+4)),En x.B n_pos q1 (.int ((↑i:Int)) u8),En x.B n_ch q2 (.str (S w) v8)] 4,#[]⟩)::(a,⟨.type "generator",none,.fields #[.int ((↑g:Int)) 0,nm,qn],#[]⟩)::cs'++rest) 3 6 (by rfl') (aC (s_eq' (l:=(w)) (l':=[40]) (by first|rfl|(simp[*];done)|(simp;omega))) aN) fun h2 N2 t2 Rp=>?_
 exact⟨rfl,K _ _ _ _ _ _ _ _ _ _ _ G' hg' Rp⟩
theorem cp_c(x:W2)(A:Around)(hh:A.handled=none)(hA:A.depth<800)(R:Result→Shared→Prop)(F a:Addr)(g:Nat)(nm qn va:Value)(k:Int)(ka kb tk:Nat)(q1 q2:Nat)(v1 v2:Value)(i:Nat)(w:List Nat)(outs:List (Nat×List Nat))(gs:GenState)(cs:Cells)(G:GenP x ((i,w)::outs) gs cs)
 (hw1:w=[41]) (hk:1≤k)
 (N t:Nat) (h:Heap) (gl:Array GenState) (hg:GlAt gl g gs) (d os) (rest:Cells)
 (Rp:Rep x.B N h ((F,cpFr x ka kb tk va k [En x.B n_pos q1 v1,En x.B n_ch q2 v2] 4)::(a,GenO g nm qn)::(cs++rest)) 0)
 (K:∀h' N' t' gl' gs' cs' q1 q2 v1 v2 tk,GenP x outs gs' cs'→GlAt gl' g gs'→Rep x.B N' h' ((F,cpFr x ka kb tk va (k-1) [En x.B n_pos q1 v1,En x.B n_ch q2 v2] 4)::(a,GenO g nm qn)::(cs'++rest)) 0→codeAny (MB x.B) A (cpLoop x F a) R ⟨h',gl',d,t',os⟩):codeAny (MB x.B) A (cpLoop x F a) R ⟨h,gl,d,t,os⟩:=by
 dsimp only[cpFr] at Rp
 refine code_tree ?_
 refine seg_call hh Rp 13 [6] [true,true] (.call (.builtin "generator.__next__") ⟨[.ref a],[]⟩) ((F,⟨.type "frame",none,.dict #[En x.B n_addr ka (va),En x.B n_opens kb (.int (k) tk),En x.B n_pos q1 (v1),En x.B n_ch q2 (v2)] 4,#[]⟩)::(a,⟨.type "generator",none,.fields #[.int ((↑g:Int)) 0,nm,qn],#[]⟩)::cs++rest) 0 0 (by rfl') fun h1 N1 t1 Rp=>?_
 refine g_next2 x [_] (A.under _) hh (by show A.depth+0<900;exact oae hA) _ a g nm qn _ _ _ _ _ _ _ Rp hg G fun h8 N8 t8 gl' a8 u8 v8 gs' cs' G' hg' Rp=>?_
 dsimp only[List.cons_append,List.nil_append,pairO] at Rp
 refine seg_valA hh Rp [⟨.call (.builtin "str.__eq__") ⟨[.str (S w) v8,.str (S [40]) (t8+2)],[]⟩,fun _=>.bool false,0⟩,⟨.call (.builtin "str.__eq__") ⟨[.str (S w) v8,.str (S [41]) (t8+3)],[]⟩,fun _=>.bool true,0⟩,⟨.call (.builtin "int.__lt__") ⟨[.int (k-1) (t8+5),.int 0 (t8+7)],[]⟩,fun _=>.bool false,0⟩] 108 [7,5,5,5,0,5,5,5,0,5,5,5,6,5,1,5,0,5,5,5,6,5,1,5,0,5,5,5,6,5,1,5,9,5,9,5,9,1,9,2,9,0,9,5,9,3] [false,false,false,false,true,true] (Fin.again (loopOf (stmtAt x.B 59 2) (.ref a) (envOf (fdOf x.B 59) 59 F))) ((F,⟨.type "frame",none,.dict #[En x.B n_addr ka (va),En x.B n_opens kb (.int (k-1) (t8+5)),En x.B n_pos q1 (.int ((↑i:Int)) u8),En x.B n_ch q2 (.str (S w) v8)] 4,#[]⟩)::(a,⟨.type "generator",none,.fields #[.int ((↑g:Int)) 0,nm,qn],#[]⟩)::cs'++rest) 3 8 (by rfl') (aC (s_eq' (l:=(w)) (l':=[40]) (by first|rfl|(simp[*];done)|(simp;omega))) (aC (s_eq' (l:=(w)) (l':=[41]) (by first|rfl|(simp[*];done)|(simp;omega))) (aC (i_lt' (decide_eq_false (by exact ofY hk))) aN))) fun h2 N2 t2 Rp=>?_
 exact⟨rfl,K _ _ _ _ _ _ _ _ _ _ _ G' hg' Rp⟩
theorem cp_f(x:W2)(A:Around)(hh:A.handled=none)(hA:A.depth<800)(R:Result→Shared→Prop)(F a:Addr)(g:Nat)(nm qn va:Value)(k:Int)(ka kb tk:Nat)(q1 q2:Nat)(v1 v2:Value)(i:Nat)(w:List Nat)(outs:List (Nat×List Nat))(gs:GenState)(cs:Cells)(G:GenP x ((i,w)::outs) gs cs)
 (hw1:w=[41]) (hk:k<1)
 (N t:Nat) (h:Heap) (gl:Array GenState) (hg:GlAt gl g gs) (d os) (rest:Cells)
 (Rp:Rep x.B N h ((F,cpFr x ka kb tk va k [En x.B n_pos q1 v1,En x.B n_ch q2 v2] 4)::(a,GenO g nm qn)::(cs++rest)) 0)
 (K:∀h' N' t' gl',AllBare gl'→Rep x.B N' h' rest 0→R (.ok (.ret (.bool false))) ⟨h',gl',d,t',os⟩):codeAny (MB x.B) A (cpLoop x F a) R ⟨h,gl,d,t,os⟩:=by
 dsimp only[cpFr] at Rp
 refine code_tree ?_
 refine seg_call hh Rp 13 [6] [true,true] (.call (.builtin "generator.__next__") ⟨[.ref a],[]⟩) ((F,⟨.type "frame",none,.dict #[En x.B n_addr ka (va),En x.B n_opens kb (.int (k) tk),En x.B n_pos q1 (v1),En x.B n_ch q2 (v2)] 4,#[]⟩)::(a,⟨.type "generator",none,.fields #[.int ((↑g:Int)) 0,nm,qn],#[]⟩)::cs++rest) 0 0 (by rfl') fun h1 N1 t1 Rp=>?_
 refine g_next2 x [_] (A.under _) hh (by show A.depth+0<900;exact oae hA) _ a g nm qn _ _ _ _ _ _ _ Rp hg G fun h8 N8 t8 gl' a8 u8 v8 gs' cs' G' hg' Rp=>?_
 dsimp only[List.cons_append,List.nil_append,pairO] at Rp
 refine seg_valA hh Rp [⟨.call (.builtin "str.__eq__") ⟨[.str (S w) v8,.str (S [40]) (t8+2)],[]⟩,fun _=>.bool false,0⟩,⟨.call (.builtin "str.__eq__") ⟨[.str (S w) v8,.str (S [41]) (t8+3)],[]⟩,fun _=>.bool true,0⟩,⟨.call (.builtin "int.__lt__") ⟨[.int (k-1) (t8+5),.int 0 (t8+7)],[]⟩,fun _=>.bool true,0⟩] 109 [7,5,5,5,0,5,5,5,0,5,5,5,6,5,1,5,0,5,5,5,6,5,1,5,0,5,5,5,6,5,1,5,9,5,9,5,9,1,9,2,9,0,9,5,9,3] [false,false,false,false,false,false] (Fin.done (Flow.ret (.bool false))) (cs'++rest) 3 8 (by rfl') (aC (s_eq' (l:=(w)) (l':=[40]) (by first|rfl|(simp[*];done)|(simp;omega))) (aC (s_eq' (l:=(w)) (l':=[41]) (by first|rfl|(simp[*];done)|(simp;omega))) (aC (i_lt' (decide_eq_true (by exact ofZ hk))) aN))) fun h2 N2 t2 Rp=>?_
 exact K _ _ _ _ hg'.bare (Rp.sub (List.sublist_append_right _ _))
theorem cp_n(x:W2)(A:Around)(hh:A.handled=none)(hA:A.depth<800)(R:Result→Shared→Prop)(F a:Addr)(g:Nat)(nm qn va:Value)(k:Int)(ka kb tk:Nat)(q1 q2:Nat)(v1 v2:Value)(i:Nat)(w:List Nat)(outs:List (Nat×List Nat))(gs:GenState)(cs:Cells)(G:GenP x ((i,w)::outs) gs cs)
 (hw1:w≠[40]) (hw2:w≠[41])
 (N t:Nat) (h:Heap) (gl:Array GenState) (hg:GlAt gl g gs) (d os) (rest:Cells)
 (Rp:Rep x.B N h ((F,cpFr x ka kb tk va k [En x.B n_pos q1 v1,En x.B n_ch q2 v2] 4)::(a,GenO g nm qn)::(cs++rest)) 0)
 (K:∀h' N' t' gl' gs' cs' q1 q2 v1 v2 tk,GenP x outs gs' cs'→GlAt gl' g gs'→Rep x.B N' h' ((F,cpFr x ka kb tk va k [En x.B n_pos q1 v1,En x.B n_ch q2 v2] 4)::(a,GenO g nm qn)::(cs'++rest)) 0→codeAny (MB x.B) A (cpLoop x F a) R ⟨h',gl',d,t',os⟩):codeAny (MB x.B) A (cpLoop x F a) R ⟨h,gl,d,t,os⟩:=by
 dsimp only[cpFr] at Rp
 refine code_tree ?_
 refine seg_call hh Rp 13 [6] [true,true] (.call (.builtin "generator.__next__") ⟨[.ref a],[]⟩) ((F,⟨.type "frame",none,.dict #[En x.B n_addr ka (va),En x.B n_opens kb (.int (k) tk),En x.B n_pos q1 (v1),En x.B n_ch q2 (v2)] 4,#[]⟩)::(a,⟨.type "generator",none,.fields #[.int ((↑g:Int)) 0,nm,qn],#[]⟩)::cs++rest) 0 0 (by rfl') fun h1 N1 t1 Rp=>?_
 refine g_next2 x [_] (A.under _) hh (by show A.depth+0<900;exact oae hA) _ a g nm qn _ _ _ _ _ _ _ Rp hg G fun h8 N8 t8 gl' a8 u8 v8 gs' cs' G' hg' Rp=>?_
 dsimp only[List.cons_append,List.nil_append,pairO] at Rp
 refine seg_valA hh Rp [⟨.call (.builtin "str.__eq__") ⟨[.str (S w) v8,.str (S [40]) (t8+2)],[]⟩,fun _=>.bool false,0⟩,⟨.call (.builtin "str.__eq__") ⟨[.str (S w) v8,.str (S [41]) (t8+3)],[]⟩,fun _=>.bool false,0⟩] 86 [7,5,5,5,0,5,5,5,0,5,5,5,6,5,1,5,0,5,5,5,6,5,1,5,0,5,5,5,6,5,1,5,9,5,9,5,9,1,9,2] [false,false,false,false,true,true] (Fin.again (loopOf (stmtAt x.B 59 2) (.ref a) (envOf (fdOf x.B 59) 59 F))) ((F,⟨.type "frame",none,.dict #[En x.B n_addr ka (va),En x.B n_opens kb (.int (k) tk),En x.B n_pos q1 (.int ((↑i:Int)) u8),En x.B n_ch q2 (.str (S w) v8)] 4,#[]⟩)::(a,⟨.type "generator",none,.fields #[.int ((↑g:Int)) 0,nm,qn],#[]⟩)::cs'++rest) 3 4 (by rfl') (aC (s_eq' (l:=(w)) (l':=[40]) (by first|rfl|(simp[*];done)|(simp;omega))) (aC (s_eq' (l:=(w)) (l':=[41]) (by first|rfl|(simp[*];done)|(simp;omega))) aN)) fun h2 N2 t2 Rp=>?_
 exact⟨rfl,K _ _ _ _ _ _ _ _ _ _ _ G' hg' Rp⟩
theorem cp_end(x:W2)(A:Around)(hh:A.handled=none)(hA:A.depth<800)(R:Result→Shared→Prop)(F a:Addr)(fo:Obj)(g:Nat)(nm qn:Value)(gs:GenState)(cs:Cells)(G:GenP x [] gs cs)
 (N t:Nat) (h:Heap) (gl:Array GenState) (hg:GlAt gl g gs) (d os) (rest:Cells)
 (Rp:Rep x.B N h ((F,fo)::(a,GenO g nm qn)::(cs++rest)) 0)
 (K:∀h' N' t' gl',AllBare gl'→Rep x.B N' h' ((F,fo)::rest) 0→R (.ok .next) ⟨h',gl',d,t',os⟩):codeAny (MB x.B) A (cpLoop x F a) R ⟨h,gl,d,t,os⟩:=by
 refine code_tree ?_
 refine seg_call hh Rp 13 [6] [true,true] (.call (.builtin "generator.__next__") ⟨[.ref a],[]⟩) ((F,fo)::(a,⟨.type "generator",none,.fields #[.int ((↑g:Int)) 0,nm,qn],#[]⟩)::cs++rest) 0 0 (by rfl') fun h1 N1 t1 Rp=>?_
 refine g_next2 x [_] (A.under _) hh (by show A.depth+0<900;exact oae hA) _ a g nm qn _ _ _ _ _ _ _ Rp hg G fun h8 N8 t8 gl' a8 e8 hbz Rp=>?_
 dsimp only[List.cons_append,List.nil_append] at Rp
 refine seg_val hh Rp 12 [5] [false,true] (Fin.again (.block [] (envOf (fdOf x.B 59) 59 F))) ((F,fo)::rest) 0 0 (by rfl') fun h2 N2 t2 Rp=>?_
 refine⟨rfl,?_⟩
 refine seg_code hh Rp [] 11 [] [true] (.ok .next) ((F,fo)::rest) 0 0 (by rfl') aN fun h3 N3 t3 Rp=>?_
 exact K _ _ _ _ hbz Rp
theorem cp_loop(x:W2)(A:Around)(hh:A.handled=none)(hA:A.depth<800)(R:Result→Shared→Prop)(F a:Addr)(g:Nat)(nm qn va:Value)(ka kb:Nat)(d os)(rest:Cells):∀(outs:List (Nat×List Nat)) (k:Int) (tk q1 q2:Nat) (v1 v2:Value) (gs:GenState) (cs:Cells) (_:GenP x outs gs cs)
 (N t:Nat) (h:Heap) (gl:Array GenState) (_:GlAt gl g gs)
 (_:Rep x.B N h ((F,cpFr x ka kb tk va k [En x.B n_pos q1 v1,En x.B n_ch q2 v2] 4)::(a,GenO g nm qn)::(cs++rest)) 0)
 (_:parL k outs=none→∀h' N' t' gl',AllBare gl'→Rep x.B N' h' rest 0→R (.ok (.ret (.bool false))) ⟨h',gl',d,t',os⟩)
 (_:∀k',parL k outs=some k'→∀h' N' t' gl' tk q1 q2 v1 v2,AllBare gl'→Rep x.B N' h' ((F,cpFr x ka kb tk va k' [En x.B n_pos q1 v1,En x.B n_ch q2 v2] 4)::rest) 0→R (.ok .next) ⟨h',gl',d,t',os⟩),codeAny (MB x.B) A (cpLoop x F a) R ⟨h,gl,d,t,os⟩:=by
 intro outs
 induction outs with
 |nil=>
  intro k tk q1 q2 v1 v2 gs cs G N t h gl hg Rp Kf Kn
  exact cp_end x A hh hA R F a _ g nm qn gs cs G N t h gl hg d os rest Rp fun h' N' t' gl' hb Rp=>Kn k rfl _ _ _ _ _ _ _ _ _ hb Rp
 |cons o outs ih=>
  obtain⟨i,w⟩:=o
  intro k tk q1 q2 v1 v2 gs cs G N t h gl hg Rp Kf Kn
  unfold parL at Kf Kn
  by_cases h1:w=[40]
  ·rw[if_pos h1] at Kf Kn
   exact cp_o x A hh hA R F a g nm qn va k ka kb tk q1 q2 v1 v2 i w outs gs cs G h1 N t h gl hg d os rest Rp fun h' N' t' gl' gs' cs' q1 q2 v1 v2 tk G' hg' Rp=>ih _ _ _ _ _ _ _ _ G' _ _ _ _ hg' Rp Kf Kn
  rw[if_neg h1] at Kf Kn
  by_cases h2:w=[41]
  ·rw[if_pos h2] at Kf Kn
   by_cases hk:k-1<0
   ·rw[if_pos hk] at Kf Kn
    exact cp_f x A hh hA R F a g nm qn va k ka kb tk q1 q2 v1 v2 i w outs gs cs G h2 (by omega) N t h gl hg d os rest Rp (Kf rfl)
   ·rw[if_neg hk] at Kf Kn
    exact cp_c x A hh hA R F a g nm qn va k ka kb tk q1 q2 v1 v2 i w outs gs cs G h2 (by omega) N t h gl hg d os rest Rp fun h' N' t' gl' gs' cs' q1 q2 v1 v2 tk G' hg' Rp=>ih _ _ _ _ _ _ _ _ G' _ _ _ _ hg' Rp Kf Kn
  ·rw[if_neg h2] at Kf Kn
   exact cp_n x A hh hA R F a g nm qn va k ka kb tk q1 q2 v1 v2 i w outs gs cs G h1 h2 N t h gl hg d os rest Rp fun h' N' t' gl' gs' cs' q1 q2 v1 v2 tk G' hg' Rp=>ih _ _ _ _ _ _ _ _ G' _ _ _ _ hg' Rp Kf Kn
noncomputable abbrev stLoop(x:W2)(F a:Addr):Code:=loopOf (stmtAt x.B 52 4) (.ref a) (envOf (fdOf x.B 52) 52 F)
noncomputable def stFr(x:W2)(l:List Nat)(ka kb kc kd ta ts:Nat)(rs:Addr)(s:Nat)(op:Value)(more:List DictEntry)(n:Nat):Obj:=⟨.type "frame",none,.dict (#[En x.B n_addr ka (.str (S l) ta),En x.B n_start kb (.int (s:Int) ts),En x.B n_open_pos kc op,En x.B n_result kd (.ref rs)]++more.toArray) n,#[]⟩
noncomputable abbrev strsO(ws:List (List Nat×Nat))(n:Nat):Obj:=Lst ((ws.map fun p=>Value.str (S p.1) p.2).toArray) n
theorem st_n0(x:W2)(A:Around)(hh:A.handled=none)(hA:A.depth<800)(R:Result→Shared→Prop)(F a rs:Addr)(g:Nat)(nm qn:Value)(l:List Nat)(hl:l.length≤2^20)(s o n uo ka kb kc kd ta ts:Nat)(ws:List (List Nat×Nat))(hws:ws.length≤2^20)(i:Nat)(w:List Nat)(outs:List (Nat×List Nat))(gs:GenState)(cs:Cells)(G:GenP x ((i,w)::outs) gs cs)
 (hw:w≠[34])
 (N t:Nat) (h:Heap) (gl:Array GenState) (hg:GlAt gl g gs) (d os) (rest:Cells)
 (Rp:Rep x.B N h ((F,stFr x l ka kb kc kd ta ts rs s .none [] 4)::(rs,strsO ws n)::(a,GenO g nm qn)::(cs++rest)) 0)
 (K:∀h' N' t' gl' gs' cs' q1 q2 v1 v2 ts (u tok n:Nat),GenP x outs gs' cs'→GlAt gl' g gs'→Rep x.B N' h' ((F,stFr x l ka kb kc kd ta ts rs s .none [En x.B n_pos q1 v1,En x.B n_ch q2 v2] 6)::(rs,strsO ws n)::(a,GenO g nm qn)::(cs'++rest)) 0→codeAny (MB x.B) A (stLoop x F a) R ⟨h',gl',d,t',os⟩):codeAny (MB x.B) A (stLoop x F a) R ⟨h,gl,d,t,os⟩:=by
 dsimp only[stFr] at Rp
 refine code_tree ?_
 refine seg_call hh Rp 13 [7] [true,true,true] (.call (.builtin "generator.__next__") ⟨[.ref a],[]⟩) ((F,⟨.type "frame",none,.dict #[En x.B n_addr ka (.str (S l) ta),En x.B n_start kb (.int ((↑s:Int)) ts),En x.B n_open_pos kc .none,En x.B n_result kd (.ref rs)] 4,#[]⟩)::(rs,⟨.type "list",none,(.seq ((List.map (fun p=>Value.str (S p.fst) p.snd) ws).toArray) n),#[]⟩)::(a,⟨.type "generator",none,.fields #[.int ((↑g:Int)) 0,nm,qn],#[]⟩)::(cs++rest)) 0 0 (by rfl') fun h1 N1 t1 Rp=>?_
 refine g_next2 x [_,_] (A.under _) hh (by show A.depth+0<900;exact oae hA) _ a g nm qn _ _ _ _ _ _ _ Rp hg G fun h8 N8 t8 gl' a8 u8 v8 gs' cs' G' hg' Rp=>?_
 dsimp only[List.cons_append,List.nil_append,pairO] at Rp
 refine seg_valA hh Rp [⟨.call (.builtin "str.__eq__") ⟨[.str (S w) v8,.str (S [34]) (t8+2)],[]⟩,fun _=>.bool false,0⟩] 79 [8,5,5,5,0,5,5,5,0,5,5,5,6,5,1,5,0,5,5,5,6,5,1,5,0,5,5,5,6,5,1,5,9,5,9,5,9,1] [false,false,false,false,true,true,true] (Fin.again (loopOf (stmtAt x.B 52 4) (.ref a) (envOf (fdOf x.B 52) 52 F))) ((F,⟨.type "frame",none,.dict #[En x.B n_addr ka (.str (S l) ta),En x.B n_start kb (.int ((↑s:Int)) ts),En x.B n_open_pos kc .none,En x.B n_result kd (.ref rs),En x.B n_pos (t8+0) (.int ((↑i:Int)) u8),En x.B n_ch (t8+1) (.str (S w) v8)] 6,#[]⟩)::(rs,⟨.type "list",none,(.seq ((List.map (fun p=>Value.str (S p.fst) p.snd) ws).toArray) n),#[]⟩)::(a,⟨.type "generator",none,.fields #[.int ((↑g:Int)) 0,nm,qn],#[]⟩)::(cs'++rest)) 3 3 (by rfl') (aC (s_eq' (l:=(w)) (l':=[34]) (by first|rfl|(simp[*];done)|(simp;omega))) aN) fun h2 N2 t2 Rp=>?_
 exact⟨rfl,K _ _ _ _ _ _ _ _ _ _ _ 0 0 _ G' hg' Rp⟩
theorem st_q00(x:W2)(A:Around)(hh:A.handled=none)(hA:A.depth<800)(R:Result→Shared→Prop)(F a rs:Addr)(g:Nat)(nm qn:Value)(l:List Nat)(hl:l.length≤2^20)(s o n uo ka kb kc kd ta ts:Nat)(ws:List (List Nat×Nat))(hws:ws.length≤2^20)(i:Nat)(w:List Nat)(outs:List (Nat×List Nat))(gs:GenState)(cs:Cells)(G:GenP x ((i,w)::outs) gs cs)
 (hw:w=[34])
 (N t:Nat) (h:Heap) (gl:Array GenState) (hg:GlAt gl g gs) (d os) (rest:Cells)
 (Rp:Rep x.B N h ((F,stFr x l ka kb kc kd ta ts rs s .none [] 4)::(rs,strsO ws n)::(a,GenO g nm qn)::(cs++rest)) 0)
 (K:∀h' N' t' gl' gs' cs' q1 q2 v1 v2 ts (u tok n:Nat),GenP x outs gs' cs'→GlAt gl' g gs'→Rep x.B N' h' ((F,stFr x l ka kb kc kd ta ts rs s (.int (i:Int) u) [En x.B n_pos q1 v1,En x.B n_ch q2 v2] 6)::(rs,strsO ws n)::(a,GenO g nm qn)::(cs'++rest)) 0→codeAny (MB x.B) A (stLoop x F a) R ⟨h',gl',d,t',os⟩):codeAny (MB x.B) A (stLoop x F a) R ⟨h,gl,d,t,os⟩:=by
 dsimp only[stFr] at Rp
 refine code_tree ?_
 refine seg_call hh Rp 13 [7] [true,true,true] (.call (.builtin "generator.__next__") ⟨[.ref a],[]⟩) ((F,⟨.type "frame",none,.dict #[En x.B n_addr ka (.str (S l) ta),En x.B n_start kb (.int ((↑s:Int)) ts),En x.B n_open_pos kc .none,En x.B n_result kd (.ref rs)] 4,#[]⟩)::(rs,⟨.type "list",none,(.seq ((List.map (fun p=>Value.str (S p.fst) p.snd) ws).toArray) n),#[]⟩)::(a,⟨.type "generator",none,.fields #[.int ((↑g:Int)) 0,nm,qn],#[]⟩)::(cs++rest)) 0 0 (by rfl') fun h1 N1 t1 Rp=>?_
 refine g_next2 x [_,_] (A.under _) hh (by show A.depth+0<900;exact oae hA) _ a g nm qn _ _ _ _ _ _ _ Rp hg G fun h8 N8 t8 gl' a8 u8 v8 gs' cs' G' hg' Rp=>?_
 dsimp only[List.cons_append,List.nil_append,pairO] at Rp
 refine seg_valA hh Rp [⟨.call (.builtin "str.__eq__") ⟨[.str (S w) v8,.str (S [34]) (t8+2)],[]⟩,fun _=>.bool true,0⟩] 93 [8,5,5,5,0,5,5,5,0,5,5,5,6,5,1,5,0,5,5,5,6,5,1,5,0,5,5,5,6,5,1,5,9,5,9,5,9,1,9,9,9,5] [false,false,false,false,true,true,true] (Fin.again (loopOf (stmtAt x.B 52 4) (.ref a) (envOf (fdOf x.B 52) 52 F))) ((F,⟨.type "frame",none,.dict #[En x.B n_addr ka (.str (S l) ta),En x.B n_start kb (.int ((↑s:Int)) ts),En x.B n_open_pos kc (.int ((↑i:Int)) u8),En x.B n_result kd (.ref rs),En x.B n_pos (t8+0) (.int ((↑i:Int)) u8),En x.B n_ch (t8+1) (.str (S w) v8)] 6,#[]⟩)::(rs,⟨.type "list",none,(.seq ((List.map (fun p=>Value.str (S p.fst) p.snd) ws).toArray) n),#[]⟩)::(a,⟨.type "generator",none,.fields #[.int ((↑g:Int)) 0,nm,qn],#[]⟩)::(cs'++rest)) 3 4 (by rfl') (aC (s_eq' (l:=(w)) (l':=[34]) (by first|rfl|(simp[*];done)|(simp;omega))) aN) fun h2 N2 t2 Rp=>?_
 exact⟨rfl,K _ _ _ _ _ _ _ _ _ _ _ _ 0 _ G' hg' Rp⟩
theorem st_n(x:W2)(A:Around)(hh:A.handled=none)(hA:A.depth<800)(R:Result→Shared→Prop)(F a rs:Addr)(g:Nat)(nm qn:Value)(l:List Nat)(hl:l.length≤2^20)(s o n uo ka kb kc kd ta ts:Nat)(ws:List (List Nat×Nat))(hws:ws.length≤2^20)(q1 q2:Nat)(v1 v2:Value)(i:Nat)(w:List Nat)(outs:List (Nat×List Nat))(gs:GenState)(cs:Cells)(G:GenP x ((i,w)::outs) gs cs)
 (hw:w≠[34])
 (N t:Nat) (h:Heap) (gl:Array GenState) (hg:GlAt gl g gs) (d os) (rest:Cells)
 (Rp:Rep x.B N h ((F,stFr x l ka kb kc kd ta ts rs s .none [En x.B n_pos q1 v1,En x.B n_ch q2 v2] 6)::(rs,strsO ws n)::(a,GenO g nm qn)::(cs++rest)) 0)
 (K:∀h' N' t' gl' gs' cs' q1 q2 v1 v2 ts (u tok n:Nat),GenP x outs gs' cs'→GlAt gl' g gs'→Rep x.B N' h' ((F,stFr x l ka kb kc kd ta ts rs s .none [En x.B n_pos q1 v1,En x.B n_ch q2 v2] 6)::(rs,strsO ws n)::(a,GenO g nm qn)::(cs'++rest)) 0→codeAny (MB x.B) A (stLoop x F a) R ⟨h',gl',d,t',os⟩):codeAny (MB x.B) A (stLoop x F a) R ⟨h,gl,d,t,os⟩:=by
 dsimp only[stFr] at Rp
 refine code_tree ?_
 refine seg_call hh Rp 13 [7] [true,true,true] (.call (.builtin "generator.__next__") ⟨[.ref a],[]⟩) ((F,⟨.type "frame",none,.dict #[En x.B n_addr ka (.str (S l) ta),En x.B n_start kb (.int ((↑s:Int)) ts),En x.B n_open_pos kc .none,En x.B n_result kd (.ref rs),En x.B n_pos q1 (v1),En x.B n_ch q2 (v2)] 6,#[]⟩)::(rs,⟨.type "list",none,(.seq ((List.map (fun p=>Value.str (S p.fst) p.snd) ws).toArray) n),#[]⟩)::(a,⟨.type "generator",none,.fields #[.int ((↑g:Int)) 0,nm,qn],#[]⟩)::(cs++rest)) 0 0 (by rfl') fun h1 N1 t1 Rp=>?_
 refine g_next2 x [_,_] (A.under _) hh (by show A.depth+0<900;exact oae hA) _ a g nm qn _ _ _ _ _ _ _ Rp hg G fun h8 N8 t8 gl' a8 u8 v8 gs' cs' G' hg' Rp=>?_
 dsimp only[List.cons_append,List.nil_append,pairO] at Rp
 refine seg_valA hh Rp [⟨.call (.builtin "str.__eq__") ⟨[.str (S w) v8,.str (S [34]) (t8+2)],[]⟩,fun _=>.bool false,0⟩] 79 [8,5,5,5,0,5,5,5,0,5,5,5,6,5,1,5,0,5,5,5,6,5,1,5,0,5,5,5,6,5,1,5,9,5,9,5,9,1] [false,false,false,false,true,true,true] (Fin.again (loopOf (stmtAt x.B 52 4) (.ref a) (envOf (fdOf x.B 52) 52 F))) ((F,⟨.type "frame",none,.dict #[En x.B n_addr ka (.str (S l) ta),En x.B n_start kb (.int ((↑s:Int)) ts),En x.B n_open_pos kc .none,En x.B n_result kd (.ref rs),En x.B n_pos q1 (.int ((↑i:Int)) u8),En x.B n_ch q2 (.str (S w) v8)] 6,#[]⟩)::(rs,⟨.type "list",none,(.seq ((List.map (fun p=>Value.str (S p.fst) p.snd) ws).toArray) n),#[]⟩)::(a,⟨.type "generator",none,.fields #[.int ((↑g:Int)) 0,nm,qn],#[]⟩)::(cs'++rest)) 3 3 (by rfl') (aC (s_eq' (l:=(w)) (l':=[34]) (by first|rfl|(simp[*];done)|(simp;omega))) aN) fun h2 N2 t2 Rp=>?_
 exact⟨rfl,K _ _ _ _ _ _ _ _ _ _ _ 0 0 _ G' hg' Rp⟩
theorem st_no(x:W2)(A:Around)(hh:A.handled=none)(hA:A.depth<800)(R:Result→Shared→Prop)(F a rs:Addr)(g:Nat)(nm qn:Value)(l:List Nat)(hl:l.length≤2^20)(s o n uo ka kb kc kd ta ts:Nat)(ws:List (List Nat×Nat))(hws:ws.length≤2^20)(q1 q2:Nat)(v1 v2:Value)(i:Nat)(w:List Nat)(outs:List (Nat×List Nat))(gs:GenState)(cs:Cells)(G:GenP x ((i,w)::outs) gs cs)
 (hw:w≠[34])
 (N t:Nat) (h:Heap) (gl:Array GenState) (hg:GlAt gl g gs) (d os) (rest:Cells)
 (Rp:Rep x.B N h ((F,stFr x l ka kb kc kd ta ts rs s (.int (o:Int) uo) [En x.B n_pos q1 v1,En x.B n_ch q2 v2] 6)::(rs,strsO ws n)::(a,GenO g nm qn)::(cs++rest)) 0)
 (K:∀h' N' t' gl' gs' cs' q1 q2 v1 v2 ts (u tok n:Nat),GenP x outs gs' cs'→GlAt gl' g gs'→Rep x.B N' h' ((F,stFr x l ka kb kc kd ta ts rs s (.int (o:Int) uo) [En x.B n_pos q1 v1,En x.B n_ch q2 v2] 6)::(rs,strsO ws n)::(a,GenO g nm qn)::(cs'++rest)) 0→codeAny (MB x.B) A (stLoop x F a) R ⟨h',gl',d,t',os⟩):codeAny (MB x.B) A (stLoop x F a) R ⟨h,gl,d,t,os⟩:=by
 dsimp only[stFr] at Rp
 refine code_tree ?_
 refine seg_call hh Rp 13 [7] [true,true,true] (.call (.builtin "generator.__next__") ⟨[.ref a],[]⟩) ((F,⟨.type "frame",none,.dict #[En x.B n_addr ka (.str (S l) ta),En x.B n_start kb (.int ((↑s:Int)) ts),En x.B n_open_pos kc (.int ((↑o:Int)) uo),En x.B n_result kd (.ref rs),En x.B n_pos q1 (v1),En x.B n_ch q2 (v2)] 6,#[]⟩)::(rs,⟨.type "list",none,(.seq ((List.map (fun p=>Value.str (S p.fst) p.snd) ws).toArray) n),#[]⟩)::(a,⟨.type "generator",none,.fields #[.int ((↑g:Int)) 0,nm,qn],#[]⟩)::(cs++rest)) 0 0 (by rfl') fun h1 N1 t1 Rp=>?_
 refine g_next2 x [_,_] (A.under _) hh (by show A.depth+0<900;exact oae hA) _ a g nm qn _ _ _ _ _ _ _ Rp hg G fun h8 N8 t8 gl' a8 u8 v8 gs' cs' G' hg' Rp=>?_
 dsimp only[List.cons_append,List.nil_append,pairO] at Rp
 refine seg_valA hh Rp [⟨.call (.builtin "str.__eq__") ⟨[.str (S w) v8,.str (S [34]) (t8+2)],[]⟩,fun _=>.bool false,0⟩] 79 [8,5,5,5,0,5,5,5,0,5,5,5,6,5,1,5,0,5,5,5,6,5,1,5,0,5,5,5,6,5,1,5,9,5,9,5,9,1] [false,false,false,false,true,true,true] (Fin.again (loopOf (stmtAt x.B 52 4) (.ref a) (envOf (fdOf x.B 52) 52 F))) ((F,⟨.type "frame",none,.dict #[En x.B n_addr ka (.str (S l) ta),En x.B n_start kb (.int ((↑s:Int)) ts),En x.B n_open_pos kc (.int ((↑o:Int)) uo),En x.B n_result kd (.ref rs),En x.B n_pos q1 (.int ((↑i:Int)) u8),En x.B n_ch q2 (.str (S w) v8)] 6,#[]⟩)::(rs,⟨.type "list",none,(.seq ((List.map (fun p=>Value.str (S p.fst) p.snd) ws).toArray) n),#[]⟩)::(a,⟨.type "generator",none,.fields #[.int ((↑g:Int)) 0,nm,qn],#[]⟩)::(cs'++rest)) 3 3 (by rfl') (aC (s_eq' (l:=(w)) (l':=[34]) (by first|rfl|(simp[*];done)|(simp;omega))) aN) fun h2 N2 t2 Rp=>?_
 exact⟨rfl,K _ _ _ _ _ _ _ _ _ _ _ 0 0 _ G' hg' Rp⟩
theorem st_q0(x:W2)(A:Around)(hh:A.handled=none)(hA:A.depth<800)(R:Result→Shared→Prop)(F a rs:Addr)(g:Nat)(nm qn:Value)(l:List Nat)(hl:l.length≤2^20)(s o n uo ka kb kc kd ta ts:Nat)(ws:List (List Nat×Nat))(hws:ws.length≤2^20)(q1 q2:Nat)(v1 v2:Value)(i:Nat)(w:List Nat)(outs:List (Nat×List Nat))(gs:GenState)(cs:Cells)(G:GenP x ((i,w)::outs) gs cs)
 (hw:w=[34])
 (N t:Nat) (h:Heap) (gl:Array GenState) (hg:GlAt gl g gs) (d os) (rest:Cells)
 (Rp:Rep x.B N h ((F,stFr x l ka kb kc kd ta ts rs s .none [En x.B n_pos q1 v1,En x.B n_ch q2 v2] 6)::(rs,strsO ws n)::(a,GenO g nm qn)::(cs++rest)) 0)
 (K:∀h' N' t' gl' gs' cs' q1 q2 v1 v2 ts (u tok n:Nat),GenP x outs gs' cs'→GlAt gl' g gs'→Rep x.B N' h' ((F,stFr x l ka kb kc kd ta ts rs s (.int (i:Int) u) [En x.B n_pos q1 v1,En x.B n_ch q2 v2] 6)::(rs,strsO ws n)::(a,GenO g nm qn)::(cs'++rest)) 0→codeAny (MB x.B) A (stLoop x F a) R ⟨h',gl',d,t',os⟩):codeAny (MB x.B) A (stLoop x F a) R ⟨h,gl,d,t,os⟩:=by
 dsimp only[stFr] at Rp
 refine code_tree ?_
 refine seg_call hh Rp 13 [7] [true,true,true] (.call (.builtin "generator.__next__") ⟨[.ref a],[]⟩) ((F,⟨.type "frame",none,.dict #[En x.B n_addr ka (.str (S l) ta),En x.B n_start kb (.int ((↑s:Int)) ts),En x.B n_open_pos kc .none,En x.B n_result kd (.ref rs),En x.B n_pos q1 (v1),En x.B n_ch q2 (v2)] 6,#[]⟩)::(rs,⟨.type "list",none,(.seq ((List.map (fun p=>Value.str (S p.fst) p.snd) ws).toArray) n),#[]⟩)::(a,⟨.type "generator",none,.fields #[.int ((↑g:Int)) 0,nm,qn],#[]⟩)::(cs++rest)) 0 0 (by rfl') fun h1 N1 t1 Rp=>?_
 refine g_next2 x [_,_] (A.under _) hh (by show A.depth+0<900;exact oae hA) _ a g nm qn _ _ _ _ _ _ _ Rp hg G fun h8 N8 t8 gl' a8 u8 v8 gs' cs' G' hg' Rp=>?_
 dsimp only[List.cons_append,List.nil_append,pairO] at Rp
 refine seg_valA hh Rp [⟨.call (.builtin "str.__eq__") ⟨[.str (S w) v8,.str (S [34]) (t8+2)],[]⟩,fun _=>.bool true,0⟩] 93 [8,5,5,5,0,5,5,5,0,5,5,5,6,5,1,5,0,5,5,5,6,5,1,5,0,5,5,5,6,5,1,5,9,5,9,5,9,1,9,9,9,5] [false,false,false,false,true,true,true] (Fin.again (loopOf (stmtAt x.B 52 4) (.ref a) (envOf (fdOf x.B 52) 52 F))) ((F,⟨.type "frame",none,.dict #[En x.B n_addr ka (.str (S l) ta),En x.B n_start kb (.int ((↑s:Int)) ts),En x.B n_open_pos kc (.int ((↑i:Int)) u8),En x.B n_result kd (.ref rs),En x.B n_pos q1 (.int ((↑i:Int)) u8),En x.B n_ch q2 (.str (S w) v8)] 6,#[]⟩)::(rs,⟨.type "list",none,(.seq ((List.map (fun p=>Value.str (S p.fst) p.snd) ws).toArray) n),#[]⟩)::(a,⟨.type "generator",none,.fields #[.int ((↑g:Int)) 0,nm,qn],#[]⟩)::(cs'++rest)) 3 4 (by rfl') (aC (s_eq' (l:=(w)) (l':=[34]) (by first|rfl|(simp[*];done)|(simp;omega))) aN) fun h2 N2 t2 Rp=>?_
 exact⟨rfl,K _ _ _ _ _ _ _ _ _ _ _ _ 0 _ G' hg' Rp⟩
theorem st_q1(x:W2)(A:Around)(hh:A.handled=none)(hA:A.depth<800)(R:Result→Shared→Prop)(F a rs:Addr)(g:Nat)(nm qn:Value)(l:List Nat)(hl:l.length≤2^20)(s o n uo ka kb kc kd ta ts:Nat)(ws:List (List Nat×Nat))(hws:ws.length≤2^20)(q1 q2:Nat)(v1 v2:Value)(i:Nat)(w:List Nat)(outs:List (Nat×List Nat))(gs:GenState)(cs:Cells)(G:GenP x ((i,w)::outs) gs cs)
 (hw:w=[34]) (hs:s=o)
 (N t:Nat) (h:Heap) (gl:Array GenState) (hg:GlAt gl g gs) (d os) (rest:Cells)
 (Rp:Rep x.B N h ((F,stFr x l ka kb kc kd ta ts rs s (.int (o:Int) uo) [En x.B n_pos q1 v1,En x.B n_ch q2 v2] 6)::(rs,strsO ws n)::(a,GenO g nm qn)::(cs++rest)) 0)
 (K:∀h' N' t' gl' gs' cs' q1 q2 v1 v2 ts (u tok n:Nat),GenP x outs gs' cs'→GlAt gl' g gs'→Rep x.B N' h' ((F,stFr x l ka kb kc kd ta ts rs (i+1) .none [En x.B n_pos q1 v1,En x.B n_ch q2 v2] 6)::(rs,strsO ws n)::(a,GenO g nm qn)::(cs'++rest)) 0→codeAny (MB x.B) A (stLoop x F a) R ⟨h',gl',d,t',os⟩):codeAny (MB x.B) A (stLoop x F a) R ⟨h,gl,d,t,os⟩:=by
 dsimp only[stFr] at Rp
 refine code_tree ?_
 refine seg_call hh Rp 13 [7] [true,true,true] (.call (.builtin "generator.__next__") ⟨[.ref a],[]⟩) ((F,⟨.type "frame",none,.dict #[En x.B n_addr ka (.str (S l) ta),En x.B n_start kb (.int ((↑s:Int)) ts),En x.B n_open_pos kc (.int ((↑o:Int)) uo),En x.B n_result kd (.ref rs),En x.B n_pos q1 (v1),En x.B n_ch q2 (v2)] 6,#[]⟩)::(rs,⟨.type "list",none,(.seq ((List.map (fun p=>Value.str (S p.fst) p.snd) ws).toArray) n),#[]⟩)::(a,⟨.type "generator",none,.fields #[.int ((↑g:Int)) 0,nm,qn],#[]⟩)::(cs++rest)) 0 0 (by rfl') fun h1 N1 t1 Rp=>?_
 refine g_next2 x [_,_] (A.under _) hh (by show A.depth+0<900;exact oae hA) _ a g nm qn _ _ _ _ _ _ _ Rp hg G fun h8 N8 t8 gl' a8 u8 v8 gs' cs' G' hg' Rp=>?_
 dsimp only[List.cons_append,List.nil_append,pairO] at Rp
 refine seg_valA hh Rp [⟨.call (.builtin "str.__eq__") ⟨[.str (S w) v8,.str (S [34]) (t8+2)],[]⟩,fun _=>.bool true,0⟩,⟨.call (.builtin "int.__ne__") ⟨[.int ((↑s:Int)) ts,.int ((↑o:Int)) uo],[]⟩,fun _=>.bool false,0⟩] 115 [8,5,5,5,0,5,5,5,0,5,5,5,6,5,1,5,0,5,5,5,6,5,1,5,0,5,5,5,6,5,1,5,9,5,9,5,9,1,9,9,9,2,9,0,9,5,9,5] [false,false,false,false,true,true,true] (Fin.again (loopOf (stmtAt x.B 52 4) (.ref a) (envOf (fdOf x.B 52) 52 F))) ((F,⟨.type "frame",none,.dict #[En x.B n_addr ka (.str (S l) ta),En x.B n_start kb (.int ((↑i:Int)+1) (t8+4)),En x.B n_open_pos kc .none,En x.B n_result kd (.ref rs),En x.B n_pos q1 (.int ((↑i:Int)) u8),En x.B n_ch q2 (.str (S w) v8)] 6,#[]⟩)::(rs,⟨.type "list",none,(.seq ((List.map (fun p=>Value.str (S p.fst) p.snd) ws).toArray) n),#[]⟩)::(a,⟨.type "generator",none,.fields #[.int ((↑g:Int)) 0,nm,qn],#[]⟩)::(cs'++rest)) 3 7 (by rfl') (aC (s_eq' (l:=(w)) (l':=[34]) (by first|rfl|(simp[*];done)|(simp;omega))) (aC (i_ne' (decide_eq_false (by omega))) aN)) fun h2 N2 t2 Rp=>?_
 exact⟨rfl,K _ _ _ _ _ _ _ _ _ _ _ 0 0 _ G' hg' Rp⟩
theorem st_q2(x:W2)(A:Around)(hh:A.handled=none)(hA:A.depth<800)(R:Result→Shared→Prop)(F a rs:Addr)(g:Nat)(nm qn:Value)(l:List Nat)(hl:l.length≤2^20)(s o n uo ka kb kc kd ta ts:Nat)(ws:List (List Nat×Nat))(hws:ws.length≤2^20)(q1 q2:Nat)(v1 v2:Value)(i:Nat)(w:List Nat)(outs:List (Nat×List Nat))(gs:GenState)(cs:Cells)(G:GenP x ((i,w)::outs) gs cs)
 (hw:w=[34]) (hs:s≠o)
 (N t:Nat) (h:Heap) (gl:Array GenState) (hg:GlAt gl g gs) (d os) (rest:Cells)
 (Rp:Rep x.B N h ((F,stFr x l ka kb kc kd ta ts rs s (.int (o:Int) uo) [En x.B n_pos q1 v1,En x.B n_ch q2 v2] 6)::(rs,strsO ws n)::(a,GenO g nm qn)::(cs++rest)) 0)
 (K:∀h' N' t' gl' gs' cs' q1 q2 v1 v2 ts (u tok n:Nat),GenP x outs gs' cs'→GlAt gl' g gs'→Rep x.B N' h' ((F,stFr x l ka kb kc kd ta ts rs (i+1) .none [En x.B n_pos q1 v1,En x.B n_ch q2 v2] 6)::(rs,strsO (ws++[(cutL l (some (s:Int)) (some (o:Int)),tok)]) n)::(a,GenO g nm qn)::(cs'++rest)) 0→codeAny (MB x.B) A (stLoop x F a) R ⟨h',gl',d,t',os⟩):codeAny (MB x.B) A (stLoop x F a) R ⟨h,gl,d,t,os⟩:=by
 dsimp only[stFr] at Rp
 refine code_tree ?_
 refine seg_call hh Rp 13 [7] [true,true,true] (.call (.builtin "generator.__next__") ⟨[.ref a],[]⟩) ((F,⟨.type "frame",none,.dict #[En x.B n_addr ka (.str (S l) ta),En x.B n_start kb (.int ((↑s:Int)) ts),En x.B n_open_pos kc (.int ((↑o:Int)) uo),En x.B n_result kd (.ref rs),En x.B n_pos q1 (v1),En x.B n_ch q2 (v2)] 6,#[]⟩)::(rs,⟨.type "list",none,(.seq ((List.map (fun p=>Value.str (S p.fst) p.snd) ws).toArray) n),#[]⟩)::(a,⟨.type "generator",none,.fields #[.int ((↑g:Int)) 0,nm,qn],#[]⟩)::(cs++rest)) 0 0 (by rfl') fun h1 N1 t1 Rp=>?_
 refine g_next2 x [_,_] (A.under _) hh (by show A.depth+0<900;exact oae hA) _ a g nm qn _ _ _ _ _ _ _ Rp hg G fun h8 N8 t8 gl' a8 u8 v8 gs' cs' G' hg' Rp=>?_
 dsimp only[List.cons_append,List.nil_append,pairO] at Rp
 refine seg_callA hh Rp [⟨.call (.builtin "str.__eq__") ⟨[.str (S w) v8,.str (S [34]) (t8+2)],[]⟩,fun _=>.bool true,0⟩,⟨.call (.builtin "int.__ne__") ⟨[.int ((↑s:Int)) ts,.int ((↑o:Int)) uo],[]⟩,fun _=>.bool true,0⟩] 108 [8,5,5,5,0,5,5,5,0,5,5,5,6,5,1,5,0,5,5,5,6,5,1,5,0,5,5,5,6,5,1,5,9,5,9,5,9,1,9,9,9,2,9,10,10,10,10,9,9,9] [true,false,false,false,false,true,true,true] (.call (.builtin "str.__getitem__") ⟨[.str (S l) ta,.ref (N8+3)],[]⟩) ((N8+3,⟨.type "slice",none,.fields #[.int ((↑s:Int)) ts,.int ((↑o:Int)) uo,.none],#[]⟩)::(F,⟨.type "frame",none,.dict #[En x.B n_addr ka (.str (S l) ta),En x.B n_start kb (.int ((↑s:Int)) ts),En x.B n_open_pos kc (.int ((↑o:Int)) uo),En x.B n_result kd (.ref rs),En x.B n_pos q1 (.int ((↑i:Int)) u8),En x.B n_ch q2 (.str (S w) v8)] 6,#[]⟩)::(rs,⟨.type "list",none,(.seq ((List.map (fun p=>Value.str (S p.fst) p.snd) ws).toArray) n),#[]⟩)::(a,⟨.type "generator",none,.fields #[.int ((↑g:Int)) 0,nm,qn],#[]⟩)::(cs'++rest)) 4 3 (by rfl') (aC (s_eq' (l:=(w)) (l':=[34]) (by first|rfl|(simp[*];done)|(simp;omega))) (aC (i_ne' (decide_eq_true (by omega))) aN)) fun h2 N2 t2 Rp=>?_
 refine s_slice hl Rp 0 (some ((s:Int),_)) (some ((o:Int),_)) rfl fun ty tok=>?_
 refine seg_call hh Rp 12 [] [false,true,true,true] (.call (.builtin "list.append") ⟨[.ref rs,(.str (S (cutL l (Option.map (fun x=>x.fst) (some ((↑s:Int),ts))) (Option.map (fun x=>x.fst) (some ((↑o:Int),uo))))) tok)],[]⟩) ((F,⟨.type "frame",none,.dict #[En x.B n_addr ka (.str (S l) ta),En x.B n_start kb (.int ((↑s:Int)) ts),En x.B n_open_pos kc (.int ((↑o:Int)) uo),En x.B n_result kd (.ref rs),En x.B n_pos q1 (.int ((↑i:Int)) u8),En x.B n_ch q2 (.str (S w) v8)] 6,#[]⟩)::(rs,⟨.type "list",none,(.seq ((List.map (fun p=>Value.str (S p.fst) p.snd) ws).toArray) n),#[]⟩)::(a,⟨.type "generator",none,.fields #[.int ((↑g:Int)) 0,nm,qn],#[]⟩)::(cs'++rest)) 0 0 (by rfl') fun h3 N3 t3 Rp=>?_
 refine l_append (items:=(ws.map fun p=>Value.str (S p.1) p.2).toArray) Rp 1 rfl (by simp;exact oga hws) rfl fun ha1 Rp=>?_
 dsimp only[setN] at Rp
 refine seg_val hh Rp 36 [5,0,5,1,5,1] [true,true,true] (Fin.again (loopOf (stmtAt x.B 52 4) (.ref a) (envOf (fdOf x.B 52) 52 F))) ((F,⟨.type "frame",none,.dict #[En x.B n_addr ka (.str (S l) ta),En x.B n_start kb (.int ((↑i:Int)+1) (t3+1)),En x.B n_open_pos kc .none,En x.B n_result kd (.ref rs),En x.B n_pos q1 (.int ((↑i:Int)) u8),En x.B n_ch q2 (.str (S w) v8)] 6,#[]⟩)::(rs,⟨.type "list",none,(.seq ((List.map (fun p=>Value.str (S p.fst) p.snd) ws).toArray.push (Value.str (S (cutL l (Option.map (fun x=>x.fst) (some ((↑s:Int),ts))) (Option.map (fun x=>x.fst) (some ((↑o:Int),uo))))) tok)) (n+1)),#[]⟩)::(a,⟨.type "generator",none,.fields #[.int ((↑g:Int)) 0,nm,qn],#[]⟩)::(cs'++rest)) 0 4 (by rfl') fun h4 N4 t4 Rp=>?_
 have e:((ws.map fun p=>Value.str (S p.1) p.2).toArray.push (Value.str (S (cutL l (some (s:Int)) (some (o:Int)))) tok))=((ws++[(cutL l (some (s:Int)) (some (o:Int)),tok)]).map fun p=>Value.str (S p.1) p.2).toArray:=by simp
 exact⟨rfl,K _ _ _ _ _ _ _ _ _ _ _ 0 tok _ G' hg' (e▸Rp)⟩
theorem st_end(x:W2)(A:Around)(hh:A.handled=none)(hA:A.depth<800)(R:Result→Shared→Prop)(F a rs:Addr)(fo ro:Obj)(g:Nat)(nm qn:Value)(gs:GenState)(cs:Cells)(G:GenP x [] gs cs)
 (N t:Nat) (h:Heap) (gl:Array GenState) (hg:GlAt gl g gs) (d os) (rest:Cells)
 (Rp:Rep x.B N h ((F,fo)::(rs,ro)::(a,GenO g nm qn)::(cs++rest)) 0)
 (K:∀h' N' t' gl',AllBare gl'→Rep x.B N' h' ((F,fo)::(rs,ro)::rest) 0→R (.ok .next) ⟨h',gl',d,t',os⟩):codeAny (MB x.B) A (stLoop x F a) R ⟨h,gl,d,t,os⟩:=by
 refine code_tree ?_
 refine seg_call hh Rp 13 [7] [true,true,true] (.call (.builtin "generator.__next__") ⟨[.ref a],[]⟩) ((F,fo)::(rs,ro)::(a,⟨.type "generator",none,.fields #[.int ((↑g:Int)) 0,nm,qn],#[]⟩)::(cs++rest)) 0 0 (by rfl') fun h1 N1 t1 Rp=>?_
 refine g_next2 x [_,_] (A.under _) hh (by show A.depth+0<900;exact oae hA) _ a g nm qn _ _ _ _ _ _ _ Rp hg G fun h8 N8 t8 gl' a8 e8 hbz Rp=>?_
 dsimp only[List.cons_append,List.nil_append] at Rp
 refine seg_val hh Rp 12 [5] [false,true,true] (Fin.again (.block [] (envOf (fdOf x.B 52) 52 F))) ((F,fo)::(rs,ro)::rest) 0 0 (by rfl') fun h2 N2 t2 Rp=>?_
 refine⟨rfl,?_⟩
 refine seg_code hh Rp [] 11 [] [true,true] (.ok .next) ((F,fo)::(rs,ro)::rest) 0 0 (by rfl') aN fun h3 N3 t3 Rp=>?_
 exact K _ _ _ _ hbz Rp
noncomputable def stp(l:List Nat):List (Nat×List Nat)→Nat→Option Nat→List (List Nat)→Nat×List (List Nat)
 |[],s,_,acc=>(s,acc)
 |(i,w)::r,s,none,acc=>if w=[34] then stp l r s (some i) acc else stp l r s none acc
 |(i,w)::r,s,some o,acc=>if w=[34] then stp l r (i+1) none (if s=o then acc else acc++[cutL l (some (s:Int)) (some (o:Int))]) else stp l r s (some o) acc
noncomputable def opV(o:Option Nat)(u:Nat):Value:=match o with
 |none=>.none
 |some o=>.int (o:Int) u
theorem st_loop(x:W2)(A:Around)(hh:A.handled=none)(hA:A.depth<800)(R:Result→Shared→Prop)(F a rs:Addr)(g:Nat)(nm qn:Value)(l:List Nat)(hl:l.length≤2^20)(ka kb kc kd ta:Nat)(d os)(rest:Cells):
 ∀(outs:List (Nat×List Nat)) (s n uo ts:Nat) (op:Option Nat) (ws:List (List Nat×Nat)) (_:ws.length+outs.length≤2^20) (q1 q2:Nat) (v1 v2:Value) (gs:GenState) (cs:Cells) (_:GenP x outs gs cs)
 (N t:Nat) (h:Heap) (gl:Array GenState) (_:GlAt gl g gs)
 (_:Rep x.B N h ((F,stFr x l ka kb kc kd ta ts rs s (opV op uo) [En x.B n_pos q1 v1,En x.B n_ch q2 v2] 6)::(rs,strsO ws n)::(a,GenO g nm qn)::(cs++rest)) 0)
 (_:∀h' N' t' gl' q1 q2 v1 v2 ts opv n ws',ws'.map (·.1)=(stp l outs s op (ws.map (·.1))).2→ws'.length≤2^20→AllBare gl'→Rep x.B N' h' ((F,stFr x l ka kb kc kd ta ts rs (stp l outs s op (ws.map (·.1))).1 opv [En x.B n_pos q1 v1,En x.B n_ch q2 v2] 6)::(rs,strsO ws' n)::rest) 0→R (.ok .next) ⟨h',gl',d,t',os⟩),
 codeAny (MB x.B) A (stLoop x F a) R ⟨h,gl,d,t,os⟩:=by
 intro outs
 induction outs with
 |nil=>
  intro s n uo ts op ws hws q1 q2 v1 v2 gs cs G N t h gl hg Rp K
  exact st_end x A hh hA R F a rs _ _ g nm qn gs cs G N t h gl hg d os rest Rp fun h' N' t' gl' hb Rp=>K _ _ _ _ _ _ _ _ _ _ _ ws rfl (by simpa using hws) hb Rp
 |cons o outs ih=>
  obtain⟨i,w⟩:=o
  intro s n uo ts op ws hws q1 q2 v1 v2 gs cs G N t h gl hg Rp K
  have hw2:ws.length+outs.length≤2^20:=by simp at hws;omega
  have hw3:ws.length≤2^20:=by omega
  cases op with
  |none=>
   unfold stp at K
   by_cases hq:w=[34]
   ·rw[if_pos hq] at K
    exact st_q0 x A hh hA R F a rs g nm qn l hl s 0 n uo ka kb kc kd ta ts ws hw3 q1 q2 v1 v2 i w outs gs cs G hq N t h gl hg d os rest Rp fun h' N' t' gl' gs' cs' q1 q2 v1 v2 ts u tok n G' hg' Rp=>
     ih s n u ts (some i) ws hw2 q1 q2 v1 v2 gs' cs' G' _ _ _ _ hg' Rp K
   ·rw[if_neg hq] at K
    exact st_n x A hh hA R F a rs g nm qn l hl s 0 n uo ka kb kc kd ta ts ws hw3 q1 q2 v1 v2 i w outs gs cs G hq N t h gl hg d os rest Rp fun h' N' t' gl' gs' cs' q1 q2 v1 v2 ts u tok n G' hg' Rp=>
     ih s n uo ts none ws hw2 q1 q2 v1 v2 gs' cs' G' _ _ _ _ hg' Rp K
  |some o=>
   unfold stp at K
   by_cases hq:w=[34]
   ·rw[if_pos hq] at K
    by_cases hs:s=o
    ·rw[if_pos hs] at K
     exact st_q1 x A hh hA R F a rs g nm qn l hl s o n uo ka kb kc kd ta ts ws hw3 q1 q2 v1 v2 i w outs gs cs G hq hs N t h gl hg d os rest Rp fun h' N' t' gl' gs' cs' q1 q2 v1 v2 ts u tok n G' hg' Rp=>
      ih (i+1) n uo ts none ws hw2 q1 q2 v1 v2 gs' cs' G' _ _ _ _ hg' Rp K
    ·rw[if_neg hs] at K
     refine st_q2 x A hh hA R F a rs g nm qn l hl s o n uo ka kb kc kd ta ts ws hw3 q1 q2 v1 v2 i w outs gs cs G hq hs N t h gl hg d os rest Rp fun h' N' t' gl' gs' cs' q1 q2 v1 v2 ts u tok n G' hg' Rp=>?_
     have e:(ws++[(cutL l (some (s:Int)) (some (o:Int)),tok)]).map (·.1)=ws.map (·.1)++[cutL l (some (s:Int)) (some (o:Int))]:=by simp
     rw[←e] at K
     exact ih (i+1) n uo ts none _ (by simp at hws⊢;omega) q1 q2 v1 v2 gs' cs' G' _ _ _ _ hg' Rp K
   ·rw[if_neg hq] at K
    exact st_no x A hh hA R F a rs g nm qn l hl s o n uo ka kb kc kd ta ts ws hw3 q1 q2 v1 v2 i w outs gs cs G hq N t h gl hg d os rest Rp fun h' N' t' gl' gs' cs' q1 q2 v1 v2 ts u tok n G' hg' Rp=>
     ih s n uo ts (some o) ws hw2 q1 q2 v1 v2 gs' cs' G' _ _ _ _ hg' Rp K
noncomputable def hasQ(l:List Nat):Bool:=!(Builtin.Str.occurrences (S l) (S [34]) 0 (S l).length 1).isEmpty
noncomputable def stripP(l:List Nat):List (List Nat):=
 let p:=stp l (lexB false 0 l) 0 none []
 p.2++(if p.1<l.length then[cutL l (some (p.1:Int)) none] else[])
noncomputable def stripL(l:List Nat):List Nat:=if hasQ l then joinL (stripP l) else l
noncomputable def okL(l:List Nat):Bool:=l.all (·<128)&&decide (l.length≤2^10)&&decide ((lexB false 0 l).length≤2^10)&&decide ((joinL (stripP l)).length≤2^20)&& !(Builtin.Str.tooLong (((stripP l).map S).toArray.foldl (·+·.length+(S []).length) 0))
theorem s_slice2{B:Base}{A:Around}{R:Result→Shared→Prop}{h:Heap}{gl:Array GenState}{d:Drawn}{t:Nat}{os:OsState}{N u:Nat}{tab:Cells}{l:List Nat}{sl:Addr}(hl:l.length≤2^20)(Rp:Rep B N h tab 0)(i:Nat)(lo hi:Option (Int×Tok))(lo' hi':Option Int)(hx:nth tab i=some (sl,⟨.type "slice",none,.fields #[partValue lo,partValue hi,.none],#[]⟩))(e1:lo.map (·.1)=lo')(e2:hi.map (·.1)=hi')
 (K:∀t' tok,R (.ok (.ret (.str (S (cutL l lo' hi')) tok))) ⟨h,gl,d,t',os⟩):codeAny (MB B) A (.call (.builtin "str.__getitem__") ⟨[.str (S l) u,.ref sl],[]⟩) R ⟨h,gl,d,t,os⟩:=by
 subst e1 e2
 exact s_slice hl Rp i lo hi hx K
theorem lexB_t(r:List Nat)(i:Nat):lexB true i r≠[]:=by
 cases r<;>exact fun z=>nomatch z
theorem lexB_ne(c:Nat)(r:List Nat)(i:Nat):lexB false i (c::r)≠[]:=by
 unfold lexB
 split
 ·exact lexB_t r _
 ·exact fun z=>nomatch z
theorem perm4r{a b c d:Addr×Obj}{r:Cells}:(a::b::c::d::r).Perm (d::c::a::b::r):=
 (List.perm_middle (l₁:=[a,b,c]) (a:=d) (l₂:=r)).trans (.cons _ (List.perm_middle (l₁:=[a,b]) (a:=c) (l₂:=r)))
theorem strip(x:W2)(A:Around)(hh:A.handled=none)(hA:A.depth<700)(R:Result→Shared→Prop)(l:List Nat)(hok:okL l=true)(u:Nat)(N t:Nat)(h:Heap)(gl d os)(hgb:AllBare gl)(rest:Cells)(Rp:Rep x.B N h rest 0)
 (K:∀h' N' t' gl' v,AllBare gl'→Rep x.B N' h' rest 0→R (.ok (.ret (.str (S (stripL l)) v))) ⟨h',gl',d,t',os⟩):
 codeAny (MB x.B) A (.call (.ref 52) ⟨[.str (S l) u],[]⟩) R ⟨h,gl,d,t,os⟩:=by
 obtain⟨b,hb⟩:∃b,hasQ l=b:=⟨_,rfl⟩
 have hb':(!(Builtin.Str.occurrences (S l) (S [34]) 0 (S l).length 1).isEmpty)=b:=hb
 simp only[okL,Bool.and_eq_true,decide_eq_true_eq,Bool.not_eq_true'] at hok
 obtain⟨⟨⟨⟨h1,h2⟩,h3⟩,h4⟩,h5⟩:=hok
 have hasc:Asc l:=fun c hc=>by simpa using(List.all_eq_true.mp h1) c hc
 unfold stripL at K
 refine enter hh Rp (by first|assumption|(simp only[Around.under,Code.weight,recursionLimit] at*;omega)) 18 [0,0,5,1] [] (bodyOf (fdOf x.B 52)) (envOf (fdOf x.B 52) 52 (N+0)) ((N+0,⟨.type "frame",none,.dict #[En x.B n_addr (t+0) (.str (S l) u)] 1,#[]⟩)::rest) 1 1 (by rfl') fun h6 N6 t6 Rp=>?_
 cases b with
 |false=>
  rw[hb,if_neg (by simp)] at K
  refine seg_valA hh Rp [⟨.call (.builtin "str.__contains__") ⟨[.str (S l) u,.str (S [34]) (t6+0)],[]⟩,fun _=>.bool false,0⟩] 20 [5,1,5] [false] (Flow.ret (.str (S l) u)) (rest) 0 1 (by rfl') (aC (s_contains' (l:=(l)) (l':=[34]) (by assumption)) aN) fun h7 N7 t7 Rp=>?_
  exact K _ _ _ _ _ hgb Rp
 |true=>
  rw[hb,if_pos rfl] at K
  refine cut 4 ?_
  refine seg_valA hh Rp [⟨.call (.builtin "str.__contains__") ⟨[.str (S l) u,.str (S [34]) (t6+0)],[]⟩,fun _=>.bool true,0⟩] 44 [5,1,5,1,5,1,6,2] [true,true] Flow.next ((N6+0,⟨.type "list",none,.seq #[] 0,#[]⟩)::(N+0,⟨.type "frame",none,.dict #[En x.B n_addr (t+0) (.str (S l) u),En x.B n_start (t6+2) (.int 0 (t6+1)),En x.B n_open_pos (t6+3) .none,En x.B n_result (t6+4) (.ref (N6+0))] 4,#[]⟩)::rest) 1 5 (by rfl') (aC (s_contains' (l:=(l)) (l':=[34]) (by assumption)) aN) fun h7 N7 t7 Rp=>?_
  refine cut 1 ?_
  refine seg_call hh Rp 18 [0,6,0] [true,true] (.call (.ref 45) ⟨[.str (S l) u],[]⟩) ((N6+0,⟨.type "list",none,.seq #[] 0,#[]⟩)::(N+0,⟨.type "frame",none,.dict #[En x.B n_addr (t+0) (.str (S l) u),En x.B n_start (t6+2) (.int 0 (t6+1)),En x.B n_open_pos (t6+3) .none,En x.B n_result (t6+4) (.ref (N6+0))] 4,#[]⟩)::rest) 0 0 (by rfl') fun h8 N8 t8 Rp=>?_
  obtain⟨o,outs,ho⟩:∃o outs,lexB false 0 l=o::outs:=by
   cases e:lexB false 0 l with
   |cons o outs=>exact⟨_,_,rfl⟩
   |nil=>
    cases l with
    |nil=>exact absurd hb (by decide+kernel)
    |cons c r=>exact absurd e (lexB_ne c r 0)
  obtain⟨i,w⟩:=o
  refine mk_gen x (A.under _) hh (by show A.depth+1<900;omega) _ l _ _ _ _ _ _ _ _ Rp fun h' N' t' a F' ka nm qn Rp=>?_
  refine seg_call hh Rp 21 [5,5,0,5,5] [true,true,true,true] (loopOf (stmtAt x.B 52 4) (.ref a) (envOf (fdOf x.B 52) 52 (N+0))) ((a,⟨.type "generator",none,.fields #[.int ((↑gl.size:Int)) 0,nm,qn],#[]⟩)::(F',⟨.type "frame",none,.dict #[En x.B n_addr ka (.str (S l) u)] 1,#[]⟩)::(N6+0,⟨.type "list",none,.seq #[] 0,#[]⟩)::(N+0,⟨.type "frame",none,.dict #[En x.B n_addr (t+0) (.str (S l) u),En x.B n_start (t6+2) (.int 0 (t6+1)),En x.B n_open_pos (t6+3) .none,En x.B n_result (t6+4) (.ref (N6+0))] 4,#[]⟩)::rest) 0 0 (by rfl') fun h9 N9 t9 Rp=>?_
  have hG:=gen_fresh x F' l hasc ka u
  rw[ho] at hG
  have hg:GlAt (gl.push (.fresh (geBody x F'))) gl.size (.fresh (geBody x F')):=⟨Array.getElem?_push_size,hgb.push rfl⟩
  have Rp:=Rp.perm perm4r
  have ho3:outs.length≤2^10:=by rw[ho] at h3;simp at h3;omega
  have fin:∀h' N' t' gl' q1 q2 v1 v2 ts opv n ws',ws'.map (·.1)=(stp l (lexB false 0 l) 0 none []).2→ws'.length≤2^20→AllBare gl'→Rep x.B N' h' ((N+0,stFr x l (t+0) (t6+2) (t6+3) (t6+4) u ts (N6+0) (stp l (lexB false 0 l) 0 none []).1 opv [En x.B n_pos q1 v1,En x.B n_ch q2 v2] 6)::(N6+0,strsO ws' n)::rest) 0→
   wpAny (MB x.B) (A.under (.func (bodyOf (fdOf x.B 52)) (envOf (fdOf x.B 52) 52 (N+0)))) (execsZ ((bodyOf (fdOf x.B 52)).drop 5) (envOf (fdOf x.B 52) 52 (N+0))) (fun f s'=>R (.ok (.ret (flowVal f))) s') (fun _ _=>False) ⟨h',gl',d,t',os⟩:=by
   intro h' N' t' gl' q1 q2 v1 v2 ts opv n ws' hw1 hw2 hbz Rp
   unfold stripP at K h4 h5
   dsimp only at K h4 h5
   generalize stp l (lexB false 0 l) 0 none []=pp at*
   obtain⟨s,acc⟩:=pp
   dsimp only at hw1 Rp K h4 h5
   dsimp only[stFr] at Rp
   by_cases c:s<l.length
   ·rw[if_pos c] at K h4 h5
    refine cut 1 ?_
    refine seg_callA hh Rp [⟨.call (.builtin "len") ⟨[.str (S l) u],[]⟩,fun t=>.int ((l.length:Int)) (t+1),2⟩,⟨.call (.builtin "int.__lt__") ⟨[.int ((↑s:Int)) ts,.int ((↑l.length:Int)) (t'+1)],[]⟩,fun _=>.bool true,0⟩] 40 [5,0,0,5,1,2,5,6,6,6,6,5,5] [true,true,true] (.call (.builtin "str.__getitem__") ⟨[.str (S l) u,.ref (N'+0)],[]⟩) ((N'+0,⟨.type "slice",none,.fields #[.int ((↑s:Int)) ts,.none,.none],#[]⟩)::(N+0,⟨.type "frame",none,.dict #[En x.B n_addr (t+0) (.str (S l) u),En x.B n_start (t6+2) (.int ((↑s:Int)) ts),En x.B n_open_pos (t6+3) (opv),En x.B n_result (t6+4) (.ref (N6+0)),En x.B n_pos q1 (v1),En x.B n_ch q2 (v2)] 6,#[]⟩)::(N6+0,⟨.type "list",none,(.seq ((List.map (fun p=>Value.str (S p.fst) p.snd) ws').toArray) n),#[]⟩)::rest) 1 2 (by rfl') (aC (s_len' (by first|rfl|assumption) (by exact ogb h2)) (aC (i_lt' (decide_eq_true (by omega))) aN)) fun h10 N10 t10 Rp=>?_
    refine s_slice2 (by exact ocv h2) Rp 0 (some ((s:Int),_)) none (some (s:Int)) none rfl rfl rfl fun ty tok=>?_
    refine seg_call hh Rp 12 [] [false,true,true] (.call (.builtin "list.append") ⟨[.ref (N6+0),.str (S (cutL l (some (↑s:Int)) none)) tok],[]⟩) ((N+0,⟨.type "frame",none,.dict #[En x.B n_addr (t+0) (.str (S l) u),En x.B n_start (t6+2) (.int ((↑s:Int)) ts),En x.B n_open_pos (t6+3) (opv),En x.B n_result (t6+4) (.ref (N6+0)),En x.B n_pos q1 (v1),En x.B n_ch q2 (v2)] 6,#[]⟩)::(N6+0,⟨.type "list",none,(.seq ((List.map (fun p=>Value.str (S p.fst) p.snd) ws').toArray) n),#[]⟩)::rest) 0 0 (by rfl') fun h11 N11 t11 Rp=>?_
    refine l_append (items:=(ws'.map fun p=>Value.str (S p.1) p.2).toArray) Rp 1 rfl (by simp;exact oga hw2) rfl fun ha1 Rp=>?_
    dsimp only[setN] at Rp
    refine seg_val hh Rp 12 [] [true,true] Flow.next ((N+0,⟨.type "frame",none,.dict #[En x.B n_addr (t+0) (.str (S l) u),En x.B n_start (t6+2) (.int ((↑s:Int)) ts),En x.B n_open_pos (t6+3) (opv),En x.B n_result (t6+4) (.ref (N6+0)),En x.B n_pos q1 (v1),En x.B n_ch q2 (v2)] 6,#[]⟩)::(N6+0,⟨.type "list",none,(.seq ((List.map (fun p=>Value.str (S p.fst) p.snd) ws').toArray.push (Value.str (S (cutL l (some (↑s:Int)) none)) tok)) (n+1)),#[]⟩)::rest) 0 0 (by rfl') fun h12 N12 t12 Rp=>?_
    have e:((ws'.map fun p=>Value.str (S p.1) p.2).toArray.push (Value.str (S (cutL l (some (s:Int)) none)) tok))=((ws'++[(cutL l (some (s:Int)) none,tok)]).map fun p=>Value.str (S p.1) p.2).toArray:=by simp
    have Rp:=e▸Rp
    show wpAny _ _ (execsZ ..) ..
    refine seg_call hh Rp 18 [5] [true,true] (.call (.builtin "str.join") ⟨[.str (S []) (t12+0),.ref (N6+0)],[]⟩) ((N+0,⟨.type "frame",none,.dict #[En x.B n_addr (t+0) (.str (S l) u),En x.B n_start (t6+2) (.int ((↑s:Int)) ts),En x.B n_open_pos (t6+3) (opv),En x.B n_result (t6+4) (.ref (N6+0)),En x.B n_pos q1 (v1),En x.B n_ch q2 (v2)] 6,#[]⟩)::(N6+0,⟨.type "list",none,(.seq ((List.map (fun p=>Value.str (S p.fst) p.snd) (ws'++[(cutL l (some (↑s:Int)) none,tok)])).toArray) (n+1)),#[]⟩)::rest) 0 1 (by rfl') fun h13 N13 t13 Rp=>?_
    have e2:(ws'++[(cutL l (some (s:Int)) none,tok)]).map (·.1)=acc++[cutL l (some (s:Int)) none]:=by simp[hw1]
    refine s_join Rp 1 _ (ws'++[(cutL l (some (s:Int)) none,tok)]) _ rfl (by rw[e2];exact h4) (by rw[←h5,←e2];simp[Function.comp_def]) fun tz tok2=>?_
    rw[e2]
    refine seg_val hh Rp 12 [] [false,false] (Flow.ret (.str (S (joinL (acc++[cutL l (some (↑s:Int)) none]))) tok2)) (rest) 0 0 (by rfl') fun h14 N14 t14 Rp=>?_
    exact K _ _ _ _ _ hbz Rp
   ·rw[if_neg c,List.append_nil] at K h4 h5
    refine cut 1 ?_
    refine seg_valA hh Rp [⟨.call (.builtin "len") ⟨[.str (S l) u],[]⟩,fun t=>.int ((l.length:Int)) (t+1),2⟩,⟨.call (.builtin "int.__lt__") ⟨[.int ((↑s:Int)) ts,.int ((↑l.length:Int)) (t'+1)],[]⟩,fun _=>.bool false,0⟩] 25 [5,0,0,5,1,2] [true,true] Flow.next ((N+0,⟨.type "frame",none,.dict #[En x.B n_addr (t+0) (.str (S l) u),En x.B n_start (t6+2) (.int ((↑s:Int)) ts),En x.B n_open_pos (t6+3) (opv),En x.B n_result (t6+4) (.ref (N6+0)),En x.B n_pos q1 (v1),En x.B n_ch q2 (v2)] 6,#[]⟩)::(N6+0,⟨.type "list",none,(.seq ((List.map (fun p=>Value.str (S p.fst) p.snd) ws').toArray) n),#[]⟩)::rest) 0 2 (by rfl') (aC (s_len' (by first|rfl|assumption) (by exact ogb h2)) (aC (i_lt' (decide_eq_false (by omega))) aN)) fun h10 N10 t10 Rp=>?_
    show wpAny _ _ (execsZ ..) ..
    refine seg_call hh Rp 18 [5] [true,true] (.call (.builtin "str.join") ⟨[.str (S []) (t10+0),.ref (N6+0)],[]⟩) ((N+0,⟨.type "frame",none,.dict #[En x.B n_addr (t+0) (.str (S l) u),En x.B n_start (t6+2) (.int ((↑s:Int)) ts),En x.B n_open_pos (t6+3) (opv),En x.B n_result (t6+4) (.ref (N6+0)),En x.B n_pos q1 (v1),En x.B n_ch q2 (v2)] 6,#[]⟩)::(N6+0,⟨.type "list",none,(.seq ((List.map (fun p=>Value.str (S p.fst) p.snd) ws').toArray) n),#[]⟩)::rest) 0 1 (by rfl') fun h11 N11 t11 Rp=>?_
    refine s_join Rp 1 _ ws' _ rfl (by rw[hw1];exact h4) (by rw[←h5,←hw1];simp[Function.comp_def]) fun tz tok2=>?_
    rw[hw1]
    refine seg_val hh Rp 12 [] [false,false] (Flow.ret (.str (S (joinL acc)) tok2)) (rest) 0 0 (by rfl') fun h12 N12 t12 Rp=>?_
    exact K _ _ _ _ _ hbz Rp
  by_cases hq:w=[34]
  ·refine st_q00 x (A.under _) hh (by show A.depth+1<800;exact odc hA) _ (N+0) a (N6+0) gl.size nm qn l (by exact ocv h2) 0 0 0 0 (t+0) (t6+2) (t6+3) (t6+4) u (t6+1) [] (by simp) i w outs _ _ hG hq _ _ _ _ hg d os rest Rp fun h' N' t' gl' gs' cs' q1 q2 v1 v2 ts ux tok n G' hg' Rp=>?_
   refine st_loop x (A.under _) hh (by show A.depth+1<800;exact odc hA) _ (N+0) a (N6+0) gl.size nm qn l (by exact ocv h2) (t+0) (t6+2) (t6+3) (t6+4) u d os rest outs 0 n ux ts (some i) [] (by simp;exact ogc ho3) q1 q2 v1 v2 gs' cs' G' _ _ _ _ hg' Rp fun h' N' t' gl' q1 q2 v1 v2 ts opv n ws' hw1 hw2 hbz Rp=>?_
   have ez:stp l (lexB false 0 l) 0 none []=stp l outs 0 (some i) []:=by rw[ho];show(if w=[34] then _ else _)=_;rw[if_pos hq]
   have Rp:Rep x.B N' h' ((N+0,stFr x l (t+0) (t6+2) (t6+3) (t6+4) u ts (N6+0) (stp l outs 0 (some i) []).1 opv [En x.B n_pos q1 v1,En x.B n_ch q2 v2] 6)::(N6+0,strsO ws' n)::rest) 0:=Rp
   refine seg_val hh Rp 11 [] [true,true] Flow.next ((N+0,⟨.type "frame",none,.dict #[En x.B n_addr (t+0) (.str (S l) u),En x.B n_start (t6+2) (.int ((↑(stp l outs 0 (some i) []).fst:Int)) ts),En x.B n_open_pos (t6+3) (opv),En x.B n_result (t6+4) (.ref (N6+0)),En x.B n_pos q1 (v1),En x.B n_ch q2 (v2)] 6,#[]⟩)::(N6+0,⟨.type "list",none,(.seq ((List.map (fun p=>Value.str (S p.fst) p.snd) ws').toArray) n),#[]⟩)::rest) 0 0 (by rfl') fun h10 N10 t10 Rp=>?_
   show wpAny _ _ (execsZ ..) ..
   exact fin _ _ _ _ _ _ _ _ _ _ _ ws' (by rw[ez];exact hw1) hw2 hbz (by rw[ez];exact Rp)
  ·refine st_n0 x (A.under _) hh (by show A.depth+1<800;exact odc hA) _ (N+0) a (N6+0) gl.size nm qn l (by exact ocv h2) 0 0 0 0 (t+0) (t6+2) (t6+3) (t6+4) u (t6+1) [] (by simp) i w outs _ _ hG hq _ _ _ _ hg d os rest Rp fun h' N' t' gl' gs' cs' q1 q2 v1 v2 ts ux tok n G' hg' Rp=>?_
   refine st_loop x (A.under _) hh (by show A.depth+1<800;exact odc hA) _ (N+0) a (N6+0) gl.size nm qn l (by exact ocv h2) (t+0) (t6+2) (t6+3) (t6+4) u d os rest outs 0 n ux ts none [] (by simp;exact ogc ho3) q1 q2 v1 v2 gs' cs' G' _ _ _ _ hg' Rp fun h' N' t' gl' q1 q2 v1 v2 ts opv n ws' hw1 hw2 hbz Rp=>?_
   have ez:stp l (lexB false 0 l) 0 none []=stp l outs 0 none []:=by rw[ho];show(if w=[34] then _ else _)=_;rw[if_neg hq]
   have Rp:Rep x.B N' h' ((N+0,stFr x l (t+0) (t6+2) (t6+3) (t6+4) u ts (N6+0) (stp l outs 0 none []).1 opv [En x.B n_pos q1 v1,En x.B n_ch q2 v2] 6)::(N6+0,strsO ws' n)::rest) 0:=Rp
   refine seg_val hh Rp 11 [] [true,true] Flow.next ((N+0,⟨.type "frame",none,.dict #[En x.B n_addr (t+0) (.str (S l) u),En x.B n_start (t6+2) (.int ((↑(stp l outs 0 none []).fst:Int)) ts),En x.B n_open_pos (t6+3) (opv),En x.B n_result (t6+4) (.ref (N6+0)),En x.B n_pos q1 (v1),En x.B n_ch q2 (v2)] 6,#[]⟩)::(N6+0,⟨.type "list",none,(.seq ((List.map (fun p=>Value.str (S p.fst) p.snd) ws').toArray) n),#[]⟩)::rest) 0 0 (by rfl') fun h10 N10 t10 Rp=>?_
   show wpAny _ _ (execsZ ..) ..
   exact fin _ _ _ _ _ _ _ _ _ _ _ ws' (by rw[ez];exact hw1) hw2 hbz (by rw[ez];exact Rp)
theorem codeTo{M:Model}{A:Around}{c:Code}{R:Result→Shared→Prop}{s:Shared}(P:Result→Shared→Prop)(h:codeAny M A c P s)(K:∀r s',P r s'→R r s'):codeAny M A c R s:=codeAny_mono h K
noncomputable def checkP(l:List Nat):Bool:=match parL 0 (lexB false 0 (stripL l)) with
 |none=>false
 |some k=>decide (k=0)
noncomputable def okC(l:List Nat):Bool:=okL l&&(stripL l).all (·<128)
theorem check(x:W2)(A:Around)(hh:A.handled=none)(hA:A.depth<600)(R:Result→Shared→Prop)(l:List Nat)(hok:okC l=true)(b:Bool)(hb:checkP l=b)(u:Nat)(N t:Nat)(h:Heap)(gl d os)(hgb:AllBare gl)(rest:Cells)(Rp:Rep x.B N h rest 0)
 (K:∀h' N' t' gl',AllBare gl'→Rep x.B N' h' rest 0→R (.ok (.ret (.bool b))) ⟨h',gl',d,t',os⟩):
 codeAny (MB x.B) A (.call (.ref 59) ⟨[.str (S l) u],[]⟩) R ⟨h,gl,d,t,os⟩:=by
 simp only[okC,Bool.and_eq_true] at hok
 obtain⟨hok,h1⟩:=hok
 have hasc:Asc (stripL l):=fun c hc=>by simpa using(List.all_eq_true.mp h1) c hc
 unfold checkP at hb
 generalize hm:stripL l=m at*
 refine enter hh Rp (by first|assumption|(simp only[Around.under,Code.weight,recursionLimit] at*;omega)) 18 [0,0,5,1] [] (bodyOf (fdOf x.B 59)) (envOf (fdOf x.B 59) 59 (N+0)) ((N+0,⟨.type "frame",none,.dict #[En x.B n_addr (t+0) (.str (S l) u)] 1,#[]⟩)::rest) 1 1 (by rfl') fun h2 N2 t2 Rp=>?_
 refine cut 1 ?_
 refine seg_call hh Rp 18 [0,5,0] [true] (.call (.ref 52) ⟨[.str (S l) u],[]⟩) ((N+0,⟨.type "frame",none,.dict #[En x.B n_addr (t+0) (.str (S l) u)] 1,#[]⟩)::rest) 0 0 (by rfl') fun h3 N3 t3 Rp=>?_
 refine strip x (A.under _) hh (by show A.depth+1<700;omega) _ l hok _ _ _ _ _ _ _ hgb _ Rp fun h' N' t' gl' v hgb' Rp=>?_
 rw[hm]
 refine seg_val hh Rp 19 [5,1] [true] Flow.next ((N+0,⟨.type "frame",none,.dict #[En x.B n_addr (t+0) (.str (S m) v)] 1,#[]⟩)::rest) 0 1 (by rfl') fun h4 N4 t4 Rp=>?_
 refine cut 1 ?_
 refine seg_val hh Rp 20 [5,1] [true] Flow.next ((N+0,⟨.type "frame",none,.dict #[En x.B n_addr (t+0) (.str (S m) v),En x.B n_opens (t4+1) (.int 0 (t4+0))] 2,#[]⟩)::rest) 0 2 (by rfl') fun h5 N5 t5 Rp=>?_
 refine cut 1 ?_
 refine seg_call hh Rp 18 [0,5,0] [true] (.call (.ref 45) ⟨[.str (S m) v],[]⟩) ((N+0,⟨.type "frame",none,.dict #[En x.B n_addr (t+0) (.str (S m) v),En x.B n_opens (t4+1) (.int 0 (t4+0))] 2,#[]⟩)::rest) 0 0 (by rfl') fun h6 N6 t6 Rp=>?_
 refine mk_gen x (A.under _) hh (by show A.depth+1<900;omega) _ m _ _ _ _ _ _ _ _ Rp fun h' N' t' a F' ka nm qn Rp=>?_
 refine seg_call hh Rp 21 [5,5,0,5,5] [true,true,true] (loopOf (stmtAt x.B 59 2) (.ref a) (envOf (fdOf x.B 59) 59 (N+0))) ((a,⟨.type "generator",none,.fields #[.int ((↑gl'.size:Int)) 0,nm,qn],#[]⟩)::(F',⟨.type "frame",none,.dict #[En x.B n_addr ka (.str (S m) v)] 1,#[]⟩)::(N+0,⟨.type "frame",none,.dict #[En x.B n_addr (t+0) (.str (S m) v),En x.B n_opens (t4+1) (.int 0 (t4+0))] 2,#[]⟩)::rest) 0 0 (by rfl') fun h7 N7 t7 Rp=>?_
 have hG:=gen_fresh x F' m hasc ka v
 have hg:GlAt (gl'.push (.fresh (geBody x F'))) gl'.size (.fresh (geBody x F')):=⟨Array.getElem?_push_size,hgb'.push rfl⟩
 have Rp:=Rp.perm ((List.perm_middle (l₁:=[_,_])))
 refine codeTo (fun r s'=>AllBare s'.gens∧((r=.ok (.ret (.bool false))∧b=false∧∃h' N' t' gl',Rep x.B N' h' rest 0∧s'=⟨h',gl',d,t',os⟩)∨(r=.ok .next∧∃k h' N' t' gl' tk q1 q2 v1 v2,decide (k=0)=b∧Rep x.B N' h' ((N+0,cpFr x (t+0) (t4+1) tk (.str (S m) v) k [En x.B n_pos q1 v1,En x.B n_ch q2 v2] 4)::rest) 0∧s'=⟨h',gl',d,t',os⟩)
  ∨(r=.ok .next∧b=true∧∃h' N' t' gl' tk,Rep x.B N' h' ((N+0,cpFr x (t+0) (t4+1) tk (.str (S m) v) 0 [] 2)::rest) 0∧s'=⟨h',gl',d,t',os⟩))) ?_ ?_
 ·have go:∀(k:Int) (outs:List (Nat×List Nat)) (hb:(match parL k outs with|none=>false|some k=>decide (k=0))=b) (P:Result→Shared→Prop)
   (_:∀h' N' t' gl',AllBare gl'→b=false→Rep x.B N' h' rest 0→P (.ok (.ret (.bool false))) ⟨h',gl',d,t',os⟩)
   (_:∀k h' N' t' gl' tk q1 q2 v1 v2,AllBare gl'→decide (k=0)=b→Rep x.B N' h' ((N+0,cpFr x (t+0) (t4+1) tk (.str (S m) v) k [En x.B n_pos q1 v1,En x.B n_ch q2 v2] 4)::rest) 0→P (.ok .next) ⟨h',gl',d,t',os⟩)
   (tk q1 q2:Nat) (v1 v2:Value) (gs:GenState) (cs:Cells) (_:GenP x outs gs cs) (N' t':Nat) (h':Heap) (gl'':Array GenState) (_:GlAt gl'' gl'.size gs)
   (_:Rep x.B N' h' ((N+0,cpFr x (t+0) (t4+1) tk (.str (S m) v) k [En x.B n_pos q1 v1,En x.B n_ch q2 v2] 4)::(a,GenO gl'.size nm qn)::(cs++rest)) 0),
   codeAny (MB x.B) (A.under (.func (bodyOf (fdOf x.B 59)) (envOf (fdOf x.B 59) 59 (N+0)))) (cpLoop x (N+0) a) P ⟨h',gl'',d,t',os⟩:=by
   intro k outs hb P K1 K2 tk q1 q2 v1 v2 gs cs G N' t' h' gl'' hg Rp
   refine cp_loop x (A.under _) hh (by show A.depth+1<800;exact ocw hA) P (N+0) a _ nm qn _ _ _ d os rest outs k tk q1 q2 v1 v2 gs cs G N' t' h' gl'' hg Rp (fun e h' N' t' gl' hz Rp=>?_) (fun k' e h' N' t' gl' tk q1 q2 v1 v2 hz Rp=>?_)
   ·rw[e] at hb
    exact K1 _ _ _ _ hz hb.symm Rp
   ·rw[e] at hb
    exact K2 _ _ _ _ _ _ _ _ _ _ hz hb Rp
  have P1:∀h' N' t' gl',AllBare gl'→b=false→Rep x.B N' h' rest 0→(fun r s'=>AllBare s'.gens∧((r=.ok (.ret (.bool false))∧b=false∧∃h' N' t' gl',Rep x.B N' h' rest 0∧s'=(⟨h',gl',d,t',os⟩:Shared))∨(r=.ok .next∧∃k h' N' t' gl' tk q1 q2 v1 v2,decide (k=0)=b∧Rep x.B N' h' ((N+0,cpFr x (t+0) (t4+1) tk (.str (S m) v) k [En x.B n_pos q1 v1,En x.B n_ch q2 v2] 4)::rest) 0∧s'=⟨h',gl',d,t',os⟩)
   ∨(r=.ok .next∧b=true∧∃h' N' t' gl' tk,Rep x.B N' h' ((N+0,cpFr x (t+0) (t4+1) tk (.str (S m) v) 0 [] 2)::rest) 0∧s'=⟨h',gl',d,t',os⟩))) (Except.ok (Flow.ret (.bool false)):Result) ⟨h',gl',d,t',os⟩:=fun h' N' t' gl' hz e Rp=>⟨hz,.inl ⟨rfl,e,_,_,_,_,Rp,rfl⟩⟩
  generalize lexB false 0 m=outs at*
  cases outs with
  |nil=>
   refine cp_end x (A.under _) hh (by show A.depth+1<800;exact ocw hA) _ (N+0) a _ _ nm qn _ _ hG _ _ _ _ hg d os rest Rp fun h' N' t' gl' hz Rp=>?_
   exact⟨hz,.inr (.inr ⟨rfl,hb.symm,_,_,_,_,_,Rp,rfl⟩)⟩
  |cons o outs=>
   obtain⟨i,w⟩:=o
   unfold parL at hb
   by_cases w1:w=[40]
   ·rw[if_pos w1] at hb
    refine cp_o0 x (A.under _) hh (by show A.depth+1<800;exact ocw hA) _ (N+0) a _ nm qn _ 0 _ _ _ i w outs _ _ hG w1 _ _ _ _ hg d os rest Rp fun h' N' t' gl' gs' cs' q1 q2 v1 v2 tk G' hg' Rp=>?_
    exact go (0+1) outs hb _ P1 (fun k h' N' t' gl' tk q1 q2 v1 v2 hz e Rp=>⟨hz,.inr (.inl ⟨rfl,_,_,_,_,_,_,_,_,_,_,e,Rp,rfl⟩)⟩) _ _ _ _ _ _ _ G' _ _ _ _ hg' Rp
   rw[if_neg w1] at hb
   by_cases w2:w=[41]
   ·rw[if_pos w2,if_pos (by decide)] at hb
    exact cp_f0 x (A.under _) hh (by show A.depth+1<800;exact ocw hA) _ (N+0) a _ nm qn _ 0 _ _ _ i w outs _ _ hG w2 (by decide) _ _ _ _ hg d os rest Rp fun h' N' t' gl' hz Rp=>⟨hz,.inl ⟨rfl,hb.symm,_,_,_,_,Rp,rfl⟩⟩
   ·rw[if_neg w2] at hb
    refine cp_n0 x (A.under _) hh (by show A.depth+1<800;exact ocw hA) _ (N+0) a _ nm qn _ 0 _ _ _ i w outs _ _ hG w1 w2 _ _ _ _ hg d os rest Rp fun h' N' t' gl' gs' cs' q1 q2 v1 v2 tk G' hg' Rp=>?_
    exact go 0 outs hb _ P1 (fun k h' N' t' gl' tk q1 q2 v1 v2 hz e Rp=>⟨hz,.inr (.inl ⟨rfl,_,_,_,_,_,_,_,_,_,_,e,Rp,rfl⟩)⟩) _ _ _ _ _ _ _ G' _ _ _ _ hg' Rp
 ·clear Rp hG hg
  rintro r s' ⟨hz,(⟨rfl,hb0,h',N',t',gl'',Rp,rfl⟩|⟨rfl,k,h',N',t',gl'',tk,q1,q2,v1,v2,hk,Rp,rfl⟩|⟨rfl,hb1,h',N',t',gl'',tk,Rp,rfl⟩)⟩
  ·subst hb0
   refine seg_val hh Rp 11 [] [] (Flow.ret (.bool false)) (rest) 0 0 (by rfl') fun h8 N8 t8 Rp=>?_
   exact K _ _ _ _ hz Rp
  ·dsimp only[cpFr] at Rp
   refine seg_val hh Rp 11 [] [true] Flow.next ((N+0,⟨.type "frame",none,.dict #[En x.B n_addr (t+0) (.str (S m) v),En x.B n_opens (t4+1) (.int (k) tk),En x.B n_pos q1 (v1),En x.B n_ch q2 (v2)] 4,#[]⟩)::rest) 0 0 (by rfl') fun h8 N8 t8 Rp=>?_
   show wpAny _ _ (execsZ ..) ..
   by_cases c:k=0
   ·rw[decide_eq_true c] at hk
    subst hk
    refine seg_valA hh Rp [⟨.call (.builtin "int.__eq__") ⟨[.int (k) tk,.int 0 (t8+0)],[]⟩,fun _=>.bool true,0⟩] 18 [5,1] [false] (Flow.ret (.bool true)) (rest) 0 1 (by rfl') (aC (i_eq' (decide_eq_true (by omega))) aN) fun h9 N9 t9 Rp=>?_
    exact K _ _ _ _ hz Rp
   ·rw[decide_eq_false c] at hk
    subst hk
    refine seg_valA hh Rp [⟨.call (.builtin "int.__eq__") ⟨[.int (k) tk,.int 0 (t8+0)],[]⟩,fun _=>.bool false,0⟩] 18 [5,1] [false] (Flow.ret (.bool false)) (rest) 0 1 (by rfl') (aC (i_eq' (decide_eq_false (by omega))) aN) fun h9 N9 t9 Rp=>?_
    exact K _ _ _ _ hz Rp
  ·dsimp only[cpFr] at Rp
   subst hb1
   refine seg_val hh Rp 11 [] [true] Flow.next ((N+0,⟨.type "frame",none,.dict #[En x.B n_addr (t+0) (.str (S m) v),En x.B n_opens (t4+1) (.int 0 tk)] 2,#[]⟩)::rest) 0 0 (by rfl') fun h8 N8 t8 Rp=>?_
   show wpAny _ _ (execsZ ..) ..
   refine seg_val hh Rp 20 [5,0] [false] (Flow.ret (.bool true)) (rest) 0 1 (by rfl') fun h9 N9 t9 Rp=>?_
   exact K _ _ _ _ hz Rp
noncomputable def SrchOk(x:W2)(P:Addr)(w:List Nat):Prop:=∀(A:Around) (_:A.handled=none) (R:Result→Shared→Prop) (u:Nat) (N t:Nat) (h:Heap) (gl d os) (rest:Cells) (_:Rep x.B N h rest 0)
 (_:∀h' N' t',Rep x.B N' h' rest 0→R (.ok (.ret .none)) ⟨h',gl,d,t',os⟩),codeAny (MB x.B) A (.call (.builtin "re.Pattern.search") ⟨[.ref P,.str (S w) u],[]⟩) R ⟨h,gl,d,t,os⟩
theorem adm(m:Sre.M)(s1:Sre.Seen)(H:∀i,i<m.lim→Sre.inSet m.code (m.text.getD i 0) m.code.size 5 true s1=.ok (false,s1)):∀fuel s,m.admitted fuel s s1=.ok (none,s1)
 |0,_=>rfl
 |fuel+1,s=>by
  unfold Sre.M.admitted
  split
  ·rfl
  ·rw[H s (by omega)]
   exact adm m s1 H fuel (s+1)
theorem adm0(m:Sre.M)(s0 s1:Sre.Seen)(hl:0<m.lim)(H0:Sre.inSet m.code (m.text.getD 0 0) m.code.size 5 true s0=.ok (false,s1))(H:∀i,i<m.lim→Sre.inSet m.code (m.text.getD i 0) m.code.size 5 true s1=.ok (false,s1))(fuel:Nat):m.admitted (fuel+1) 0 s0=.ok (none,s1):=by
 unfold Sre.M.admitted
 split
 ·omega
 ·rw[H0]
  exact adm m s1 H fuel 1
noncomputable def codeN:Array Nat:=#[14,10,4,1,1,22,0,31,16,127,0,13,7,22,0,31,16,127,0,1]
noncomputable def codeV:Array Nat:=#[14,14,4,1,1,9,4294966783,0,0,2147483648,0,0,0,0,0,13,11,9,4294966783,0,0,2147483648,0,0,0,0,0,1]
noncomputable def sn0:Sre.Seen:=({}:Sre.Seen).add 14
noncomputable def snN:Sre.Seen:=((sn0.add 22).add 16).add 0
noncomputable def snV:Sre.Seen:=(sn0.add 9).add 0
noncomputable def okS(code:Array Nat)(s0 s1:Sre.Seen)(c:Nat):Bool:=match Sre.inSet code c code.size 5 true s0 with
 | .ok (b,s)=>!b&&(Nat.beq s.words s1.words&&Nat.beq s.others s1.others)
 | .error _=>false
theorem okS_ok{code:Array Nat}{s0 s1:Sre.Seen}{c:Nat}(h:okS code s0 s1 c=true):Sre.inSet code c code.size 5 true s0=.ok (false,s1):=by
 unfold okS at h
 split at h
 ·rename_i b s e
  rw[e]
  simp only[Bool.and_eq_true,Bool.not_eq_true'] at h
  obtain⟨rfl,h1,h2⟩:=h
  obtain⟨x,y⟩:=s
  obtain⟨x',y'⟩:=s1
  rw[show x=x' from Nat.eq_of_beq_eq_true h1,show y=y' from Nat.eq_of_beq_eq_true h2]
 ·cases h
theorem all95{p:Nat→Bool}(h:(List.range 95).all (fun k=>p (k+32))=true){c:Nat}(h1:32≤c)(h2:c<127):p c=true:=by
 have:=List.all_eq_true.mp h (c-32) (List.mem_range.mpr (by omega))
 rwa[show c-32+32=c by omega] at this
theorem inN{c:Nat}(h1:32≤c)(h2:c<127):Sre.inSet codeN c codeN.size 5 true sn0=.ok (false,snN)∧Sre.inSet codeN c codeN.size 5 true snN=.ok (false,snN):=
 ⟨okS_ok (all95 (p:=okS codeN sn0 snN) (by rfl') h1 h2),okS_ok (all95 (p:=okS codeN snN snN) (by rfl') h1 h2)⟩
theorem inV{c:Nat}(h1:32≤c)(h2:c<127):Sre.inSet codeV c codeV.size 5 true sn0=.ok (false,snV)∧Sre.inSet codeV c codeV.size 5 true snV=.ok (false,snV):=
 ⟨okS_ok (all95 (p:=okS codeV sn0 snV) (by rfl') h1 h2),okS_ok (all95 (p:=okS codeV snV snV) (by rfl') h1 h2)⟩
noncomputable def mFail(code:Array Nat)(w:Array Nat)(n pc:Nat)(sn:Sre.Seen):Sre.M:={code:=code,text:=w,lim:=n+1,start:=0,lastStart:=n+1,pc:=pc,pos:=0,handed:=0,marks:=#[],seen:=sn,answer:=some false}
theorem fsN(w:Array Nat)(n:Nat)(hn:n<w.size)(hw:∀i,i<w.size→32≤w.getD i 0∧w.getD i 0<127):Sre.forSearch codeN w 0 0 (n+1) false=mFail codeN w n 11 snN:=by
 have e:Sre.forSearch codeN w 0 0 (n+1) false=({code:=codeN,text:=w,lim:=n+1,start:=0,lastStart:=n+1,pc:=11,pos:=0,handed:=0,marks:=#[],seen:=sn0}:Sre.M).attemptFrom 0 true:=by rfl'
 rw[e]
 unfold Sre.M.attemptFrom
 rw[show(!Sre.M.hasFirstSet _)=false by rfl']
 rw[show(n+1+1-0)=(n+1)+1 by exact zqcw]
 rw[adm0 _ sn0 snN (Nat.succ_pos n) (inN (hw 0 (by exact zqbb hn)).1 (hw 0 (by exact zqbb hn)).2).1 (fun i hi=>(inN (hw i (by have:i<n+1:=hi;exact zqbc hn this)).1 (hw i (by have:i<n+1:=hi;exact zqbc hn this)).2).2)]
 rfl'
theorem fsV(w:Array Nat)(n:Nat)(hn:n<w.size)(hw:∀i,i<w.size→32≤w.getD i 0∧w.getD i 0<127):Sre.forSearch codeV w 0 0 (n+1) false=mFail codeV w n 15 snV:=by
 have e:Sre.forSearch codeV w 0 0 (n+1) false=({code:=codeV,text:=w,lim:=n+1,start:=0,lastStart:=n+1,pc:=15,pos:=0,handed:=0,marks:=#[],seen:=sn0}:Sre.M).attemptFrom 0 true:=by rfl'
 rw[e]
 unfold Sre.M.attemptFrom
 rw[show(!Sre.M.hasFirstSet _)=false by rfl']
 rw[show(n+1+1-0)=(n+1)+1 by exact zqcw]
 rw[adm0 _ sn0 snV (Nat.succ_pos n) (inV (hw 0 (by exact zqbb hn)).1 (hw 0 (by exact zqbb hn)).2).1 (fun i hi=>(inV (hw i (by have:i<n+1:=hi;exact zqbc hn this)).1 (hw i (by have:i<n+1:=hi;exact zqbc hn this)).2).2)]
 rfl'
noncomputable def tgt(P:Addr)(code:Array Nat)(w:List Nat)(u L:Nat):Builtin.Re.ReTarget:=⟨.ref P,.str (S w) u,code,w.toArray,0,0,0,L⟩
theorem getD_w{w:List Nat}(hw:∀c∈w,32≤c∧c<127):∀i,i<w.toArray.size→32≤w.toArray.getD i 0∧w.toArray.getD i 0<127:=by
 intro i hi
 have:w.toArray.getD i 0=w[i]'(by simpa using hi):=by simp at hi;simp[hi]
 rw[this]
 exact hw _ (List.getElem_mem _)
theorem lim_w{w:List Nat}(h0:w≠[]):∃n,min (2^63-1) w.toArray.size=n+1∧n<w.toArray.size:=by
 have:0<w.length:=List.length_pos_iff.mpr h0
 refine⟨min (2^63-1) w.toArray.size-1,?_,?_⟩<;>simp<;>omega
theorem srchN(x:W2)(w:List Nat)(h0:w≠[])(hw:∀c∈w,32≤c∧c<127):SrchOk x 127 w:=by
 intro A hh R u N t h gl d os rest Rp K
 refine codeAny_call_builtin_at (b:=Builtin.«re.Pattern.search») (Code.quiet_builtin _ (by decide+kernel)) (entryFor_of_tree (by kernel_rfl)) ?_
 with_reducible refine seg_valD (by with_unfolding_all exact hh) Rp [] 12 (dA 0x1) [] () [] [] 0 0 ?_
 intro Tb1 h1 N1 t1 Rp
 show wpAny _ _ (Builtin.Re.reTarget "re.Pattern.search" "search" _ >>= fun t=>Builtin.Re.reAnswer t (Sre.forSearch t.code t.text t.groups t.pos t.lim false)) _ _ _
 refine wpAny_bind ?_
 with_reducible refine seg_valD (by with_unfolding_all exact hh) Rp [] 13 (dA 0x41) [] (tgt 127 codeN w u (min (2^63-1) w.toArray.size)) [] [] 0 0 ?_
 intro Tb h2 N2 t2 Rp
 obtain⟨n,hn,hn2⟩:=lim_w h0
 rw[hn]
 show wpAny _ _ (Builtin.Re.reAnswer _ (Sre.forSearch codeN w.toArray 0 0 (n+1) false)) _ _ _
 rw[fsN w.toArray n hn2 (getD_w hw)]
 with_reducible refine seg_valD (by with_unfolding_all exact hh) Rp [] 15 (dA 0x0) [] (Fin.done (Flow.ret .none)) [] [] 0 0 ?_
 intro Tb3 h3 N3 t3 Rp
 exact K _ _ _ Rp
theorem srchV(x:W2)(w:List Nat)(h0:w≠[])(hw:∀c∈w,32≤c∧c<127):SrchOk x 132 w:=by
 intro A hh R u N t h gl d os rest Rp K
 refine codeAny_call_builtin_at (b:=Builtin.«re.Pattern.search») (Code.quiet_builtin _ (by decide+kernel)) (entryFor_of_tree (by kernel_rfl)) ?_
 with_reducible refine seg_valD (by with_unfolding_all exact hh) Rp [] 12 (dA 0x1) [] () [] [] 0 0 ?_
 intro Tb1 h1 N1 t1 Rp
 show wpAny _ _ (Builtin.Re.reTarget "re.Pattern.search" "search" _ >>= fun t=>Builtin.Re.reAnswer t (Sre.forSearch t.code t.text t.groups t.pos t.lim false)) _ _ _
 refine wpAny_bind ?_
 with_reducible refine seg_valD (by with_unfolding_all exact hh) Rp [] 13 (dA 0x41) [] (tgt 132 codeV w u (min (2^63-1) w.toArray.size)) [] [] 0 0 ?_
 intro Tb h2 N2 t2 Rp
 obtain⟨n,hn,hn2⟩:=lim_w h0
 rw[hn]
 show wpAny _ _ (Builtin.Re.reAnswer _ (Sre.forSearch codeV w.toArray 0 0 (n+1) false)) _ _ _
 rw[fsV w.toArray n hn2 (getD_w hw)]
 with_reducible refine seg_valD (by with_unfolding_all exact hh) Rp [] 14 (dA 0x0) [] (Fin.done (Flow.ret .none)) [] [] 0 0 ?_
 intro Tb3 h3 N3 t3 Rp
 exact K _ _ _ Rp
end Mine
namespace Mine
open PySem PySem.W PySem.W.X PyProof.Rows PySem.Spec PySem.Calls PySem.NumText
noncomputable def dg(n:Int):List Nat:=(Str.ofString (toString n)).cps.toList
theorem dg_nat(m:Nat):dg (m:Int)=(Nat.toDigits 10 m).map Char.toNat:=KIN.signs_num m
theorem dg_neg(m:Nat):dg (Int.negSucc m)=45::(Nat.toDigits 10 (m+1)).map Char.toNat:=by
 unfold dg
 rw[signs_ofString]
 show(("-"++Nat.repr (m+1):String)).toList.map Char.toNat=_
 rw[String.toList_append,List.map_append,Nat.toList_repr]
 rfl
theorem digs_all(m:Nat):AllDigits ((Nat.toDigits 10 m).map Char.toNat):=by
 intro c hc
 obtain⟨ch,hch,e⟩:=List.mem_map.mp hc
 have r:=digit_range (Nat.isDigit_of_mem_toDigits (by decide) (by decide) hch)
 rw[←e]
 exact r
theorem digs_ne(m:Nat):(Nat.toDigits 10 m).map Char.toNat≠[]:=by
 intro e
 have h:=toDigits_len_ge 10 m
 rw[List.map_eq_nil_iff.mp e] at h
 exact absurd h (by decide)
theorem dg_len{n:Int}(h:n.natAbs<10^100):(S (dg n)).length≤200:=by
 show(dg n).length≤200
 cases n with
 |ofNat m=>
  show(dg (m:Int)).length≤200
  rw[dg_nat,List.length_map]
  have:=toDigits_len_pow (b:=10) (k:=100) (n:=m) (by decide) (by decide) h
  omega
 |negSucc m=>
  rw[dg_neg,List.length_cons,List.length_map]
  have:=toDigits_len_pow (b:=10) (k:=100) (n:=m+1) (by decide) (by decide) h
  omega
theorem dg_ne(n:Int):dg n≠[]:=by
 cases n with
 |ofNat m=>exact fun e=>digs_ne m ((dg_nat m).symm.trans e)
 |negSucc m=>rw[dg_neg];exact fun e=>nomatch e
theorem dg_ok(n:Int):∀c∈dg n,32≤c∧c<127:=by
 intro c hc
 cases n with
 |ofNat m=>
  have hc:c∈dg (m:Int):=hc
  rw[dg_nat] at hc
  have:=digs_all m c hc
  exact zqcx this
 |negSucc m=>
  rw[dg_neg] at hc
  rcases List.mem_cons.mp hc with rfl|hc
  ·decide
  ·have:=digs_all (m+1) c hc
   exact zqcx this
theorem dg_reads{n:Int}(h:n.natAbs<10^100):PySem.intText? (S (dg n))=some n:=by
 have hl:=dg_len h
 cases n with
 |ofNat m=>
  have e:=intText_digits (x:=S (dg (m:Int))) (by show AllDigits (dg (m:Int));rw[dg_nat];exact digs_all m) (by show dg (m:Int)≠[];exact dg_ne _) (Nat.le_trans hl (by decide))
  have e2:(S (dg (m:Int))).cps.toList=(Nat.toDigits 10 m).map Char.toNat:=dg_nat m
  rw[e2,KIN.val_back] at e
  exact e
 |negSucc m=>
  have e:=intText_neg (x:=S (dg (Int.negSucc m))) (cs:=(Nat.toDigits 10 (m+1)).map Char.toNat) (dg_neg m) (digs_all _) (digs_ne _) (Nat.le_trans hl (by decide))
  rw[KIN.val_back] at e
  exact e
section
variable {B:Base} {A:Around} {R:Result→Shared→Prop} {n:Int} {u t:Nat} {h:Heap} {gl:Array GenState} {d:Drawn} {os:OsState}
theorem int_new(hn:n.natAbs<10^100)(K:R (.ok (.ret (.int n t))) ⟨h,gl,d,t+1,os⟩):codeAny (MB B) A (.call (.builtin "int.__new__") ⟨[.type "int",.str (S (dg n)) u],[]⟩) R ⟨h,gl,d,t,os⟩:=
 codeAny_call_builtin F.called_int.plain F.entry_int_new (wpAny_of_eq (F.newCall_int_1 _) (KIN.gives_text (Nat.le_trans (dg_len hn) (by decide)) (dg_reads hn) B.prog B.w A R _ K))
theorem str_new(hn:n.natAbs<10^100)(K:R (.ok (.ret (.str (S (dg n)) t))) ⟨h,gl,d,t+1,os⟩):codeAny (MB B) A (.call (.builtin "str.__new__") ⟨[.type "str",.int n u],[]⟩) R ⟨h,gl,d,t,os⟩:=by
 have ha:n.natAbs.log2<1920:=by
  by_cases z:n.natAbs=0
  ·rw[z];decide
  ·exact(Nat.log2_lt z).mpr (Nat.lt_of_lt_of_le hn (by decide+kernel))
 exact codeAny_call_builtin F.called_str.plain F.entry_str_new (wpAny_of_eq (F.newCall_str_1 _) (meets_str_new (S:=fun _ R s=>R (.ok (.ret (.str (toString n) s.toks))) {s with toks:=s.toks+1}) (fun _ _ _ _ s hq=>
  wpAny_strOf_gives rfl (typeIs_int s n u) F.slot_int_str F.slot_int_repr F.entry_int_repr (F.args_int_repr_1 _) (gives_int_repr n u ha) hq (hsz:=int_text_fits ha)) B.prog B.w A R _ K))
end
end Mine
namespace Mine
open PySem PySem.W PySem.W.X PyProof.Rows PySem.Spec PySem.Calls
theorem int_s(x:W2)(A:Around)(hh:A.handled=none)(R:Result→Shared→Prop)(n:Int)(hn:n.natAbs<10^100)(u:Nat)(N t:Nat)(h:Heap)(gl d os)(rest:Cells)(Rp:Rep x.B N h rest 0)
 (K:∀h' N' t' v,Rep x.B N' h' rest 0→R (.ok (.ret (.int n v))) ⟨h',gl,d,t',os⟩):
 codeAny (MB x.B) A (.call (.type "int") ⟨[.str (S (dg n)) u],[]⟩) R ⟨h,gl,d,t,os⟩:=by
 refine code_tree ?_
 with_reducible refine seg_valD (by with_unfolding_all exact hh) Rp [] 11 (dA 0x0) [] (Fin.again (.builtin "type.__call__" ⟨[.type "int",.str (S (dg n)) u],[]⟩)) [] [] 0 0 ?_
 intro Tb1 h1 N1 t1 Rp
 refine⟨Code.quiet_builtin _ (by decide+kernel),code_tree ?_⟩
 with_reducible refine seg_callD (by with_unfolding_all exact hh) Rp [] 11 (dA 0x0) [] (cB "int.__new__" [.type "int",.str (S (dg n)) u]) [] [] 0 0 ?_
 intro Tb2 h2 N2 t2 Rp kk2
 skip
 refine int_new hn ?_
 with_reducible refine seg_valD (by with_unfolding_all exact hh) Rp [] 14 (dA 0x1) [] (Fin.done (Flow.ret (.int (n) t2))) [] [] 0 0 ?_
 intro Tb3 h3 N3 t3 Rp
 exact K _ _ _ _ Rp
theorem str_i(x:W2)(A:Around)(hh:A.handled=none)(R:Result→Shared→Prop)(n:Int)(hn:n.natAbs<10^100)(u:Nat)(N t:Nat)(h:Heap)(gl d os)(rest:Cells)(Rp:Rep x.B N h rest 0)
 (K:∀h' N' t' v,Rep x.B N' h' rest 0→R (.ok (.ret (.str (S (dg n)) v))) ⟨h',gl,d,t',os⟩):
 codeAny (MB x.B) A (.call (.type "str") ⟨[.int n u],[]⟩) R ⟨h,gl,d,t,os⟩:=by
 refine code_tree ?_
 with_reducible refine seg_valD (by with_unfolding_all exact hh) Rp [] 11 (dA 0x0) [] (Fin.again (.builtin "type.__call__" ⟨[.type "str",.int (n) u],[]⟩)) [] [] 0 0 ?_
 intro Tb1 h1 N1 t1 Rp
 refine⟨Code.quiet_builtin _ (by decide+kernel),code_tree ?_⟩
 with_reducible refine seg_callD (by with_unfolding_all exact hh) Rp [] 11 (dA 0x0) [] (cB "str.__new__" [.type "str",.int (n) u]) [] [] 0 0 ?_
 intro Tb2 h2 N2 t2 Rp kk2
 skip
 refine str_new hn ?_
 with_reducible refine seg_valD (by with_unfolding_all exact hh) Rp [] 14 (dA 0x1) [] (Fin.done (Flow.ret (.str (S (dg n)) t2))) [] [] 0 0 ?_
 intro Tb3 h3 N3 t3 Rp
 exact K _ _ _ _ Rp
noncomputable def hid(i:Nat):List Nat:=match i with
 |0=>[]
 |1=>[92,41]
 |2=>[120]
 |_=>[34,92,34,40,34]
noncomputable def rowL(r:Nat):List Nat:=match r with
 |0=>[40,41,40,41,40,41]
 |1=>[40,40,41,41,40,41]
 |2=>[40,41,40,40,41,41]
 |3=>[40,40,41,40,41,41]
 |_=>[40,40,40,41,41,41]
noncomputable def joinN(s:Nat):Nat→List Nat→List Nat
 |_,[]=>[]
 |i,c::l=>hid ((s+i)%4)++c::joinN s (i+1) l
noncomputable def nm(s r:Nat):List Nat:=joinN s 0 (rowL r)
noncomputable def upN(l:List Nat):List Nat:=l.map fun c=>match Nat.beq c 120 with
 |true=>88
 |false=>c
noncomputable def kn(s r:Nat)(b:Bool):List Nat:=match b with
 |true=>upN (nm s r)
 |false=>nm s r
theorem all20{p:Nat→Nat→Bool}(h:((List.range 4).all fun s=>(List.range 5).all fun r=>p s r)=true){s r:Nat}(hs:s<4)(hr:r<5):p s r=true:=
 List.all_eq_true.mp (List.all_eq_true.mp h s (List.mem_range.mpr hs)) r (List.mem_range.mpr hr)
noncomputable def eqL(a b:List Nat):Bool:=match a with
 |[]=>match b with
  |[]=>true
  |_::_=>false
 |x::a=>match b with
  |[]=>false
  |y::b=>match Nat.beq x y with
   |true=>eqL a b
   |false=>false
theorem eqL_eq:∀{a b:List Nat},eqL a b=true→a=b
 |[],[],_=>rfl
 |[],_::_,h=>nomatch h
 |_::_,[],h=>nomatch h
 |x::a,y::b,h=>by
  have h':(match Nat.beq x y with|true=>eqL a b|false=>false)=true:=h
  cases q:Nat.beq x y with
  |true=>
   rw[q] at h'
   rw[Nat.eq_of_beq_eq_true q,eqL_eq h']
  |false=>rw[q] at h';cases h'
theorem S_eq{x:Str}{l:List Nat}(h:eqL x.cps.toList l=true):x=S l:=by
 have:=eqL_eq h
 subst this
 rfl
theorem low_kn{s r:Nat}(hs:s<4)(hr:r<5):Txt.lower (S (nm s r))=S (nm s r)∧Txt.lower (S (upN (nm s r)))=S (nm s r)∧Txt.upper (S (nm s r))=S (upN (nm s r)):=by
 have h:=all20 (p:=fun s r=>eqL (Txt.lower (S (nm s r))).cps.toList (nm s r)&&(eqL (Txt.lower (S (upN (nm s r)))).cps.toList (nm s r)&&eqL (Txt.upper (S (nm s r))).cps.toList (upN (nm s r)))) (by rfl') hs hr
 simp only[Bool.and_eq_true] at h
 exact⟨S_eq h.1,S_eq h.2.1,S_eq h.2.2⟩
theorem nm_ok{s r:Nat}(b:Bool)(hs:s<4)(hr:r<5):kn s r b≠[]∧∀c∈kn s r b,32≤c∧c<127:=by
 have h:=all20 (p:=fun s r=>(!(kn s r b).isEmpty)&&(kn s r b).all fun c=>Nat.ble 32 c&&Nat.blt c 127) (by cases b<;>rfl') hs hr
 simp only[Bool.and_eq_true,Bool.not_eq_true',List.isEmpty_eq_false_iff,List.all_eq_true] at h
 exact⟨h.1,fun c hc=>⟨Nat.le_of_ble_eq_true (h.2 c hc).1,Nat.le_of_ble_eq_true (h.2 c hc).2⟩⟩
theorem nm_inj{s r r':Nat}(hs:s<4)(hr:r<5)(hr':r'<5):(nm s r==nm s r')=decide (r=r'):=by
 rcases(by exact zqbd hs:s=0∨s=1∨s=2∨s=3) with rfl|rfl|rfl|rfl<;>
 rcases(by exact zqae hr:r=0∨r=1∨r=2∨r=3∨r=4) with rfl|rfl|rfl|rfl|rfl<;>
 rcases(by exact zqae hr':r'=0∨r'=1∨r'=2∨r'=3∨r'=4) with rfl|rfl|rfl|rfl|rfl<;>decide
noncomputable def keyL(v:Value):List Nat:=match v with
 | .str x _=>x.cps.toList
 |_=>[]
noncomputable def setW(e:DictEntry)(l:List DictEntry):List DictEntry:=match l with
 |[]=>[e]
 |a::l=>match eqL (keyL a.key) (keyL e.key) with
  |true=>{a with val:=e.val}::l
  |false=>a::setW e l
termination_by structural l
noncomputable def setsW(es:List DictEntry)(l:List DictEntry):List DictEntry:=match es with
 |[]=>l
 |e::es=>setsW es (setW e l)
termination_by structural es
noncomputable def dW(adds:List DictEntry)(o:Obj):Obj:=match o with
 |⟨c,d,dt,sl⟩=>match dt with
  | .dict es _=>⟨c,d,.dict ⟨setsW adds es.toList⟩ (setsW adds es.toList).length,sl⟩
  |_=>o
noncomputable def lawE(x:W2)(F:Addr):Env:=envC (envOf (fdOf x.B 288) 288 F) [(n_cell,F+8),(n_table,F+7),(n_names,F+6),(n_painted,F+5),(n_value,F+4),(n_share,F+3),(n_size,F+2),(n_place,F+1)]
noncomputable abbrev dctF(l:List DictEntry)(n:Nat):Obj:=⟨.type "frame",none,.dict l.toArray n,#[]⟩
noncomputable def pkN(l:Cells)(n:Nat):Option ((Addr×Obj)×Cells):=match n with
 |0=>match l with
  |[]=>none
  |x::l=>some (x,l)
 |n+1=>match l with
  |[]=>none
  |x::l=>match pkN l n with
   |some (p,r)=>some (p,x::r)
   |none=>none
termination_by structural n
theorem pk_perm:∀(n:Nat) (l:Cells) (p:Addr×Obj) (r:Cells),pkN l n=some (p,r)→l.Perm (p::r)
 |0,[],_,_,e=>by cases e
 |0,_::_,_,_,e=>by cases e;exact .refl _
 |_+1,[],_,_,e=>by cases e
 |n+1,x::l,p,r,e=>by
  have e:(match pkN l n with
   |some (p,r)=>some (p,x::r)
   |none=>none)=some (p,r):=e
  cases q:pkN l n with
  |none=>rw[q] at e;cases e
  |some z=>
   obtain⟨p',r'⟩:=z
   rw[q] at e
   cases e
   exact((pk_perm n l _ _ q).cons x).trans (.swap _ _ _)
noncomputable def pullN(tab:Cells)(k:Nat):Cells:=match pkN tab k with
 |some (p,r)=>p::r
 |none=>tab
theorem pull_perm(tab:Cells)(k:Nat):tab.Perm (pullN tab k):=by
 unfold pullN
 split
 ·exact pk_perm _ _ _ _ (by assumption)
 ·exact .refl _
theorem Rep.pull{B:Base}{N m:Nat}{h:Heap}{tab:Cells}(Rp:Rep B N h tab m)(k:Nat):Rep B N h (pullN tab k) m:=Rp.perm (pull_perm tab k)
noncomputable def insN(p:Addr×Obj)(n:Nat)(l:Cells):Cells:=match n with
 |0=>p::l
 |n+1=>match l with
  |[]=>[p]
  |x::l=>x::insN p n l
termination_by structural n
theorem insN_perm(p:Addr×Obj):∀(n:Nat) (l:Cells),(p::l).Perm (insN p n l)
 |0,_=>.refl _
 |_+1,[]=>.refl _
 |n+1,x::l=>(List.Perm.swap _ _ _).trans (.cons _ (insN_perm p n l))
noncomputable def movN(tab:Cells)(i j:Nat):Cells:=match pkN tab i with
 |some (p,r)=>insN p j r
 |none=>tab
theorem mov_perm(tab:Cells)(i j:Nat):tab.Perm (movN tab i j):=by
 unfold movN
 split
 ·exact(pk_perm _ _ _ _ (by assumption)).trans (insN_perm ..)
 ·exact .refl _
theorem Rep.mov{B:Base}{N m:Nat}{h:Heap}{tab:Cells}(Rp:Rep B N h tab m)(i j:Nat):Rep B N h (movN tab i j) m:=Rp.perm (mov_perm tab i j)
structure CellsOk (items:Array Value) (m:Int):Prop where
 size:items.size=6
 at':∀i,i<6→∃c u,items[i]? =some (.int c u)∧0≤c∧c≤m
theorem CellsOk.set{items:Array Value}{m c:Int}{i u:Nat}(h:CellsOk items m)(hc:0≤c)(hm:c≤m+1000000):CellsOk (items.setIfInBounds i (.int c u)) (m+1000000):=by
 refine⟨by simp[h.size],fun j hj=>?_⟩
 by_cases e:i=j
 ·subst e
  exact⟨c,u,Array.getElem?_setIfInBounds_self_of_lt (by rw[h.size];exact hj),hc,hm⟩
 ·obtain⟨c',u',e',h1,h2⟩:=h.at' j hj
  exact⟨c',u',by rw[Array.getElem?_setIfInBounds_ne e];exact e',h1,by omega⟩
theorem sc1(x:W2)(A:Around)(hh:A.handled=none)(R:Result→Shared→Prop)(F e it l cl:Addr)(ys items:Array Value)(j n nl ks kc:Nat)(m c:Int)(u:Nat)(old:Value)(hj:ys[j]? =some (.int c u))(hj60:j<60)(ho:CellsOk items m)(hm:m<2^40)
 (N t:Nat) (h:Heap) (gl d os) (rest:Cells)
 (Rp:Rep x.B N h ((e,EnumO .none (.ref it) (j:Int) old)::(it,ListIt l (j:Int))::(l,Lst ys nl)::(cl,Lst items n)::(F,dctF [En x.B n_script ks (.ref 289),En x.B n_cells kc (.ref cl)] 2)::(F+1,oC none)::rest) 0)
 (K:∀h' N' t' items' kd v n,CellsOk items' (m+1000000)→Rep x.B N' h' ((e,EnumO .none (.ref it) ((j+1:Nat):Int) (.int c u))::(it,ListIt l ((j+1:Nat):Int))::(l,Lst ys nl)::(cl,Lst items' n)::(F,dctF [En x.B n_script ks (.ref 289),En x.B n_cells kc (.ref cl),En x.B n_drawn kd (.int c u)] 3)::(F+1,oC (some (.int (j:Int) v)))::rest) 0→codeAny (MB x.B) A (loopOf (stmtAt x.B 288 1) (.ref e) (lawE x F)) R ⟨h',gl,d,t',os⟩):
 codeAny (MB x.B) A (loopOf (stmtAt x.B 288 1) (.ref e) (lawE x F)) R ⟨h,gl,d,t,os⟩:=by
 obtain⟨r,hr⟩:∃r,c%1000000=r:=⟨_,rfl⟩
 obtain⟨c0,u0,h0,h1,h2⟩:=ho.at' (j%6) (by exact zqcy)
 dsimp only[dctF] at Rp
 refine for_turn (pyNext_of ⟨_,Rp.at (n:=0) rfl,rfl⟩ PySem.F.slot_enumerate_next (en_nextI hh old Rp hj fun h7 N7 t7 a7 v7 Rp=>?_))
 refine let_enum (by rfl') Rp 1 rfl rfl fun h8 Rp=>?_
 try dsimp only[setN] at Rp
 with_reducible refine seg_valD (by with_unfolding_all exact hh) Rp [] 69 (dA 0xa38b3c60861c61860460861c61860460861c6186046186046186) (dM 8) () [] [.k,.k,.k,.k,.k,.u (dW [En x.B n_drawn (t7+0) (.int (c) u)]),.u fun _=>oC (some (.int ((↑j:Int)) v7))] 3 1 ?_
 intro Tb3 h3 N3 t3 Rp
 have ej:((j:Int)%6:Int)=((j%6:Nat):Int):=by exact zqbe
 refine seg_callD hh Rp [aI "int.__mod__" [.int ((↑j:Int)) v7,.int 6 (t3+0)] (((j%6:Nat):Int))] 22 (dA 0xa28230b) [] (cB "list.__getitem__" [.ref cl,.int ((↑(j%6):Int)) (t3+1)]) [] [.d] 0 2 ?_ (aC (fun _ _ _ _ _ _ _ K=>i_mod (B:=x.B) (i:=((↑j:Int))) (j:=(6)) (c:=((j%6:Nat):Int)) (by decide) (by rw[Int.fmod_eq_emod_of_nonneg _ (by decide)];exact zqbe) K) aN)
 intro Tb4 h4 N4 t4 Rp kk4
 refine l_get Rp 3 rfl (by exact zqbf) (by exact zqbg) (by rw[Int.toNat_natCast];exact h0) ?_
 refine seg_callD hh Rp [aI "int.__pow__" [.int 10 (t4+0),.int 6 (t4+1)] (1000000),aI "int.__mod__" [.int (c) u,.int 1000000 (t4+2)] (r)] 27 (dA 0x24904308a) [] (cB "list.__setitem__" [.ref cl,.int ((↑(j%6):Int)) (t3+1),.int (c0+r) (t4+4)]) [] [] 0 5 ?_ (aC (fun _ _ _ _ _ _ _ K=>i_pow (B:=x.B) (i:=(10)) (j:=(6)) (c:=(1000000)) (by decide) (by decide) (by decide) (by decide) K) (aC (fun _ _ _ _ _ _ _ K=>i_mod (B:=x.B) (i:=(c)) (j:=(1000000)) (c:=r) (by decide) (by rw[Int.fmod_eq_emod_of_nonneg _ (by decide)];exact zqcz hr) K) aN))
 intro Tb5 h5 N5 t5 Rp kk5
 have hs:=ho.size
 refine l_set Rp 3 rfl (by exact zqbf) (by exact zqbg) (by exact zqcA hs) rfl fun hz Rp=>?_
 try dsimp only[setN] at Rp
 with_reducible refine seg_valD (by with_unfolding_all exact hh) Rp [] 11 (dA 0x0) [] Flow.next [] [] 0 0 ?_
 intro Tb6 h6 N6 t6 Rp
 refine K _ _ _ _ _ _ _ ?_ Rp
 exact ho.set (by exact zqcB hr h1) (by exact zqcC hr h2)
theorem sc2(x:W2)(A:Around)(hh:A.handled=none)(R:Result→Shared→Prop)(F e it l cl:Addr)(ys items:Array Value)(j n nl ks kc:Nat)(m c:Int)(u:Nat)(old:Value)(hj:ys[j]? =some (.int c u))(hj60:j<60)(ho:CellsOk items m)(hm:m<2^40)(kd up ud:Nat)(P D:Int)
 (N t:Nat) (h:Heap) (gl d os) (rest:Cells)
 (Rp:Rep x.B N h ((e,EnumO .none (.ref it) (j:Int) old)::(it,ListIt l (j:Int))::(l,Lst ys nl)::(cl,Lst items n)::(F,dctF [En x.B n_script ks (.ref 289),En x.B n_cells kc (.ref cl),En x.B n_drawn kd (.int D ud)] 3)::(F+1,oC (some (.int P up)))::rest) 0)
 (K:∀h' N' t' items' kd v n,CellsOk items' (m+1000000)→Rep x.B N' h' ((e,EnumO .none (.ref it) ((j+1:Nat):Int) (.int c u))::(it,ListIt l ((j+1:Nat):Int))::(l,Lst ys nl)::(cl,Lst items' n)::(F,dctF [En x.B n_script ks (.ref 289),En x.B n_cells kc (.ref cl),En x.B n_drawn kd (.int c u)] 3)::(F+1,oC (some (.int (j:Int) v)))::rest) 0→codeAny (MB x.B) A (loopOf (stmtAt x.B 288 1) (.ref e) (lawE x F)) R ⟨h',gl,d,t',os⟩):
 codeAny (MB x.B) A (loopOf (stmtAt x.B 288 1) (.ref e) (lawE x F)) R ⟨h,gl,d,t,os⟩:=by
 obtain⟨r,hr⟩:∃r,c%1000000=r:=⟨_,rfl⟩
 obtain⟨c0,u0,h0,h1,h2⟩:=ho.at' (j%6) (by exact zqcy)
 dsimp only[dctF] at Rp
 refine for_turn (pyNext_of ⟨_,Rp.at (n:=0) rfl,rfl⟩ PySem.F.slot_enumerate_next (en_nextI hh old Rp hj fun h7 N7 t7 a7 v7 Rp=>?_))
 refine let_enum (by rfl') Rp 1 rfl rfl fun h8 Rp=>?_
 try dsimp only[setN] at Rp
 with_reducible refine seg_valD (by with_unfolding_all exact hh) Rp [] 69 (dA 0xa38b3c60861c61860460861c61860460861c6186046186046186) (dM 8) () [] [.k,.k,.k,.k,.k,.u (dW [En x.B n_drawn kd (.int (c) u)]),.u fun _=>oC (some (.int ((↑j:Int)) v7))] 3 1 ?_
 intro Tb3 h3 N3 t3 Rp
 have ej:((j:Int)%6:Int)=((j%6:Nat):Int):=by exact zqbe
 refine seg_callD hh Rp [aI "int.__mod__" [.int ((↑j:Int)) v7,.int 6 (t3+0)] (((j%6:Nat):Int))] 22 (dA 0xa28230b) [] (cB "list.__getitem__" [.ref cl,.int ((↑(j%6):Int)) (t3+1)]) [] [.d] 0 2 ?_ (aC (fun _ _ _ _ _ _ _ K=>i_mod (B:=x.B) (i:=((↑j:Int))) (j:=(6)) (c:=((j%6:Nat):Int)) (by decide) (by rw[Int.fmod_eq_emod_of_nonneg _ (by decide)];exact zqbe) K) aN)
 intro Tb4 h4 N4 t4 Rp kk4
 refine l_get Rp 3 rfl (by exact zqbf) (by exact zqbg) (by rw[Int.toNat_natCast];exact h0) ?_
 refine seg_callD hh Rp [aI "int.__pow__" [.int 10 (t4+0),.int 6 (t4+1)] (1000000),aI "int.__mod__" [.int (c) u,.int 1000000 (t4+2)] (r)] 27 (dA 0x24904308a) [] (cB "list.__setitem__" [.ref cl,.int ((↑(j%6):Int)) (t3+1),.int (c0+r) (t4+4)]) [] [] 0 5 ?_ (aC (fun _ _ _ _ _ _ _ K=>i_pow (B:=x.B) (i:=(10)) (j:=(6)) (c:=(1000000)) (by decide) (by decide) (by decide) (by decide) K) (aC (fun _ _ _ _ _ _ _ K=>i_mod (B:=x.B) (i:=(c)) (j:=(1000000)) (c:=r) (by decide) (by rw[Int.fmod_eq_emod_of_nonneg _ (by decide)];exact zqcz hr) K) aN))
 intro Tb5 h5 N5 t5 Rp kk5
 have hs:=ho.size
 refine l_set Rp 3 rfl (by exact zqbf) (by exact zqbg) (by exact zqcA hs) rfl fun hz Rp=>?_
 try dsimp only[setN] at Rp
 with_reducible refine seg_valD (by with_unfolding_all exact hh) Rp [] 11 (dA 0x0) [] Flow.next [] [] 0 0 ?_
 intro Tb6 h6 N6 t6 Rp
 refine K _ _ _ _ _ _ _ ?_ Rp
 exact ho.set (by exact zqcB hr h1) (by exact zqcC hr h2)
theorem sc_loop(x:W2)(A:Around)(hh:A.handled=none)(R:Result→Shared→Prop)(F e it l cl:Addr)(ys:Array Value)(nl ks kc:Nat)(hy:∀(i:Nat) v,ys[i]? =some v→∃c u,v=.int c u)(hs:ys.size≤60)(gl d os)(rest:Cells):
 ∀(k j:Nat) (_:ys.size=j+k) (items:Array Value) (n:Nat) (m:Int) (_:CellsOk items m) (_:m+k*1000000<2^40) (old:Value) (kd up ud:Nat) (P D:Int)
 (N t:Nat) (h:Heap)
 (_:Rep x.B N h ((e,EnumO .none (.ref it) (j:Int) old)::(it,ListIt l (j:Int))::(l,Lst ys nl)::(cl,Lst items n)::(F,dctF [En x.B n_script ks (.ref 289),En x.B n_cells kc (.ref cl),En x.B n_drawn kd (.int D ud)] 3)::(F+1,oC (some (.int P up)))::rest) 0)
 (_:∀h' N' t' items' n kd up ud P D,CellsOk items' (m+k*1000000)→Rep x.B N' h' ((cl,Lst items' n)::(F,dctF [En x.B n_script ks (.ref 289),En x.B n_cells kc (.ref cl),En x.B n_drawn kd (.int D ud)] 3)::(F+1,oC (some (.int P up)))::rest) 0→R (.ok .next) ⟨h',gl,d,t',os⟩),
 codeAny (MB x.B) A (loopOf (stmtAt x.B 288 1) (.ref e) (lawE x F)) R ⟨h,gl,d,t,os⟩:=by
 intro k
 induction k with
 |zero=>
  intro j hz items n m ho hm old kd up ud P D N t h Rp K
  refine for_turn (pyNext_of ⟨_,Rp.at (n:=0) rfl,rfl⟩ PySem.F.slot_enumerate_next (en_endL hh old Rp (by rw[Array.getElem?_eq_none_iff];exact zqcD hz) fun h7 N7 t7 a7 v7 Rp=>?_))
  refine⟨⟨_,Rp.at (n:=0) rfl,rfl⟩,?_⟩
  dsimp only[dctF] at Rp
  show codeAny _ _ (.block (forE (stmtAt x.B 288 1)) (lawE x F)) _ _
  with_reducible refine seg_codeD (by with_unfolding_all exact hh) Rp [] 11 (dA 0x0) [] (.ok .next) [] [.d,.d] 0 0 (by rfl') aN ?_
  intro Tb1 h1 N1 t1 Rp
  exact K _ _ _ _ _ _ _ _ _ _ (by simpa using ho) Rp
 |succ k ih=>
  intro j hz items n m ho hm old kd up ud P D N t h Rp K
  obtain⟨c,u,hv⟩:=hy j ys[j] (Array.getElem?_eq_getElem (by exact zqbh hz))
  refine sc2 x A hh R F e it l cl ys items j n nl ks kc m c u old (by rw[Array.getElem?_eq_getElem (by exact zqbh hz),hv]) (by omega) ho (by exact zqez hm) kd up ud P D N t h gl d os rest Rp fun h' N' t' items' kd v n ho' Rp=>?_
  exact ih (j+1) (by exact zqcE hz) _ _ _ ho' (by push_cast at hm;omega) _ _ _ _ _ _ _ _ _ Rp fun h' N' t' items' n kd up ud P D ho' Rp=>K _ _ _ _ _ _ _ _ _ _ (by
   have e:m+1000000+(k:Int)*1000000=m+((k+1:Nat):Int)*1000000:=by push_cast;omega
   rw[←e];exact ho') Rp
noncomputable def rgbOf(j:Int)(u v w:Nat)(V P Q T:Int):Array Value:=
 if j=0 then#[.float (fl V) w,.float (fl T) v,.float (fl P) u] else if j=1 then#[.float (fl Q) v,.float (fl V) w,.float (fl P) u]
 else if j=2 then#[.float (fl P) u,.float (fl V) w,.float (fl T) v] else if j=3 then#[.float (fl P) u,.float (fl Q) v,.float (fl V) w]
 else if j=4 then#[.float (fl T) v,.float (fl P) u,.float (fl V) w] else#[.float (fl V) w,.float (fl P) u,.float (fl Q) v]
theorem hsv1(x:W2)(A:Around)(hh:A.handled=none)(hA:A.depth<900)(R:Result→Shared→Prop)(k S V q F G j P Q T:Int)(hk0:0≤k)(hk:k<2^25)(hF:6*k=q*2^24+F)(hF0:0≤F)(hF1:F<2^24)(hj:q%6=j)
 (hS0:0<S) (hS1:S≤2^24) (hG:S*F=G*2^24) (hG':S*(2^24-F)=(S-G)*2^24) (hG0:0≤G) (hG1:G≤S)
 (hP:V*(2^24-S)=P*2^24) (hP0:0≤P) (hP1:P≤2^24) (hQ:V*(2^24-G)=Q*2^24) (hQ0:0≤Q) (hQ1:Q≤2^24) (hT:V*(2^24- (S-G))=T*2^24) (hT0:0≤T) (hT1:T≤2^24) (hV0:0<V) (hV1:V≤2^24)
 (ta tb tc:Nat) (N t:Nat) (h:Heap) (gl d os) (rest:Cells) (Rp:Rep x.B N h rest 0)
 (K:∀h' N' t' a u v,Rep x.B N' h' ((a,⟨.type "tuple",none,.seq (rgbOf j u v tc V P Q T) 0,#[]⟩)::rest) 0→R (.ok (.ret (.ref a))) ⟨h',gl,d,t',os⟩):
 codeAny (MB x.B) A (.call (.ref 122) ⟨[.float (fl k) ta,.float (fl S) tb,.float (fl V) tc],[]⟩) R ⟨h,gl,d,t,os⟩:=by
 refine enterD hh Rp (by exact zqaD hA) 26 (dA 0x86086086041) (bodyOf (fdOf x.B 122)) (envOf (fdOf x.B 122) 122 (N+0)) [(N+0,oF #[En x.B n_h (t+0) (.float (fl k) ta),En x.B n_s (t+1) (.float (fl S) tb),En x.B n_v (t+2) (.float (fl V) tc)] 3)] 1 3 (by rfl') ?_
 intro Tb1 h1 N1 t1 Rp
 refine cut 7 ?_
 refine seg_valD hh Rp [aB "float.__eq__" [.float (fl S) tb,.float 0 (t1+0)] false,aF "float.__mul__" [.float (fl k) ta,.float 4618441417868443648 (t1+1)] (6*k),aI "float.__int__" [.float (fl (6*k)) (t1+2)] (q),aF "float.__mul__" [.float (fl k) ta,.float 4618441417868443648 (t1+5)] (6*k),aF "float.__sub__" [.float (fl (6*k)) (t1+6),.int (q) (t1+3)] (F),aF "float.__sub__" [.float 4607182418800017408 (t1+9),.float (fl S) tb] (2^24-S),aF "float.__mul__" [.float (fl V) tc,.float (fl (2^24-S)) (t1+10)] (P),aF "float.__mul__" [.float (fl S) tb,.float (fl F) (t1+7)] (G),aF "float.__sub__" [.float 4607182418800017408 (t1+13),.float (fl G) (t1+14)] (2^24-G),aF "float.__mul__" [.float (fl V) tc,.float (fl (2^24-G)) (t1+15)] (Q),aF "float.__sub__" [.float 4607182418800017408 (t1+19),.float (fl F) (t1+7)] (2^24-F),aF "float.__mul__" [.float (fl S) tb,.float (fl (2^24-F)) (t1+20)] (S-G),aF "float.__sub__" [.float 4607182418800017408 (t1+18),.float (fl (S-G)) (t1+21)] (2^24- (S-G)),aF "float.__mul__" [.float (fl V) tc,.float (fl (2^24- (S-G))) (t1+22)] (T),aI "int.__mod__" [.int (q) (t1+3),.int 6 (t1+25)] (j)] 139 (dA 0x219018218f38d3061860862ca2461860862071860861861460860440410c6041086) [] Flow.next [] [.u (dU [] [En x.B n_i (t1+4) (.int (j) (t1+26)),En x.B n_f (t1+8) (.float (fl F) (t1+7)),En x.B n_p (t1+12) (.float (fl P) (t1+11)),En x.B n_q (t1+17) (.float (fl Q) (t1+16)),En x.B n_t (t1+24) (.float (fl T) (t1+23))] 8)] 0 28 ?_ (aC (fun _ _ _ _ _ _ _ K=>f_eq_ff (B:=x.B) (r:=false) (a:=(S)) (b:=(0)) rfl (by exact zqaE hS0 hS1) (by decide+kernel) (by unfold Fits;decide) (decide_eq_false (by exact zqeA hS0)) K) (aC (fun _ _ _ _ _ _ _ K=>f_mul_ff (B:=x.B) (a:=(k)) (b:=(100663296)) (c:=(6*k)) rfl (by decide+kernel) (by exact zqcF hk0 hk) (by unfold Fits;decide) (by exact zqbi hk0 hk) (by exact zqac hk0) (by decide) (by exact zqcG) K) (aC (fun _ _ _ _ _ _ _ K=>f_dint (B:=x.B) (a:=(6*k)) (c:=q) rfl (by exact zqbi hk0 hk) (by exact zqeB hk0) (by exact zqeC hF hF0 hF1) K) (aC (fun _ _ _ _ _ _ _ K=>f_mul_ff (B:=x.B) (a:=(k)) (b:=(100663296)) (c:=(6*k)) rfl (by decide+kernel) (by exact zqcF hk0 hk) (by unfold Fits;decide) (by exact zqbi hk0 hk) (by exact zqac hk0) (by decide) (by exact zqcG) K) (aC (fun _ _ _ _ _ _ _ K=>f_sub_fi (B:=x.B) (a:=(6*k)) (i:=(q)) (c:=F) rfl (by exact zqbi hk0 hk) (by exact zqeD hk0 hk hF hF0 hF1) (by exact zqbE hF0 hF1) (by omega) K) (aC (fun _ _ _ _ _ _ _ K=>f_sub_ff (B:=x.B) (a:=(16777216)) (b:=(S)) (c:=(2^24-S)) (by decide+kernel) rfl (by unfold Fits;decide) (by exact zqaE hS0 hS1) (by exact zqcH hS0 hS1) (by exact zqbF) K) (aC (fun _ _ _ _ _ _ _ K=>f_mul_ff (B:=x.B) (a:=(V)) (b:=(2^24-S)) (c:=P) rfl rfl (by exact zqaE hV0 hV1) (by exact zqcH hS0 hS1) (by exact zqaa hP0 hP1) (by exact zqam hV0) (by exact zqeE hS1) (by exact zqcI hP) K) (aC (fun _ _ _ _ _ _ _ K=>f_mul_ff (B:=x.B) (a:=(S)) (b:=(F)) (c:=G) rfl rfl (by exact zqaE hS0 hS1) (by exact zqbE hF0 hF1) (by exact zqcJ hS1 hG0 hG1) (by exact zqam hS0) (by exact zqac hF0) (by first|omega|assumption) K) (aC (fun _ _ _ _ _ _ _ K=>f_sub_ff (B:=x.B) (a:=(16777216)) (b:=(G)) (c:=(2^24-G)) (by decide+kernel) rfl (by unfold Fits;decide) (by exact zqcJ hS1 hG0 hG1) (by exact zqcK hS1 hG0 hG1) (by exact zqbF) K) (aC (fun _ _ _ _ _ _ _ K=>f_mul_ff (B:=x.B) (a:=(V)) (b:=(2^24-G)) (c:=Q) rfl rfl (by exact zqaE hV0 hV1) (by exact zqcK hS1 hG0 hG1) (by exact zqaa hQ0 hQ1) (by exact zqam hV0) (by exact zqeF hS1 hG1) (by exact zqcI hQ) K) (aC (fun _ _ _ _ _ _ _ K=>f_sub_ff (B:=x.B) (a:=(16777216)) (b:=(F)) (c:=(2^24-F)) (by decide+kernel) rfl (by unfold Fits;decide) (by exact zqbE hF0 hF1) (by exact zqcL hF0 hF1) (by exact zqbF) K) (aC (fun _ _ _ _ _ _ _ K=>f_mul_ff (B:=x.B) (a:=(S)) (b:=(2^24-F)) (c:=(S-G)) rfl rfl (by exact zqaE hS0 hS1) (by exact zqcL hF0 hF1) (by exact zqcM hS1 hG0 hG1) (by exact zqam hS0) (by exact zqeG hF1) (by first|omega|assumption) K) (aC (fun _ _ _ _ _ _ _ K=>f_sub_ff (B:=x.B) (a:=(16777216)) (b:=(S-G)) (c:=(2^24- (S-G))) (by decide+kernel) rfl (by unfold Fits;decide) (by exact zqcM hS1 hG0 hG1) (by exact zqcN hS1 hG0 hG1) (by omega) K) (aC (fun _ _ _ _ _ _ _ K=>f_mul_ff (B:=x.B) (a:=(V)) (b:=(2^24- (S-G))) (c:=T) rfl rfl (by exact zqaE hV0 hV1) (by exact zqcN hS1 hG0 hG1) (by exact zqaa hT0 hT1) (by exact zqam hV0) (by exact zqeH hS1 hG0) (by exact zqeI hT) K) (aC (fun _ _ _ _ _ _ _ K=>i_mod (B:=x.B) (i:=(q)) (j:=(6)) (c:=j) (by decide) (by rw[Int.fmod_eq_emod_of_nonneg _ (by decide)];omega) K) aN)))))))))))))))
 intro Tb2 h2 N2 t2 Rp
 have hj0:0≤j:=by omega
 have hj5:j<6:=by omega
 rcases(by omega:j=0∨j=1∨j=2∨j=3∨j=4∨j=5) with z|z|z|z|z|z
 all_goals clear hj hj0 hj5 hk0 hk hF hF0 hF1 hS0 hS1 hG hG' hG0 hG1 hP hP0 hP1 hQ hQ0 hQ1 hT hT0 hT1 hV0 hV1
 all_goals subst z
 all_goals show wpAny _ _ (execsZ ..) ..
 ·with_reducible refine seg_valD (by with_unfolding_all exact hh) Rp [] 29 (dA 0x6186046) (dM 3) (Flow.ret (.ref (N2+0))) [(N2+0,oT #[.float (fl V) tc,.float (fl T) (t1+23),.float (fl P) (t1+11)])] [.d] 1 1 ?_
  intro Tb3 h3 N3 t3 Rp
  exact K _ _ _ _ _ _ Rp
 ·with_reducible refine seg_valD (by with_unfolding_all exact hh) Rp [] 38 (dA 0x6186046046) (dM 3) (Flow.ret (.ref (N2+0))) [(N2+0,oT #[.float (fl Q) (t1+16),.float (fl V) tc,.float (fl P) (t1+11)])] [.d] 1 2 ?_
  intro Tb3 h3 N3 t3 Rp
  exact K _ _ _ _ _ _ Rp
 ·with_reducible refine seg_valD (by with_unfolding_all exact hh) Rp [] 47 (dA 0x6186046046046) (dM 3) (Flow.ret (.ref (N2+0))) [(N2+0,oT #[.float (fl P) (t1+11),.float (fl V) tc,.float (fl T) (t1+23)])] [.d] 1 3 ?_
  intro Tb3 h3 N3 t3 Rp
  exact K _ _ _ _ _ _ Rp
 ·with_reducible refine seg_valD (by with_unfolding_all exact hh) Rp [] 56 (dA 0x6186046046046046) (dM 3) (Flow.ret (.ref (N2+0))) [(N2+0,oT #[.float (fl P) (t1+11),.float (fl Q) (t1+16),.float (fl V) tc])] [.d] 1 4 ?_
  intro Tb3 h3 N3 t3 Rp
  exact K _ _ _ _ _ _ Rp
 ·with_reducible refine seg_valD (by with_unfolding_all exact hh) Rp [] 65 (dA 0x6186046046046046046) (dM 3) (Flow.ret (.ref (N2+0))) [(N2+0,oT #[.float (fl T) (t1+23),.float (fl P) (t1+11),.float (fl V) tc])] [.d] 1 5 ?_
  intro Tb3 h3 N3 t3 Rp
  exact K _ _ _ _ _ _ Rp
 ·with_reducible refine seg_valD (by with_unfolding_all exact hh) Rp [] 74 (dA 0x6186046046046046046046) (dM 3) (Flow.ret (.ref (N2+0))) [(N2+0,oT #[.float (fl V) tc,.float (fl P) (t1+11),.float (fl Q) (t1+16)])] [.d] 1 6 ?_
  intro Tb3 h3 N3 t3 Rp
  exact K _ _ _ _ _ _ Rp
theorem max_fff{B:Base}{A:Around}{R:Result→Shared→Prop}{a b c M:Int}{u v w N t:Nat}{h:Heap}{gl:Array GenState}{d:Drawn}{os:OsState}{tab:Cells}(hh:A.handled=none)(Rp:Rep B N h tab 0)
 (h0:0≤a) (h2:0≤b) (h4:0≤c) (hM:M≤2^24) (m1:a≤M) (m2:b≤M) (m3:c≤M) (m4:M=a∨M=b∨M=c)
 (K:∀h' N' t' u',Rep B N' h' tab 0→R (.ok (.ret (.float (fl M) u'))) ⟨h',gl,d,t',os⟩):codeAny (MB B) A (.call (.builtin "max") ⟨[.float (fl a) u,.float (fl b) v,.float (fl c) w],[]⟩) R ⟨h,gl,d,t,os⟩:=by
 rcases Int.lt_or_le a b with o|o
 ·rcases Int.lt_or_le b c with p|p
  ·obtain rfl:M=c:=by omega
   refine seg_codeD hh Rp [aB "float.__gt__" [.float (fl b) v,.float (fl a) u] true,aB "float.__gt__" [.float (fl M) w,.float (fl b) v] true] 99 (dA 0x2042060c72071c70471860860c31c81c71c11c61821820c72071c70471860860c72071c7047186181186) (dM 32) (.ok (.ret (.float (fl M) w))) [] [] 5 0 (by rfl') (aC (fun _ _ _ _ _ _ _ K=>f_gt_ff (B:=B) (r:=true) (a:=(b)) (b:=(a)) rfl (by exact zqaj h2 hM p) rfl (by unfold Fits;omega) (decide_eq_true (by exact zqau o)) K) (aC (fun _ _ _ _ _ _ _ K=>f_gt_ff (B:=B) (r:=true) (a:=(M)) (b:=(b)) rfl (by exact zqaI hM h4) rfl (by exact zqaj h2 hM p) (decide_eq_true (by exact zqau p)) K) aN)) ?_
   intro Tb1 h1 N1 t1 Rp
   exact K _ _ _ _ Rp
  ·obtain rfl:M=b:=by omega
   refine seg_codeD hh Rp [aB "float.__gt__" [.float (fl M) v,.float (fl a) u] true,aB "float.__gt__" [.float (fl c) w,.float (fl M) v] false] 96 (dA 0x81081831c81c71c11c60c31c81c71c11c61821820c72071c70471860860c72071c7047186181186) (dM 32) (.ok (.ret (.float (fl M) v))) [] [] 5 0 (by rfl') (aC (fun _ _ _ _ _ _ _ K=>f_gt_ff (B:=B) (r:=true) (a:=(M)) (b:=(a)) rfl (by exact zqaI hM h2) rfl (by exact zqaj h0 hM o) (decide_eq_true (by exact zqau o)) K) (aC (fun _ _ _ _ _ _ _ K=>f_gt_ff (B:=B) (r:=false) (a:=(c)) (b:=(M)) rfl (by exact zqat h4 hM m3) rfl (by exact zqaI hM h2) (decide_eq_false (by exact zqax m3)) K) aN)) ?_
   intro Tb1 h1 N1 t1 Rp
   exact K _ _ _ _ Rp
 ·rcases Int.lt_or_le a c with p|p
  ·obtain rfl:M=c:=by omega
   refine seg_codeD hh Rp [aB "float.__gt__" [.float (fl b) v,.float (fl a) u] false,aB "float.__gt__" [.float (fl M) w,.float (fl a) u] true] 96 (dA 0x81081831c81c71c11c61821830c72071c70471820c72071c70471860860c72071c7047186181186) (dM 32) (.ok (.ret (.float (fl M) w))) [] [] 5 0 (by rfl') (aC (fun _ _ _ _ _ _ _ K=>f_gt_ff (B:=B) (r:=false) (a:=(b)) (b:=(a)) rfl (by unfold Fits;omega) rfl (by exact zqaj h0 hM p) (decide_eq_false (by exact zqax o)) K) (aC (fun _ _ _ _ _ _ _ K=>f_gt_ff (B:=B) (r:=true) (a:=(M)) (b:=(a)) rfl (by exact zqaI hM h4) rfl (by exact zqaj h0 hM p) (decide_eq_true (by exact zqau p)) K) aN)) ?_
   intro Tb1 h1 N1 t1 Rp
   exact K _ _ _ _ Rp
  ·obtain rfl:M=a:=by omega
   refine seg_codeD hh Rp [aB "float.__gt__" [.float (fl b) v,.float (fl M) u] false,aB "float.__gt__" [.float (fl c) w,.float (fl M) u] false] 93 (dA 0x2042060c72071c70471830c72071c70471820c72071c70471860860c72071c7047186181186) (dM 32) (.ok (.ret (.float (fl M) u))) [] [] 5 0 (by rfl') (aC (fun _ _ _ _ _ _ _ K=>f_gt_ff (B:=B) (r:=false) (a:=(b)) (b:=(M)) rfl (by exact zqat h2 hM m2) rfl (by exact zqaI hM h0) (decide_eq_false (by exact zqax m2)) K) (aC (fun _ _ _ _ _ _ _ K=>f_gt_ff (B:=B) (r:=false) (a:=(c)) (b:=(M)) rfl (by exact zqat h4 hM m3) rfl (by exact zqaI hM h0) (decide_eq_false (by exact zqax m3)) K) aN)) ?_
   intro Tb1 h1 N1 t1 Rp
   exact K _ _ _ _ Rp
theorem min_fff{B:Base}{A:Around}{R:Result→Shared→Prop}{a b c M:Int}{u v w N t:Nat}{h:Heap}{gl:Array GenState}{d:Drawn}{os:OsState}{tab:Cells}(hh:A.handled=none)(Rp:Rep B N h tab 0)
 (h0:a≤2^24) (h2:b≤2^24) (h4:c≤2^24) (hM:0≤M) (m1:M≤a) (m2:M≤b) (m3:M≤c) (m4:M=a∨M=b∨M=c)
 (K:∀h' N' t' u',Rep B N' h' tab 0→R (.ok (.ret (.float (fl M) u'))) ⟨h',gl,d,t',os⟩):codeAny (MB B) A (.call (.builtin "min") ⟨[.float (fl a) u,.float (fl b) v,.float (fl c) w],[]⟩) R ⟨h,gl,d,t,os⟩:=by
 rcases Int.lt_or_le b a with o|o
 ·rcases Int.lt_or_le c b with p|p
  ·obtain rfl:M=c:=by omega
   refine seg_codeD hh Rp [aB "float.__lt__" [.float (fl b) v,.float (fl a) u] true,aB "float.__lt__" [.float (fl M) w,.float (fl b) v] true] 99 (dA 0x2042060c72071c70471860860c31c81c71c11c61821820c72071c70471860860c72071c7047186181186) (dM 32) (.ok (.ret (.float (fl M) w))) [] [] 5 0 (by rfl') (aC (fun _ _ _ _ _ _ _ K=>f_lt_ff (B:=B) (r:=true) (a:=(b)) (b:=(a)) rfl (by exact zqaZ h2 hM p) rfl (by unfold Fits;omega) (decide_eq_true (by exact zqau o)) K) (aC (fun _ _ _ _ _ _ _ K=>f_lt_ff (B:=B) (r:=true) (a:=(M)) (b:=(b)) rfl (by exact zqaa hM h4) rfl (by exact zqaZ h2 hM p) (decide_eq_true (by exact zqau p)) K) aN)) ?_
   intro Tb1 h1 N1 t1 Rp
   exact K _ _ _ _ Rp
  ·obtain rfl:M=b:=by omega
   refine seg_codeD hh Rp [aB "float.__lt__" [.float (fl M) v,.float (fl a) u] true,aB "float.__lt__" [.float (fl c) w,.float (fl M) v] false] 96 (dA 0x81081831c81c71c11c60c31c81c71c11c61821820c72071c70471860860c72071c7047186181186) (dM 32) (.ok (.ret (.float (fl M) v))) [] [] 5 0 (by rfl') (aC (fun _ _ _ _ _ _ _ K=>f_lt_ff (B:=B) (r:=true) (a:=(M)) (b:=(a)) rfl (by exact zqaa hM h2) rfl (by exact zqaZ h0 hM o) (decide_eq_true (by exact zqau o)) K) (aC (fun _ _ _ _ _ _ _ K=>f_lt_ff (B:=B) (r:=false) (a:=(c)) (b:=(M)) rfl (by exact zqbG h4 hM m3) rfl (by exact zqaa hM h2) (decide_eq_false (by exact zqax m3)) K) aN)) ?_
   intro Tb1 h1 N1 t1 Rp
   exact K _ _ _ _ Rp
 ·rcases Int.lt_or_le c a with p|p
  ·obtain rfl:M=c:=by omega
   refine seg_codeD hh Rp [aB "float.__lt__" [.float (fl b) v,.float (fl a) u] false,aB "float.__lt__" [.float (fl M) w,.float (fl a) u] true] 96 (dA 0x81081831c81c71c11c61821830c72071c70471820c72071c70471860860c72071c7047186181186) (dM 32) (.ok (.ret (.float (fl M) w))) [] [] 5 0 (by rfl') (aC (fun _ _ _ _ _ _ _ K=>f_lt_ff (B:=B) (r:=false) (a:=(b)) (b:=(a)) rfl (by unfold Fits;omega) rfl (by exact zqaZ h0 hM p) (decide_eq_false (by exact zqax o)) K) (aC (fun _ _ _ _ _ _ _ K=>f_lt_ff (B:=B) (r:=true) (a:=(M)) (b:=(a)) rfl (by exact zqaa hM h4) rfl (by exact zqaZ h0 hM p) (decide_eq_true (by exact zqau p)) K) aN)) ?_
   intro Tb1 h1 N1 t1 Rp
   exact K _ _ _ _ Rp
  ·obtain rfl:M=a:=by omega
   refine seg_codeD hh Rp [aB "float.__lt__" [.float (fl b) v,.float (fl M) u] false,aB "float.__lt__" [.float (fl c) w,.float (fl M) u] false] 93 (dA 0x2042060c72071c70471830c72071c70471820c72071c70471860860c72071c7047186181186) (dM 32) (.ok (.ret (.float (fl M) u))) [] [] 5 0 (by rfl') (aC (fun _ _ _ _ _ _ _ K=>f_lt_ff (B:=B) (r:=false) (a:=(b)) (b:=(M)) rfl (by exact zqbG h2 hM m2) rfl (by exact zqaa hM h0) (decide_eq_false (by exact zqax m2)) K) (aC (fun _ _ _ _ _ _ _ K=>f_lt_ff (B:=B) (r:=false) (a:=(c)) (b:=(M)) rfl (by exact zqbG h4 hM m3) rfl (by exact zqaa hM h0) (decide_eq_false (by exact zqax m3)) K) aN)) ?_
   intro Tb1 h1 N1 t1 Rp
   exact K _ _ _ _ Rp
theorem to_hsv_r(x:W2)(A:Around)(hh:A.handled=none)(hA:A.depth<900)(R:Result→Shared→Prop)(X Y Z M m D s rc gc bc W H:Int)
 (hX0:0≤X) (hY0:0≤Y) (hZ0:0≤Z) (hM:M≤2^24) (m1:X≤M) (m2:Y≤M) (m3:Z≤M) (m4:M=X∨M=Y∨M=Z) (n1:m≤X) (n2:m≤Y) (n3:m≤Z) (n4:m=X∨m=Y∨m=Z) (hm0:0≤m) (hD:M-m=D) (hD0:0<D) (hb:X=M)
 (hrc:(M-X)*2^24=rc*D) (hrc0:0≤rc) (hrc1:rc≤2^24) (hgc:(M-Y)*2^24=gc*D) (hgc0:0≤gc) (hgc1:gc≤2^24) (hbc:(M-Z)*2^24=bc*D) (hbc0:0≤bc) (hbc1:bc≤2^24) (hW:bc-gc=W*6) (hH:(if W<0 then W+2^24 else W)=H) (hs:D*2^24=s*M) (hs0:0≤s) (hs1:s≤2^24)
 (ta tb tc:Nat) (N t:Nat) (h:Heap) (gl d os) (rest:Cells) (Rp:Rep x.B N h rest 0)
 (K:∀h' N' t' a u v w,Rep x.B N' h' ((a,⟨.type "tuple",none,.seq #[.float (fl H) u,v,w] 0,#[]⟩)::rest) 0→R (.ok (.ret (.ref a))) ⟨h',gl,d,t',os⟩):
 codeAny (MB x.B) A (.call (.ref 115) ⟨[.float (fl X) ta,.float (fl Y) tb,.float (fl Z) tc],[]⟩) R ⟨h,gl,d,t,os⟩:=by
 refine enterD hh Rp (by exact zqaD hA) 26 (dA 0x86086086041) (bodyOf (fdOf x.B 115)) (envOf (fdOf x.B 115) 115 (N+0)) [(N+0,oF #[En x.B n_r (t+0) (.float (fl X) ta),En x.B n_g (t+1) (.float (fl Y) tb),En x.B n_b (t+2) (.float (fl Z) tc)] 3)] 1 3 (by rfl') ?_
 intro Tb1 h1 N1 t1 Rp
 with_reducible refine seg_callD (by with_unfolding_all exact hh) Rp [] 22 (dA 0x6186041) [] (cB "max" [.float (fl X) ta,.float (fl Y) tb,.float (fl Z) tc]) [] [] 0 0 ?_
 intro Tb2 h2 N2 t2 Rp kk2
 refine max_fff (M:=M) hh Rp (by exact zqac hX0) (by exact zqac hY0) (by exact zqac hZ0) (by exact zqaJ hM) (by exact zqbj hb) (by exact zqaf m2) (by exact zqaf m3) (by exact zqcO hb) fun h1 N1 t1 u1 Rp=>?_
 with_reducible refine seg_callD (by with_unfolding_all exact hh) Rp [] 30 (dA 0x6186041086) [] (cB "min" [.float (fl X) ta,.float (fl Y) tb,.float (fl Z) tc]) [] [.u (dU [] [En x.B n_maxc (t1+0) (.float (fl M) u1)] 4)] 0 1 ?_
 intro Tb3 h3 N3 t3 Rp kk3
 refine min_fff (M:=m) hh Rp (by exact zqbk hM hb) (by exact zqay hM m2) (by exact zqay hM m3) (by exact zqac hm0) (by exact zqbl hD hD0 hb) (by exact zqaf n2) (by exact zqaf n3) (by exact zqcP n4) fun h2 N2 t2 u2 Rp=>?_
 refine seg_valD hh Rp [aF "float.__sub__" [.float (fl M) u1,.float (fl m) u2] (D),aB "float.__eq__" [.float (fl m) u2,.float (fl M) u1] false,aF "float.__truediv__" [.float (fl D) (t2+1),.float (fl M) u1] (s),aF "float.__sub__" [.float (fl M) u1,.float (fl X) ta] (M-X),aF "float.__truediv__" [.float (fl (M-X)) (t2+6),.float (fl D) (t2+1)] (rc),aF "float.__sub__" [.float (fl M) u1,.float (fl Y) tb] (M-Y),aF "float.__truediv__" [.float (fl (M-Y)) (t2+9),.float (fl D) (t2+1)] (gc),aF "float.__sub__" [.float (fl M) u1,.float (fl Z) tc] (M-Z),aF "float.__truediv__" [.float (fl (M-Z)) (t2+12),.float (fl D) (t2+1)] (bc),aB "float.__eq__" [.float (fl X) ta,.float (fl M) u1] true,aF "float.__sub__" [.float (fl bc) (t2+13),.float (fl gc) (t2+10)] ((bc)- (gc)),aF "float.__truediv__" [.float (fl (bc-gc)) (t2+15),.float 4618441417868443648 (t2+17)] (W),aF "float.__mod__" [.float (fl W) (t2+18),.float 4607182418800017408 (t2+19)] (H)] 166 (dA 0x618608638d18218c1862c618218a1891860862061c6182186185186086106183186086182182186086) (dM 3) (Flow.ret (.ref (N2+0))) [(N2+0,oT #[.float (fl H) (t2+20),.float (fl s) (t2+4),.float (fl M) u1])] [.d] 1 22 ?_ (aC (fun _ _ _ _ _ _ _ K=>f_sub_ff (B:=x.B) (a:=(M)) (b:=(m)) (c:=D) rfl rfl (by exact zqab hX0 hM hb) (by exact zqcQ hM m2 n2 hm0) (by exact zqad hM hm0 hD hD0) (by exact zqaK hD) K) (aC (fun _ _ _ _ _ _ _ K=>f_eq_ff (B:=x.B) (r:=false) (a:=(m)) (b:=(M)) rfl (by exact zqcQ hM m2 n2 hm0) rfl (by exact zqab hX0 hM hb) (decide_eq_false (by exact zqaL hD hD0)) K) (aC (fun _ _ _ _ _ _ _ K=>f_div_ff (B:=x.B) (a:=(D)) (b:=(M)) (c:=s) rfl rfl (by exact zqad hM hm0 hD hD0) (by exact zqab hX0 hM hb) (by exact zqaa hs0 hs1) (by exact zqcR hm0 hD hD0) (by exact zqbH hs) K) (aC (fun _ _ _ _ _ _ _ K=>f_sub_ff (B:=x.B) (a:=(M)) (b:=(X)) (c:=(M-X)) rfl rfl (by exact zqab hX0 hM hb) (by exact zqaz hX0 hM hb) (by exact zqaA hb) (by exact zqag) K) (aC (fun _ _ _ _ _ _ _ K=>f_div_ff (B:=x.B) (a:=(M-X)) (b:=(D)) (c:=rc) rfl rfl (by exact zqaA hb) (by exact zqad hM hm0 hD hD0) (by exact zqaa hrc0 hrc1) (by exact zqah hD0) (by exact zqai hrc) K) (aC (fun _ _ _ _ _ _ _ K=>f_sub_ff (B:=x.B) (a:=(M)) (b:=(Y)) (c:=(M-Y)) rfl rfl (by exact zqab hX0 hM hb) (by exact zqat hY0 hM m2) (by exact zqal hY0 hM m2) (by exact zqag) K) (aC (fun _ _ _ _ _ _ _ K=>f_div_ff (B:=x.B) (a:=(M-Y)) (b:=(D)) (c:=gc) rfl rfl (by exact zqal hY0 hM m2) (by exact zqad hM hm0 hD hD0) (by exact zqaa hgc0 hgc1) (by exact zqah hD0) (by exact zqai hgc) K) (aC (fun _ _ _ _ _ _ _ K=>f_sub_ff (B:=x.B) (a:=(M)) (b:=(Z)) (c:=(M-Z)) rfl rfl (by exact zqab hX0 hM hb) (by exact zqat hZ0 hM m3) (by exact zqal hZ0 hM m3) (by exact zqag) K) (aC (fun _ _ _ _ _ _ _ K=>f_div_ff (B:=x.B) (a:=(M-Z)) (b:=(D)) (c:=bc) rfl rfl (by exact zqal hZ0 hM m3) (by exact zqad hM hm0 hD hD0) (by exact zqaa hbc0 hbc1) (by exact zqah hD0) (by exact zqai hbc) K) (aC (fun _ _ _ _ _ _ _ K=>f_eq_ff (B:=x.B) (r:=true) (a:=(X)) (b:=(M)) rfl (by exact zqaz hX0 hM hb) rfl (by exact zqab hX0 hM hb) (decide_eq_true (by exact zqbm hb)) K) (aC (fun _ _ _ _ _ _ _ K=>f_sub_ff (B:=x.B) (a:=(bc)) (b:=(gc)) (c:=((bc)- (gc))) rfl rfl (by exact zqaa hbc0 hbc1) (by exact zqaa hgc0 hgc1) (by exact zqbn hgc0 hgc1 hbc0 hbc1) (by exact zqag) K) (aC (fun _ _ _ _ _ _ _ K=>f_div_ff (B:=x.B) (a:=(bc-gc)) (b:=(100663296)) (c:=W) rfl (by decide+kernel) (by exact zqbn hgc0 hgc1 hbc0 hbc1) (by unfold Fits;decide) (by exact zqcS hgc0 hgc1 hbc0 hbc1 hW) (by decide) (by exact zqcT hW) K) (aC (fun _ _ _ _ _ _ _ K=>f_mod_1 (B:=x.B) (a:=(W)) (c:=H) rfl (by decide+kernel) (by exact zqcU hgc1 hbc0 hW) (by exact zqcV hgc0 hbc1 hW) (by first|assumption|(rw[if_pos (by omega)];first|done|omega)|(rw[if_neg (by omega)];first|done|omega)) K) aN)))))))))))))
 intro Tb4 h4 N4 t4 Rp
 exact K _ _ _ _ _ _ _ Rp
theorem to_hsv_g(x:W2)(A:Around)(hh:A.handled=none)(hA:A.depth<900)(R:Result→Shared→Prop)(X Y Z M m D s rc gc bc W H:Int)
 (hX0:0≤X) (hY0:0≤Y) (hZ0:0≤Z) (hM:M≤2^24) (m1:X≤M) (m2:Y≤M) (m3:Z≤M) (m4:M=X∨M=Y∨M=Z) (n1:m≤X) (n2:m≤Y) (n3:m≤Z) (n4:m=X∨m=Y∨m=Z) (hm0:0≤m) (hD:M-m=D) (hD0:0<D) (hb:X<M) (hb2:Y=M)
 (hrc:(M-X)*2^24=rc*D) (hrc0:0≤rc) (hrc1:rc≤2^24) (hgc:(M-Y)*2^24=gc*D) (hgc0:0≤gc) (hgc1:gc≤2^24) (hbc:(M-Z)*2^24=bc*D) (hbc0:0≤bc) (hbc1:bc≤2^24) (hW:2*2^24+rc-bc=W*6) (hH:(if W<0 then W+2^24 else W)=H) (hs:D*2^24=s*M) (hs0:0≤s) (hs1:s≤2^24)
 (ta tb tc:Nat) (N t:Nat) (h:Heap) (gl d os) (rest:Cells) (Rp:Rep x.B N h rest 0)
 (K:∀h' N' t' a u v w,Rep x.B N' h' ((a,⟨.type "tuple",none,.seq #[.float (fl H) u,v,w] 0,#[]⟩)::rest) 0→R (.ok (.ret (.ref a))) ⟨h',gl,d,t',os⟩):
 codeAny (MB x.B) A (.call (.ref 115) ⟨[.float (fl X) ta,.float (fl Y) tb,.float (fl Z) tc],[]⟩) R ⟨h,gl,d,t,os⟩:=by
 refine enterD hh Rp (by exact zqaD hA) 26 (dA 0x86086086041) (bodyOf (fdOf x.B 115)) (envOf (fdOf x.B 115) 115 (N+0)) [(N+0,oF #[En x.B n_r (t+0) (.float (fl X) ta),En x.B n_g (t+1) (.float (fl Y) tb),En x.B n_b (t+2) (.float (fl Z) tc)] 3)] 1 3 (by rfl') ?_
 intro Tb1 h1 N1 t1 Rp
 with_reducible refine seg_callD (by with_unfolding_all exact hh) Rp [] 22 (dA 0x6186041) [] (cB "max" [.float (fl X) ta,.float (fl Y) tb,.float (fl Z) tc]) [] [] 0 0 ?_
 intro Tb2 h2 N2 t2 Rp kk2
 refine max_fff (M:=M) hh Rp (by exact zqac hX0) (by exact zqac hY0) (by exact zqac hZ0) (by exact zqaJ hM) (by exact zqaM hb) (by exact zqbj hb2) (by exact zqaf m3) (by exact zqcW hb2) fun h1 N1 t1 u1 Rp=>?_
 with_reducible refine seg_callD (by with_unfolding_all exact hh) Rp [] 30 (dA 0x6186041086) [] (cB "min" [.float (fl X) ta,.float (fl Y) tb,.float (fl Z) tc]) [] [.u (dU [] [En x.B n_maxc (t1+0) (.float (fl M) u1)] 4)] 0 1 ?_
 intro Tb3 h3 N3 t3 Rp kk3
 refine min_fff (M:=m) hh Rp (by exact zqaN hM hb) (by exact zqbk hM hb2) (by exact zqay hM m3) (by exact zqac hm0) (by exact zqaf n1) (by exact zqbl hD hD0 hb2) (by exact zqaf n3) (by omega) fun h2 N2 t2 u2 Rp=>?_
 refine seg_valD hh Rp [aF "float.__sub__" [.float (fl M) u1,.float (fl m) u2] (D),aB "float.__eq__" [.float (fl m) u2,.float (fl M) u1] false,aF "float.__truediv__" [.float (fl D) (t2+1),.float (fl M) u1] (s),aF "float.__sub__" [.float (fl M) u1,.float (fl X) ta] (M-X),aF "float.__truediv__" [.float (fl (M-X)) (t2+6),.float (fl D) (t2+1)] (rc),aF "float.__sub__" [.float (fl M) u1,.float (fl Y) tb] (M-Y),aF "float.__truediv__" [.float (fl (M-Y)) (t2+9),.float (fl D) (t2+1)] (gc),aF "float.__sub__" [.float (fl M) u1,.float (fl Z) tc] (M-Z),aF "float.__truediv__" [.float (fl (M-Z)) (t2+12),.float (fl D) (t2+1)] (bc),aB "float.__eq__" [.float (fl X) ta,.float (fl M) u1] false,aB "float.__eq__" [.float (fl Y) tb,.float (fl M) u1] true,aF "float.__add__" [.float 4611686018427387904 (t2+15),.float (fl rc) (t2+7)] ((33554432)+(rc)),aF "float.__sub__" [.float (fl (33554432+rc)) (t2+16),.float (fl bc) (t2+13)] ((33554432+rc)- (bc)),aF "float.__truediv__" [.float (fl (33554432+rc-bc)) (t2+17),.float 4618441417868443648 (t2+19)] (W),aF "float.__mod__" [.float (fl W) (t2+20),.float 4607182418800017408 (t2+21)] (H)] 177 (dA 0x618608640f18218e18d18c1862c618218a1891860862061c6182186185186086106183186086182182186086) (dM 3) (Flow.ret (.ref (N2+0))) [(N2+0,oT #[.float (fl H) (t2+22),.float (fl s) (t2+4),.float (fl M) u1])] [.d] 1 24 ?_ (aC (fun _ _ _ _ _ _ _ K=>f_sub_ff (B:=x.B) (a:=(M)) (b:=(m)) (c:=D) rfl rfl (by exact zqab hY0 hM hb2) (by exact zqbo hM n1 hm0 hb) (by exact zqad hM hm0 hD hD0) (by exact zqaK hD) K) (aC (fun _ _ _ _ _ _ _ K=>f_eq_ff (B:=x.B) (r:=false) (a:=(m)) (b:=(M)) rfl (by exact zqbo hM n1 hm0 hb) rfl (by exact zqab hY0 hM hb2) (decide_eq_false (by exact zqaL hD hD0)) K) (aC (fun _ _ _ _ _ _ _ K=>f_div_ff (B:=x.B) (a:=(D)) (b:=(M)) (c:=s) rfl rfl (by exact zqad hM hm0 hD hD0) (by exact zqab hY0 hM hb2) (by exact zqaa hs0 hs1) (by exact zqcR hm0 hD hD0) (by exact zqbH hs) K) (aC (fun _ _ _ _ _ _ _ K=>f_sub_ff (B:=x.B) (a:=(M)) (b:=(X)) (c:=(M-X)) rfl rfl (by exact zqab hY0 hM hb2) (by exact zqaj hX0 hM hb) (by exact zqao hX0 hM hb) (by exact zqag) K) (aC (fun _ _ _ _ _ _ _ K=>f_div_ff (B:=x.B) (a:=(M-X)) (b:=(D)) (c:=rc) rfl rfl (by exact zqao hX0 hM hb) (by exact zqad hM hm0 hD hD0) (by exact zqaa hrc0 hrc1) (by exact zqah hD0) (by exact zqai hrc) K) (aC (fun _ _ _ _ _ _ _ K=>f_sub_ff (B:=x.B) (a:=(M)) (b:=(Y)) (c:=(M-Y)) rfl rfl (by exact zqab hY0 hM hb2) (by exact zqaz hY0 hM hb2) (by exact zqaA hb2) (by exact zqag) K) (aC (fun _ _ _ _ _ _ _ K=>f_div_ff (B:=x.B) (a:=(M-Y)) (b:=(D)) (c:=gc) rfl rfl (by exact zqaA hb2) (by exact zqad hM hm0 hD hD0) (by exact zqaa hgc0 hgc1) (by exact zqah hD0) (by exact zqai hgc) K) (aC (fun _ _ _ _ _ _ _ K=>f_sub_ff (B:=x.B) (a:=(M)) (b:=(Z)) (c:=(M-Z)) rfl rfl (by exact zqab hY0 hM hb2) (by exact zqat hZ0 hM m3) (by exact zqal hZ0 hM m3) (by exact zqag) K) (aC (fun _ _ _ _ _ _ _ K=>f_div_ff (B:=x.B) (a:=(M-Z)) (b:=(D)) (c:=bc) rfl rfl (by exact zqal hZ0 hM m3) (by exact zqad hM hm0 hD hD0) (by exact zqaa hbc0 hbc1) (by exact zqah hD0) (by exact zqai hbc) K) (aC (fun _ _ _ _ _ _ _ K=>f_eq_ff (B:=x.B) (r:=false) (a:=(X)) (b:=(M)) rfl (by exact zqaj hX0 hM hb) rfl (by exact zqab hY0 hM hb2) (decide_eq_false (by exact zqaC hb)) K) (aC (fun _ _ _ _ _ _ _ K=>f_eq_ff (B:=x.B) (r:=true) (a:=(Y)) (b:=(M)) rfl (by exact zqaz hY0 hM hb2) rfl (by exact zqab hY0 hM hb2) (decide_eq_true (by exact zqbm hb2)) K) (aC (fun _ _ _ _ _ _ _ K=>f_add_ff (B:=x.B) (a:=(33554432)) (b:=(rc)) (c:=((33554432)+(rc))) (by decide+kernel) rfl (by unfold Fits;decide) (by exact zqaa hrc0 hrc1) (by exact zqbp hrc0 hrc1) (by exact zqcX) K) (aC (fun _ _ _ _ _ _ _ K=>f_sub_ff (B:=x.B) (a:=(33554432+rc)) (b:=(bc)) (c:=((33554432+rc)- (bc))) rfl rfl (by exact zqbp hrc0 hrc1) (by exact zqaa hbc0 hbc1) (by exact zqbq hrc0 hrc1 hbc0 hbc1) (by exact zqcY) K) (aC (fun _ _ _ _ _ _ _ K=>f_div_ff (B:=x.B) (a:=(33554432+rc-bc)) (b:=(100663296)) (c:=W) rfl (by decide+kernel) (by exact zqbq hrc0 hrc1 hbc0 hbc1) (by unfold Fits;decide) (by exact zqcZ hrc0 hrc1 hbc0 hbc1 hW) (by decide) (by exact zqda hW) K) (aC (fun _ _ _ _ _ _ _ K=>f_mod_1 (B:=x.B) (a:=(W)) (c:=H) rfl (by decide+kernel) (by exact zqdb hrc0 hbc1 hW) (by exact zqdc hrc1 hbc0 hW) (by first|assumption|(rw[if_pos (by omega)];first|done|omega)|(rw[if_neg (by omega)];first|done|omega)) K) aN)))))))))))))))
 intro Tb4 h4 N4 t4 Rp
 exact K _ _ _ _ _ _ _ Rp
theorem to_hsv_b(x:W2)(A:Around)(hh:A.handled=none)(hA:A.depth<900)(R:Result→Shared→Prop)(X Y Z M m D s rc gc bc W H:Int)
 (hX0:0≤X) (hY0:0≤Y) (hZ0:0≤Z) (hM:M≤2^24) (m1:X≤M) (m2:Y≤M) (m3:Z≤M) (m4:M=X∨M=Y∨M=Z) (n1:m≤X) (n2:m≤Y) (n3:m≤Z) (n4:m=X∨m=Y∨m=Z) (hm0:0≤m) (hD:M-m=D) (hD0:0<D) (hb:X<M) (hb2:Y<M)
 (hrc:(M-X)*2^24=rc*D) (hrc0:0≤rc) (hrc1:rc≤2^24) (hgc:(M-Y)*2^24=gc*D) (hgc0:0≤gc) (hgc1:gc≤2^24) (hbc:(M-Z)*2^24=bc*D) (hbc0:0≤bc) (hbc1:bc≤2^24) (hW:4*2^24+gc-rc=W*6) (hH:(if W<0 then W+2^24 else W)=H) (hs:D*2^24=s*M) (hs0:0≤s) (hs1:s≤2^24)
 (ta tb tc:Nat) (N t:Nat) (h:Heap) (gl d os) (rest:Cells) (Rp:Rep x.B N h rest 0)
 (K:∀h' N' t' a u v w,Rep x.B N' h' ((a,⟨.type "tuple",none,.seq #[.float (fl H) u,v,w] 0,#[]⟩)::rest) 0→R (.ok (.ret (.ref a))) ⟨h',gl,d,t',os⟩):
 codeAny (MB x.B) A (.call (.ref 115) ⟨[.float (fl X) ta,.float (fl Y) tb,.float (fl Z) tc],[]⟩) R ⟨h,gl,d,t,os⟩:=by
 refine enterD hh Rp (by exact zqaD hA) 26 (dA 0x86086086041) (bodyOf (fdOf x.B 115)) (envOf (fdOf x.B 115) 115 (N+0)) [(N+0,oF #[En x.B n_r (t+0) (.float (fl X) ta),En x.B n_g (t+1) (.float (fl Y) tb),En x.B n_b (t+2) (.float (fl Z) tc)] 3)] 1 3 (by rfl') ?_
 intro Tb1 h1 N1 t1 Rp
 with_reducible refine seg_callD (by with_unfolding_all exact hh) Rp [] 22 (dA 0x6186041) [] (cB "max" [.float (fl X) ta,.float (fl Y) tb,.float (fl Z) tc]) [] [] 0 0 ?_
 intro Tb2 h2 N2 t2 Rp kk2
 refine max_fff (M:=M) hh Rp (by exact zqac hX0) (by exact zqac hY0) (by exact zqac hZ0) (by exact zqaJ hM) (by exact zqaM hb) (by exact zqaM hb2) (by exact zqaf m3) (by omega) fun h1 N1 t1 u1 Rp=>?_
 with_reducible refine seg_callD (by with_unfolding_all exact hh) Rp [] 30 (dA 0x6186041086) [] (cB "min" [.float (fl X) ta,.float (fl Y) tb,.float (fl Z) tc]) [] [.u (dU [] [En x.B n_maxc (t1+0) (.float (fl M) u1)] 4)] 0 1 ?_
 intro Tb3 h3 N3 t3 Rp kk3
 refine min_fff (M:=m) hh Rp (by exact zqaN hM hb) (by exact zqaN hM hb2) (by exact zqay hM m3) (by exact zqac hm0) (by exact zqaf n1) (by exact zqaf n2) (by exact zqaf n3) (by omega) fun h2 N2 t2 u2 Rp=>?_
 refine seg_valD hh Rp [aF "float.__sub__" [.float (fl M) u1,.float (fl m) u2] (D),aB "float.__eq__" [.float (fl m) u2,.float (fl M) u1] false,aF "float.__truediv__" [.float (fl D) (t2+1),.float (fl M) u1] (s),aF "float.__sub__" [.float (fl M) u1,.float (fl X) ta] (M-X),aF "float.__truediv__" [.float (fl (M-X)) (t2+6),.float (fl D) (t2+1)] (rc),aF "float.__sub__" [.float (fl M) u1,.float (fl Y) tb] (M-Y),aF "float.__truediv__" [.float (fl (M-Y)) (t2+9),.float (fl D) (t2+1)] (gc),aF "float.__sub__" [.float (fl M) u1,.float (fl Z) tc] (M-Z),aF "float.__truediv__" [.float (fl (M-Z)) (t2+12),.float (fl D) (t2+1)] (bc),aB "float.__eq__" [.float (fl X) ta,.float (fl M) u1] false,aB "float.__eq__" [.float (fl Y) tb,.float (fl M) u1] false,aF "float.__add__" [.float 4616189618054758400 (t2+15),.float (fl gc) (t2+10)] ((67108864)+(gc)),aF "float.__sub__" [.float (fl (67108864+gc)) (t2+16),.float (fl rc) (t2+7)] ((67108864+gc)- (rc)),aF "float.__truediv__" [.float (fl (67108864+gc-rc)) (t2+17),.float 4618441417868443648 (t2+19)] (W),aF "float.__mod__" [.float (fl W) (t2+20),.float 4607182418800017408 (t2+21)] (H)] 177 (dA 0x618608640f18218e18d18c1862c618218a1891860862061c6182186185186086106183186086182182186086) (dM 3) (Flow.ret (.ref (N2+0))) [(N2+0,oT #[.float (fl H) (t2+22),.float (fl s) (t2+4),.float (fl M) u1])] [.d] 1 24 ?_ (aC (fun _ _ _ _ _ _ _ K=>f_sub_ff (B:=x.B) (a:=(M)) (b:=(m)) (c:=D) rfl rfl (by exact zqak hX0 hM hb) (by exact zqbo hM n1 hm0 hb) (by exact zqad hM hm0 hD hD0) (by exact zqaK hD) K) (aC (fun _ _ _ _ _ _ _ K=>f_eq_ff (B:=x.B) (r:=false) (a:=(m)) (b:=(M)) rfl (by exact zqbo hM n1 hm0 hb) rfl (by exact zqak hX0 hM hb) (decide_eq_false (by exact zqaL hD hD0)) K) (aC (fun _ _ _ _ _ _ _ K=>f_div_ff (B:=x.B) (a:=(D)) (b:=(M)) (c:=s) rfl rfl (by exact zqad hM hm0 hD hD0) (by exact zqak hX0 hM hb) (by exact zqaa hs0 hs1) (by exact zqeJ hX0 hb) (by exact zqbH hs) K) (aC (fun _ _ _ _ _ _ _ K=>f_sub_ff (B:=x.B) (a:=(M)) (b:=(X)) (c:=(M-X)) rfl rfl (by exact zqak hX0 hM hb) (by exact zqaj hX0 hM hb) (by exact zqao hX0 hM hb) (by exact zqag) K) (aC (fun _ _ _ _ _ _ _ K=>f_div_ff (B:=x.B) (a:=(M-X)) (b:=(D)) (c:=rc) rfl rfl (by exact zqao hX0 hM hb) (by exact zqad hM hm0 hD hD0) (by exact zqaa hrc0 hrc1) (by exact zqah hD0) (by exact zqai hrc) K) (aC (fun _ _ _ _ _ _ _ K=>f_sub_ff (B:=x.B) (a:=(M)) (b:=(Y)) (c:=(M-Y)) rfl rfl (by exact zqak hX0 hM hb) (by exact zqaj hY0 hM hb2) (by exact zqao hY0 hM hb2) (by exact zqag) K) (aC (fun _ _ _ _ _ _ _ K=>f_div_ff (B:=x.B) (a:=(M-Y)) (b:=(D)) (c:=gc) rfl rfl (by exact zqao hY0 hM hb2) (by exact zqad hM hm0 hD hD0) (by exact zqaa hgc0 hgc1) (by exact zqah hD0) (by exact zqai hgc) K) (aC (fun _ _ _ _ _ _ _ K=>f_sub_ff (B:=x.B) (a:=(M)) (b:=(Z)) (c:=(M-Z)) rfl rfl (by exact zqak hX0 hM hb) (by exact zqat hZ0 hM m3) (by exact zqal hZ0 hM m3) (by exact zqag) K) (aC (fun _ _ _ _ _ _ _ K=>f_div_ff (B:=x.B) (a:=(M-Z)) (b:=(D)) (c:=bc) rfl rfl (by exact zqal hZ0 hM m3) (by exact zqad hM hm0 hD hD0) (by exact zqaa hbc0 hbc1) (by exact zqah hD0) (by exact zqai hbc) K) (aC (fun _ _ _ _ _ _ _ K=>f_eq_ff (B:=x.B) (r:=false) (a:=(X)) (b:=(M)) rfl (by exact zqaj hX0 hM hb) rfl (by exact zqak hX0 hM hb) (decide_eq_false (by exact zqaC hb)) K) (aC (fun _ _ _ _ _ _ _ K=>f_eq_ff (B:=x.B) (r:=false) (a:=(Y)) (b:=(M)) rfl (by exact zqaj hY0 hM hb2) rfl (by exact zqak hX0 hM hb) (decide_eq_false (by exact zqaC hb2)) K) (aC (fun _ _ _ _ _ _ _ K=>f_add_ff (B:=x.B) (a:=(67108864)) (b:=(gc)) (c:=((67108864)+(gc))) (by decide+kernel) rfl (by unfold Fits;decide) (by exact zqaa hgc0 hgc1) (by exact zqbr hgc0 hgc1) (by exact zqdd) K) (aC (fun _ _ _ _ _ _ _ K=>f_sub_ff (B:=x.B) (a:=(67108864+gc)) (b:=(rc)) (c:=((67108864+gc)- (rc))) rfl rfl (by exact zqbr hgc0 hgc1) (by exact zqaa hrc0 hrc1) (by exact zqbs hrc0 hrc1 hgc0 hgc1) (by exact zqde) K) (aC (fun _ _ _ _ _ _ _ K=>f_div_ff (B:=x.B) (a:=(67108864+gc-rc)) (b:=(100663296)) (c:=W) rfl (by decide+kernel) (by exact zqbs hrc0 hrc1 hgc0 hgc1) (by unfold Fits;decide) (by exact zqdf hrc0 hrc1 hgc0 hgc1 hW) (by decide) (by exact zqdg hW) K) (aC (fun _ _ _ _ _ _ _ K=>f_mod_1 (B:=x.B) (a:=(W)) (c:=H) rfl (by decide+kernel) (by exact zqdh hrc1 hgc0 hW) (by exact zqdi hrc0 hgc1 hW) (by first|assumption|(rw[if_pos (by omega)];first|done|omega)|(rw[if_neg (by omega)];first|done|omega)) K) aN)))))))))))))))
 intro Tb4 h4 N4 t4 Rp
 exact K _ _ _ _ _ _ _ Rp
theorem f_div_any{B:Base}{A:Around}{R:Result→Shared→Prop}{x y:UInt64}{a b:Int}{u v t:Nat}{h:Heap}{gl:Array GenState}{d:Drawn}{os:OsState}(hx:x=fl a)(hy:y=fl b)(hb:Fits b)(h1:0<b)
 (K:R (.ok (.ret (.float (Float64.div (fl a) (fl b)) t))) ⟨h,gl,d,t+1,os⟩):codeAny (MB B) A (.call (.builtin "float.__truediv__") ⟨[.float x u,.float y v],[]⟩) R ⟨h,gl,d,t,os⟩:=by
 subst hx hy
 exact gvc F.slot_float_truediv rfl F.entry_float_truediv (F.args_float_truediv_2 _ _) (AutoFloatG1.float___truediv___float_float_1 _ _ _ _ (by rw[fl_isZero hb];simp only[decide_eq_true_eq];exact obC h1)) K
theorem to_hls_r(x:W2)(A:Around)(hh:A.handled=none)(hA:A.depth<900)(R:Result→Shared→Prop)(X Y Z M m D s rc gc bc W H L:Int)
 (hX0:0≤X) (hY0:0≤Y) (hZ0:0≤Z) (hM:M≤2^24) (m1:X≤M) (m2:Y≤M) (m3:Z≤M) (m4:M=X∨M=Y∨M=Z) (n1:m≤X) (n2:m≤Y) (n3:m≤Z) (n4:m=X∨m=Y∨m=Z) (hm0:0≤m) (hD:M-m=D) (hD0:0<D) (hb:X=M)
 (hrc:(M-X)*2^24=rc*D) (hrc0:0≤rc) (hrc1:rc≤2^24) (hgc:(M-Y)*2^24=gc*D) (hgc0:0≤gc) (hgc1:gc≤2^24) (hbc:(M-Z)*2^24=bc*D) (hbc0:0≤bc) (hbc1:bc≤2^24) (hW:bc-gc=W*6) (hH:(if W<0 then W+2^24 else W)=H) (hL:M+m=2*L)
 (ta tb tc:Nat) (N t:Nat) (h:Heap) (gl d os) (rest:Cells) (Rp:Rep x.B N h rest 0)
 (K:∀h' N' t' a u v w,Rep x.B N' h' ((a,⟨.type "tuple",none,.seq #[.float (fl H) u,v,w] 0,#[]⟩)::rest) 0→R (.ok (.ret (.ref a))) ⟨h',gl,d,t',os⟩):
 codeAny (MB x.B) A (.call (.ref 108) ⟨[.float (fl X) ta,.float (fl Y) tb,.float (fl Z) tc],[]⟩) R ⟨h,gl,d,t,os⟩:=by
 refine enterD hh Rp (by exact zqaD hA) 26 (dA 0x86086086041) (bodyOf (fdOf x.B 108)) (envOf (fdOf x.B 108) 108 (N+0)) [(N+0,oF #[En x.B n_r (t+0) (.float (fl X) ta),En x.B n_g (t+1) (.float (fl Y) tb),En x.B n_b (t+2) (.float (fl Z) tc)] 3)] 1 3 (by rfl') ?_
 intro Tb1 h1 N1 t1 Rp
 refine cut 6 ?_
 with_reducible refine seg_callD (by with_unfolding_all exact hh) Rp [] 22 (dA 0x6186041) [] (cB "max" [.float (fl X) ta,.float (fl Y) tb,.float (fl Z) tc]) [] [] 0 0 ?_
 intro Tb2 h2 N2 t2 Rp kk2
 refine max_fff (M:=M) hh Rp (by exact zqac hX0) (by exact zqac hY0) (by exact zqac hZ0) (by exact zqaJ hM) (by exact zqbj hb) (by exact zqaf m2) (by exact zqaf m3) (by exact zqcO hb) fun h1 N1 t1 u1 Rp=>?_
 with_reducible refine seg_callD (by with_unfolding_all exact hh) Rp [] 30 (dA 0x6186041086) [] (cB "min" [.float (fl X) ta,.float (fl Y) tb,.float (fl Z) tc]) [] [.u (dU [] [En x.B n_maxc (t1+0) (.float (fl M) u1)] 4)] 0 1 ?_
 intro Tb3 h3 N3 t3 Rp kk3
 refine min_fff (M:=m) hh Rp (by exact zqbk hM hb) (by exact zqay hM m2) (by exact zqay hM m3) (by exact zqac hm0) (by exact zqbl hD hD0 hb) (by exact zqaf n2) (by exact zqaf n3) (by exact zqcP n4) fun h2 N2 t2 u2 Rp=>?_
 refine seg_valD hh Rp [aF "float.__add__" [.float (fl M) u1,.float (fl m) u2] (M+m),aF "float.__sub__" [.float (fl M) u1,.float (fl m) u2] (D),aF "float.__truediv__" [.float (fl (M+m)) (t2+1),.float 4611686018427387904 (t2+5)] (L),aB "float.__eq__" [.float (fl m) u2,.float (fl M) u1] false] 68 (dA 0x51860861060860c6182182186086) [] Flow.next [] [.u (dU [] [En x.B n_minc (t2+0) (.float (fl m) u2),En x.B n_sumc (t2+2) (.float (fl (M+m)) (t2+1)),En x.B n_rangec (t2+4) (.float (fl D) (t2+3)),En x.B n_l (t2+7) (.float (fl L) (t2+6))] 8)] 0 8 ?_ (aC (fun _ _ _ _ _ _ _ K=>f_add_ff (B:=x.B) (a:=(M)) (b:=(m)) (c:=(M+m)) rfl rfl (by exact zqab hX0 hM hb) (by exact zqap hM hm0 hD hD0) (by exact zqaO hM hm0 hD hD0) (by exact zqbI) K) (aC (fun _ _ _ _ _ _ _ K=>f_sub_ff (B:=x.B) (a:=(M)) (b:=(m)) (c:=D) rfl rfl (by exact zqab hX0 hM hb) (by exact zqap hM hm0 hD hD0) (by exact zqad hM hm0 hD hD0) (by exact zqaK hD) K) (aC (fun _ _ _ _ _ _ _ K=>f_div_ff (B:=x.B) (a:=(M+m)) (b:=(33554432)) (c:=L) rfl (by decide+kernel) (by exact zqaO hM hm0 hD hD0) (by unfold Fits;decide) (by exact zqbJ hM hm0 hD hD0 hL) (by decide) (by exact zqbK hL) K) (aC (fun _ _ _ _ _ _ _ K=>f_eq_ff (B:=x.B) (r:=false) (a:=(m)) (b:=(M)) rfl (by exact zqap hM hm0 hD hD0) rfl (by exact zqab hX0 hM hb) (decide_eq_false (by exact zqaL hD hD0)) K) aN))))
 intro Tb4 h4 N4 t4 Rp
 refine cutTo 1 (fun s=>∃Nx tx u v c hp e1 e2 e3 e4 e5 e6,Rep x.B Nx hp ((N+0,⟨.type "frame",none,.dict #[En x.B n_r (t+0) (.float (fl X) ta),En x.B n_g (t+1) (.float (fl Y) tb),En x.B n_b (t+2) (.float (fl Z) tc),En x.B n_maxc (t1+0) (.float (fl M) u1),En x.B n_minc (t2+0) (.float (fl m) u2),En x.B n_sumc e1 (.float (fl (M+m)) e2),En x.B n_rangec e3 (.float (fl D) e4),En x.B n_l e5 (.float (fl L) e6),En x.B n_s v (.float c u)] 9,#[]⟩)::rest) 0∧s=⟨hp,gl,d,tx,os⟩) ?_ ?_
 ·rcases Int.lt_or_le (2^23) L with o|o
  ·refine seg_callD hh Rp [aB "float.__le__" [.float (fl L) (t2+6),.float 4602678819172646912 (t4+0)] false,aF "float.__sub__" [.float 4611686018427387904 (t4+1),.float (fl M) u1] (2*2^24-M),aF "float.__sub__" [.float (fl (2*2^24-M)) (t4+2),.float (fl m) u2] (2*2^24-M-m)] 31 (dA 0x4183186086) [] (cB "float.__truediv__" [.float (fl D) (t2+3),.float (fl (2*2^24-M-m)) (t4+3)]) [] [] 0 4 ?_ (aC (fun _ _ _ _ _ _ _ K=>f_le_ff (B:=x.B) (r:=false) (a:=(L)) (b:=(8388608)) rfl (by exact zqbL hM hD hD0 hL o) (by decide+kernel) (by unfold Fits;decide) (decide_eq_false (by exact zqbM o)) K) (aC (fun _ _ _ _ _ _ _ K=>f_sub_ff (B:=x.B) (a:=(33554432)) (b:=(M)) (c:=(2*2^24-M)) (by decide+kernel) rfl (by unfold Fits;decide) (by exact zqab hX0 hM hb) (by exact zqbt hX0 hM hb) (by exact zqbN) K) (aC (fun _ _ _ _ _ _ _ K=>f_sub_ff (B:=x.B) (a:=(2*2^24-M)) (b:=(m)) (c:=(2*2^24-M-m)) rfl rfl (by exact zqbt hX0 hM hb) (by exact zqap hM hm0 hD hD0) (by exact zqaP hM hD hD0 hL o) (by exact zqbO) K) aN)))
   intro Tb5 h5 N5 t5 Rp kk5
   refine f_div_any rfl rfl (by exact zqaP hM hD hD0 hL o) (by exact zqbP hM hD hD0) ?_
   with_reducible refine seg_valD (by with_unfolding_all exact hh) Rp [] 18 (dA 0x86) [] Flow.next [] [.u (dU [] [En x.B n_s (t5+1+0) (.float (Float64.div (fl D) (fl (2*2^24-M-m))) t5)] 9)] 0 1 ?_
   intro Tb6 h6 N6 t6 Rp
   exact⟨_,_,_,_,_,_,_,_,_,_,_,_,Rp,rfl⟩
  ·refine seg_callD hh Rp [aB "float.__le__" [.float (fl L) (t2+6),.float 4602678819172646912 (t4+0)] true] 24 (dA 0x186086) [] (cB "float.__truediv__" [.float (fl D) (t2+3),.float (fl (M+m)) (t2+1)]) [] [] 0 1 ?_ (aC (fun _ _ _ _ _ _ _ K=>f_le_ff (B:=x.B) (r:=true) (a:=(L)) (b:=(8388608)) rfl (by exact zqbQ hm0 hD hD0 hL o) (by decide+kernel) (by unfold Fits;decide) (decide_eq_true (by exact zqbR o)) K) aN)
   intro Tb5 h5 N5 t5 Rp kk5
   refine f_div_any rfl rfl (by exact zqeK hm0 hD hD0 hL o) (by exact zqeL hm0 hD hD0) ?_
   with_reducible refine seg_valD (by with_unfolding_all exact hh) Rp [] 18 (dA 0x86) [] Flow.next [] [.u (dU [] [En x.B n_s (t5+1+0) (.float (Float64.div (fl D) (fl (M+m))) t5)] 9)] 0 1 ?_
   intro Tb6 h6 N6 t6 Rp
   exact⟨_,_,_,_,_,_,_,_,_,_,_,_,Rp,rfl⟩
 rintro s ⟨N0,t0,u0,v0,c0,h0,e1,e2,e3,e4,e5,e6,Rp,rfl⟩
 refine seg_valD hh Rp [aF "float.__sub__" [.float (fl M) u1,.float (fl X) ta] (M-X),aF "float.__truediv__" [.float (fl (M-X)) (t0+0),.float (fl D) e4] (rc),aF "float.__sub__" [.float (fl M) u1,.float (fl Y) tb] (M-Y),aF "float.__truediv__" [.float (fl (M-Y)) (t0+3),.float (fl D) e4] (gc),aF "float.__sub__" [.float (fl M) u1,.float (fl Z) tc] (M-Z),aF "float.__truediv__" [.float (fl (M-Z)) (t0+6),.float (fl D) e4] (bc),aB "float.__eq__" [.float (fl X) ta,.float (fl M) u1] true,aF "float.__sub__" [.float (fl bc) (t0+7),.float (fl gc) (t0+4)] ((bc)- (gc)),aF "float.__truediv__" [.float (fl (bc-gc)) (t0+9),.float 4618441417868443648 (t0+11)] (W),aF "float.__mod__" [.float (fl W) (t0+12),.float 4607182418800017408 (t0+13)] (H)] 112 (dA 0x61860862ca182189186206182187186186086146106182183182186) (dM 3) (Flow.ret (.ref (N0+0))) [(N0+0,oT #[.float (fl H) (t0+14),.float (fl L) e6,.float (c0) u0])] [.d] 1 16 ?_ (aC (fun _ _ _ _ _ _ _ K=>f_sub_ff (B:=x.B) (a:=(M)) (b:=(X)) (c:=(M-X)) rfl rfl (by exact zqab hX0 hM hb) (by exact zqaz hX0 hM hb) (by exact zqaA hb) (by exact zqag) K) (aC (fun _ _ _ _ _ _ _ K=>f_div_ff (B:=x.B) (a:=(M-X)) (b:=(D)) (c:=rc) rfl rfl (by exact zqaA hb) (by exact zqad hM hm0 hD hD0) (by exact zqaa hrc0 hrc1) (by exact zqah hD0) (by exact zqai hrc) K) (aC (fun _ _ _ _ _ _ _ K=>f_sub_ff (B:=x.B) (a:=(M)) (b:=(Y)) (c:=(M-Y)) rfl rfl (by exact zqab hX0 hM hb) (by exact zqat hY0 hM m2) (by exact zqal hY0 hM m2) (by exact zqag) K) (aC (fun _ _ _ _ _ _ _ K=>f_div_ff (B:=x.B) (a:=(M-Y)) (b:=(D)) (c:=gc) rfl rfl (by exact zqal hY0 hM m2) (by exact zqad hM hm0 hD hD0) (by exact zqaa hgc0 hgc1) (by exact zqah hD0) (by exact zqai hgc) K) (aC (fun _ _ _ _ _ _ _ K=>f_sub_ff (B:=x.B) (a:=(M)) (b:=(Z)) (c:=(M-Z)) rfl rfl (by exact zqab hX0 hM hb) (by exact zqat hZ0 hM m3) (by exact zqal hZ0 hM m3) (by exact zqag) K) (aC (fun _ _ _ _ _ _ _ K=>f_div_ff (B:=x.B) (a:=(M-Z)) (b:=(D)) (c:=bc) rfl rfl (by exact zqal hZ0 hM m3) (by exact zqad hM hm0 hD hD0) (by exact zqaa hbc0 hbc1) (by exact zqah hD0) (by exact zqai hbc) K) (aC (fun _ _ _ _ _ _ _ K=>f_eq_ff (B:=x.B) (r:=true) (a:=(X)) (b:=(M)) rfl (by exact zqaz hX0 hM hb) rfl (by exact zqab hX0 hM hb) (decide_eq_true (by exact zqbm hb)) K) (aC (fun _ _ _ _ _ _ _ K=>f_sub_ff (B:=x.B) (a:=(bc)) (b:=(gc)) (c:=((bc)- (gc))) rfl rfl (by exact zqaa hbc0 hbc1) (by exact zqaa hgc0 hgc1) (by exact zqbn hgc0 hgc1 hbc0 hbc1) (by exact zqag) K) (aC (fun _ _ _ _ _ _ _ K=>f_div_ff (B:=x.B) (a:=(bc-gc)) (b:=(100663296)) (c:=W) rfl (by decide+kernel) (by exact zqbn hgc0 hgc1 hbc0 hbc1) (by unfold Fits;decide) (by exact zqcS hgc0 hgc1 hbc0 hbc1 hW) (by decide) (by exact zqcT hW) K) (aC (fun _ _ _ _ _ _ _ K=>f_mod_1 (B:=x.B) (a:=(W)) (c:=H) rfl (by decide+kernel) (by exact zqcU hgc1 hbc0 hW) (by exact zqcV hgc0 hbc1 hW) (by first|assumption|(rw[if_pos (by omega)];first|done|omega)|(rw[if_neg (by omega)];first|done|omega)) K) aN))))))))))
 intro Tb5 h5 N5 t5 Rp
 exact K _ _ _ _ _ _ _ Rp
theorem to_hls_g(x:W2)(A:Around)(hh:A.handled=none)(hA:A.depth<900)(R:Result→Shared→Prop)(X Y Z M m D s rc gc bc W H L:Int)
 (hX0:0≤X) (hY0:0≤Y) (hZ0:0≤Z) (hM:M≤2^24) (m1:X≤M) (m2:Y≤M) (m3:Z≤M) (m4:M=X∨M=Y∨M=Z) (n1:m≤X) (n2:m≤Y) (n3:m≤Z) (n4:m=X∨m=Y∨m=Z) (hm0:0≤m) (hD:M-m=D) (hD0:0<D) (hb:X<M) (hb2:Y=M)
 (hrc:(M-X)*2^24=rc*D) (hrc0:0≤rc) (hrc1:rc≤2^24) (hgc:(M-Y)*2^24=gc*D) (hgc0:0≤gc) (hgc1:gc≤2^24) (hbc:(M-Z)*2^24=bc*D) (hbc0:0≤bc) (hbc1:bc≤2^24) (hW:2*2^24+rc-bc=W*6) (hH:(if W<0 then W+2^24 else W)=H) (hL:M+m=2*L)
 (ta tb tc:Nat) (N t:Nat) (h:Heap) (gl d os) (rest:Cells) (Rp:Rep x.B N h rest 0)
 (K:∀h' N' t' a u v w,Rep x.B N' h' ((a,⟨.type "tuple",none,.seq #[.float (fl H) u,v,w] 0,#[]⟩)::rest) 0→R (.ok (.ret (.ref a))) ⟨h',gl,d,t',os⟩):
 codeAny (MB x.B) A (.call (.ref 108) ⟨[.float (fl X) ta,.float (fl Y) tb,.float (fl Z) tc],[]⟩) R ⟨h,gl,d,t,os⟩:=by
 refine enterD hh Rp (by exact zqaD hA) 26 (dA 0x86086086041) (bodyOf (fdOf x.B 108)) (envOf (fdOf x.B 108) 108 (N+0)) [(N+0,oF #[En x.B n_r (t+0) (.float (fl X) ta),En x.B n_g (t+1) (.float (fl Y) tb),En x.B n_b (t+2) (.float (fl Z) tc)] 3)] 1 3 (by rfl') ?_
 intro Tb1 h1 N1 t1 Rp
 refine cut 6 ?_
 with_reducible refine seg_callD (by with_unfolding_all exact hh) Rp [] 22 (dA 0x6186041) [] (cB "max" [.float (fl X) ta,.float (fl Y) tb,.float (fl Z) tc]) [] [] 0 0 ?_
 intro Tb2 h2 N2 t2 Rp kk2
 refine max_fff (M:=M) hh Rp (by exact zqac hX0) (by exact zqac hY0) (by exact zqac hZ0) (by exact zqaJ hM) (by exact zqaM hb) (by exact zqbj hb2) (by exact zqaf m3) (by exact zqcW hb2) fun h1 N1 t1 u1 Rp=>?_
 with_reducible refine seg_callD (by with_unfolding_all exact hh) Rp [] 30 (dA 0x6186041086) [] (cB "min" [.float (fl X) ta,.float (fl Y) tb,.float (fl Z) tc]) [] [.u (dU [] [En x.B n_maxc (t1+0) (.float (fl M) u1)] 4)] 0 1 ?_
 intro Tb3 h3 N3 t3 Rp kk3
 refine min_fff (M:=m) hh Rp (by exact zqaN hM hb) (by exact zqbk hM hb2) (by exact zqay hM m3) (by exact zqac hm0) (by exact zqaf n1) (by exact zqbl hD hD0 hb2) (by exact zqaf n3) (by omega) fun h2 N2 t2 u2 Rp=>?_
 refine seg_valD hh Rp [aF "float.__add__" [.float (fl M) u1,.float (fl m) u2] (M+m),aF "float.__sub__" [.float (fl M) u1,.float (fl m) u2] (D),aF "float.__truediv__" [.float (fl (M+m)) (t2+1),.float 4611686018427387904 (t2+5)] (L),aB "float.__eq__" [.float (fl m) u2,.float (fl M) u1] false] 68 (dA 0x51860861060860c6182182186086) [] Flow.next [] [.u (dU [] [En x.B n_minc (t2+0) (.float (fl m) u2),En x.B n_sumc (t2+2) (.float (fl (M+m)) (t2+1)),En x.B n_rangec (t2+4) (.float (fl D) (t2+3)),En x.B n_l (t2+7) (.float (fl L) (t2+6))] 8)] 0 8 ?_ (aC (fun _ _ _ _ _ _ _ K=>f_add_ff (B:=x.B) (a:=(M)) (b:=(m)) (c:=(M+m)) rfl rfl (by exact zqab hY0 hM hb2) (by exact zqap hM hm0 hD hD0) (by exact zqaO hM hm0 hD hD0) (by exact zqbI) K) (aC (fun _ _ _ _ _ _ _ K=>f_sub_ff (B:=x.B) (a:=(M)) (b:=(m)) (c:=D) rfl rfl (by exact zqab hY0 hM hb2) (by exact zqap hM hm0 hD hD0) (by exact zqad hM hm0 hD hD0) (by exact zqaK hD) K) (aC (fun _ _ _ _ _ _ _ K=>f_div_ff (B:=x.B) (a:=(M+m)) (b:=(33554432)) (c:=L) rfl (by decide+kernel) (by exact zqaO hM hm0 hD hD0) (by unfold Fits;decide) (by exact zqbJ hM hm0 hD hD0 hL) (by decide) (by exact zqbK hL) K) (aC (fun _ _ _ _ _ _ _ K=>f_eq_ff (B:=x.B) (r:=false) (a:=(m)) (b:=(M)) rfl (by exact zqap hM hm0 hD hD0) rfl (by exact zqab hY0 hM hb2) (decide_eq_false (by exact zqaL hD hD0)) K) aN))))
 intro Tb4 h4 N4 t4 Rp
 refine cutTo 1 (fun s=>∃Nx tx u v c hp e1 e2 e3 e4 e5 e6,Rep x.B Nx hp ((N+0,⟨.type "frame",none,.dict #[En x.B n_r (t+0) (.float (fl X) ta),En x.B n_g (t+1) (.float (fl Y) tb),En x.B n_b (t+2) (.float (fl Z) tc),En x.B n_maxc (t1+0) (.float (fl M) u1),En x.B n_minc (t2+0) (.float (fl m) u2),En x.B n_sumc e1 (.float (fl (M+m)) e2),En x.B n_rangec e3 (.float (fl D) e4),En x.B n_l e5 (.float (fl L) e6),En x.B n_s v (.float c u)] 9,#[]⟩)::rest) 0∧s=⟨hp,gl,d,tx,os⟩) ?_ ?_
 ·rcases Int.lt_or_le (2^23) L with o|o
  ·refine seg_callD hh Rp [aB "float.__le__" [.float (fl L) (t2+6),.float 4602678819172646912 (t4+0)] false,aF "float.__sub__" [.float 4611686018427387904 (t4+1),.float (fl M) u1] (2*2^24-M),aF "float.__sub__" [.float (fl (2*2^24-M)) (t4+2),.float (fl m) u2] (2*2^24-M-m)] 31 (dA 0x4183186086) [] (cB "float.__truediv__" [.float (fl D) (t2+3),.float (fl (2*2^24-M-m)) (t4+3)]) [] [] 0 4 ?_ (aC (fun _ _ _ _ _ _ _ K=>f_le_ff (B:=x.B) (r:=false) (a:=(L)) (b:=(8388608)) rfl (by exact zqbL hM hD hD0 hL o) (by decide+kernel) (by unfold Fits;decide) (decide_eq_false (by exact zqbM o)) K) (aC (fun _ _ _ _ _ _ _ K=>f_sub_ff (B:=x.B) (a:=(33554432)) (b:=(M)) (c:=(2*2^24-M)) (by decide+kernel) rfl (by unfold Fits;decide) (by exact zqab hY0 hM hb2) (by exact zqbt hY0 hM hb2) (by exact zqbN) K) (aC (fun _ _ _ _ _ _ _ K=>f_sub_ff (B:=x.B) (a:=(2*2^24-M)) (b:=(m)) (c:=(2*2^24-M-m)) rfl rfl (by exact zqbt hY0 hM hb2) (by exact zqap hM hm0 hD hD0) (by exact zqaP hM hD hD0 hL o) (by exact zqbO) K) aN)))
   intro Tb5 h5 N5 t5 Rp kk5
   refine f_div_any rfl rfl (by exact zqaP hM hD hD0 hL o) (by exact zqbP hM hD hD0) ?_
   with_reducible refine seg_valD (by with_unfolding_all exact hh) Rp [] 18 (dA 0x86) [] Flow.next [] [.u (dU [] [En x.B n_s (t5+1+0) (.float (Float64.div (fl D) (fl (2*2^24-M-m))) t5)] 9)] 0 1 ?_
   intro Tb6 h6 N6 t6 Rp
   exact⟨_,_,_,_,_,_,_,_,_,_,_,_,Rp,rfl⟩
  ·refine seg_callD hh Rp [aB "float.__le__" [.float (fl L) (t2+6),.float 4602678819172646912 (t4+0)] true] 24 (dA 0x186086) [] (cB "float.__truediv__" [.float (fl D) (t2+3),.float (fl (M+m)) (t2+1)]) [] [] 0 1 ?_ (aC (fun _ _ _ _ _ _ _ K=>f_le_ff (B:=x.B) (r:=true) (a:=(L)) (b:=(8388608)) rfl (by exact zqbQ hm0 hD hD0 hL o) (by decide+kernel) (by unfold Fits;decide) (decide_eq_true (by exact zqbR o)) K) aN)
   intro Tb5 h5 N5 t5 Rp kk5
   refine f_div_any rfl rfl (by exact zqeM hY0 hm0 hb2 hL o) (by exact zqdj hX0 hm0 hb) ?_
   with_reducible refine seg_valD (by with_unfolding_all exact hh) Rp [] 18 (dA 0x86) [] Flow.next [] [.u (dU [] [En x.B n_s (t5+1+0) (.float (Float64.div (fl D) (fl (M+m))) t5)] 9)] 0 1 ?_
   intro Tb6 h6 N6 t6 Rp
   exact⟨_,_,_,_,_,_,_,_,_,_,_,_,Rp,rfl⟩
 rintro s ⟨N0,t0,u0,v0,c0,h0,e1,e2,e3,e4,e5,e6,Rp,rfl⟩
 refine seg_valD hh Rp [aF "float.__sub__" [.float (fl M) u1,.float (fl X) ta] (M-X),aF "float.__truediv__" [.float (fl (M-X)) (t0+0),.float (fl D) e4] (rc),aF "float.__sub__" [.float (fl M) u1,.float (fl Y) tb] (M-Y),aF "float.__truediv__" [.float (fl (M-Y)) (t0+3),.float (fl D) e4] (gc),aF "float.__sub__" [.float (fl M) u1,.float (fl Z) tc] (M-Z),aF "float.__truediv__" [.float (fl (M-Z)) (t0+6),.float (fl D) e4] (bc),aB "float.__eq__" [.float (fl X) ta,.float (fl M) u1] false,aB "float.__eq__" [.float (fl Y) tb,.float (fl M) u1] true,aF "float.__add__" [.float 4611686018427387904 (t0+9),.float (fl rc) (t0+1)] ((33554432)+(rc)),aF "float.__sub__" [.float (fl (33554432+rc)) (t0+10),.float (fl bc) (t0+7)] ((33554432+rc)- (bc)),aF "float.__truediv__" [.float (fl (33554432+rc-bc)) (t0+11),.float 4618441417868443648 (t0+13)] (W),aF "float.__mod__" [.float (fl W) (t0+14),.float 4607182418800017408 (t0+15)] (H)] 123 (dA 0x618608634c18218b18a189186206182187186186086146106182183182186) (dM 3) (Flow.ret (.ref (N0+0))) [(N0+0,oT #[.float (fl H) (t0+16),.float (fl L) e6,.float (c0) u0])] [.d] 1 18 ?_ (aC (fun _ _ _ _ _ _ _ K=>f_sub_ff (B:=x.B) (a:=(M)) (b:=(X)) (c:=(M-X)) rfl rfl (by exact zqab hY0 hM hb2) (by exact zqaj hX0 hM hb) (by exact zqao hX0 hM hb) (by exact zqag) K) (aC (fun _ _ _ _ _ _ _ K=>f_div_ff (B:=x.B) (a:=(M-X)) (b:=(D)) (c:=rc) rfl rfl (by exact zqao hX0 hM hb) (by exact zqad hM hm0 hD hD0) (by exact zqaa hrc0 hrc1) (by exact zqah hD0) (by exact zqai hrc) K) (aC (fun _ _ _ _ _ _ _ K=>f_sub_ff (B:=x.B) (a:=(M)) (b:=(Y)) (c:=(M-Y)) rfl rfl (by exact zqab hY0 hM hb2) (by exact zqaz hY0 hM hb2) (by exact zqaA hb2) (by exact zqag) K) (aC (fun _ _ _ _ _ _ _ K=>f_div_ff (B:=x.B) (a:=(M-Y)) (b:=(D)) (c:=gc) rfl rfl (by exact zqaA hb2) (by exact zqad hM hm0 hD hD0) (by exact zqaa hgc0 hgc1) (by exact zqah hD0) (by exact zqai hgc) K) (aC (fun _ _ _ _ _ _ _ K=>f_sub_ff (B:=x.B) (a:=(M)) (b:=(Z)) (c:=(M-Z)) rfl rfl (by exact zqab hY0 hM hb2) (by exact zqat hZ0 hM m3) (by exact zqal hZ0 hM m3) (by exact zqag) K) (aC (fun _ _ _ _ _ _ _ K=>f_div_ff (B:=x.B) (a:=(M-Z)) (b:=(D)) (c:=bc) rfl rfl (by exact zqal hZ0 hM m3) (by exact zqad hM hm0 hD hD0) (by exact zqaa hbc0 hbc1) (by exact zqah hD0) (by exact zqai hbc) K) (aC (fun _ _ _ _ _ _ _ K=>f_eq_ff (B:=x.B) (r:=false) (a:=(X)) (b:=(M)) rfl (by exact zqaj hX0 hM hb) rfl (by exact zqab hY0 hM hb2) (decide_eq_false (by exact zqaC hb)) K) (aC (fun _ _ _ _ _ _ _ K=>f_eq_ff (B:=x.B) (r:=true) (a:=(Y)) (b:=(M)) rfl (by exact zqaz hY0 hM hb2) rfl (by exact zqab hY0 hM hb2) (decide_eq_true (by exact zqbm hb2)) K) (aC (fun _ _ _ _ _ _ _ K=>f_add_ff (B:=x.B) (a:=(33554432)) (b:=(rc)) (c:=((33554432)+(rc))) (by decide+kernel) rfl (by unfold Fits;decide) (by exact zqaa hrc0 hrc1) (by exact zqbp hrc0 hrc1) (by exact zqcX) K) (aC (fun _ _ _ _ _ _ _ K=>f_sub_ff (B:=x.B) (a:=(33554432+rc)) (b:=(bc)) (c:=((33554432+rc)- (bc))) rfl rfl (by exact zqbp hrc0 hrc1) (by exact zqaa hbc0 hbc1) (by exact zqbq hrc0 hrc1 hbc0 hbc1) (by exact zqcY) K) (aC (fun _ _ _ _ _ _ _ K=>f_div_ff (B:=x.B) (a:=(33554432+rc-bc)) (b:=(100663296)) (c:=W) rfl (by decide+kernel) (by exact zqbq hrc0 hrc1 hbc0 hbc1) (by unfold Fits;decide) (by exact zqcZ hrc0 hrc1 hbc0 hbc1 hW) (by decide) (by exact zqda hW) K) (aC (fun _ _ _ _ _ _ _ K=>f_mod_1 (B:=x.B) (a:=(W)) (c:=H) rfl (by decide+kernel) (by exact zqdb hrc0 hbc1 hW) (by exact zqdc hrc1 hbc0 hW) (by first|assumption|(rw[if_pos (by omega)];first|done|omega)|(rw[if_neg (by omega)];first|done|omega)) K) aN))))))))))))
 intro Tb5 h5 N5 t5 Rp
 exact K _ _ _ _ _ _ _ Rp
theorem to_hls_b(x:W2)(A:Around)(hh:A.handled=none)(hA:A.depth<900)(R:Result→Shared→Prop)(X Y Z M m D s rc gc bc W H L:Int)
 (hX0:0≤X) (hY0:0≤Y) (hZ0:0≤Z) (hM:M≤2^24) (m1:X≤M) (m2:Y≤M) (m3:Z≤M) (m4:M=X∨M=Y∨M=Z) (n1:m≤X) (n2:m≤Y) (n3:m≤Z) (n4:m=X∨m=Y∨m=Z) (hm0:0≤m) (hD:M-m=D) (hD0:0<D) (hb:X<M) (hb2:Y<M)
 (hrc:(M-X)*2^24=rc*D) (hrc0:0≤rc) (hrc1:rc≤2^24) (hgc:(M-Y)*2^24=gc*D) (hgc0:0≤gc) (hgc1:gc≤2^24) (hbc:(M-Z)*2^24=bc*D) (hbc0:0≤bc) (hbc1:bc≤2^24) (hW:4*2^24+gc-rc=W*6) (hH:(if W<0 then W+2^24 else W)=H) (hL:M+m=2*L)
 (ta tb tc:Nat) (N t:Nat) (h:Heap) (gl d os) (rest:Cells) (Rp:Rep x.B N h rest 0)
 (K:∀h' N' t' a u v w,Rep x.B N' h' ((a,⟨.type "tuple",none,.seq #[.float (fl H) u,v,w] 0,#[]⟩)::rest) 0→R (.ok (.ret (.ref a))) ⟨h',gl,d,t',os⟩):
 codeAny (MB x.B) A (.call (.ref 108) ⟨[.float (fl X) ta,.float (fl Y) tb,.float (fl Z) tc],[]⟩) R ⟨h,gl,d,t,os⟩:=by
 refine enterD hh Rp (by exact zqaD hA) 26 (dA 0x86086086041) (bodyOf (fdOf x.B 108)) (envOf (fdOf x.B 108) 108 (N+0)) [(N+0,oF #[En x.B n_r (t+0) (.float (fl X) ta),En x.B n_g (t+1) (.float (fl Y) tb),En x.B n_b (t+2) (.float (fl Z) tc)] 3)] 1 3 (by rfl') ?_
 intro Tb1 h1 N1 t1 Rp
 refine cut 6 ?_
 with_reducible refine seg_callD (by with_unfolding_all exact hh) Rp [] 22 (dA 0x6186041) [] (cB "max" [.float (fl X) ta,.float (fl Y) tb,.float (fl Z) tc]) [] [] 0 0 ?_
 intro Tb2 h2 N2 t2 Rp kk2
 refine max_fff (M:=M) hh Rp (by exact zqac hX0) (by exact zqac hY0) (by exact zqac hZ0) (by exact zqaJ hM) (by exact zqaM hb) (by exact zqaM hb2) (by exact zqaf m3) (by omega) fun h1 N1 t1 u1 Rp=>?_
 with_reducible refine seg_callD (by with_unfolding_all exact hh) Rp [] 30 (dA 0x6186041086) [] (cB "min" [.float (fl X) ta,.float (fl Y) tb,.float (fl Z) tc]) [] [.u (dU [] [En x.B n_maxc (t1+0) (.float (fl M) u1)] 4)] 0 1 ?_
 intro Tb3 h3 N3 t3 Rp kk3
 refine min_fff (M:=m) hh Rp (by exact zqaN hM hb) (by exact zqaN hM hb2) (by exact zqay hM m3) (by exact zqac hm0) (by exact zqaf n1) (by exact zqaf n2) (by exact zqaf n3) (by omega) fun h2 N2 t2 u2 Rp=>?_
 refine seg_valD hh Rp [aF "float.__add__" [.float (fl M) u1,.float (fl m) u2] (M+m),aF "float.__sub__" [.float (fl M) u1,.float (fl m) u2] (D),aF "float.__truediv__" [.float (fl (M+m)) (t2+1),.float 4611686018427387904 (t2+5)] (L),aB "float.__eq__" [.float (fl m) u2,.float (fl M) u1] false] 68 (dA 0x51860861060860c6182182186086) [] Flow.next [] [.u (dU [] [En x.B n_minc (t2+0) (.float (fl m) u2),En x.B n_sumc (t2+2) (.float (fl (M+m)) (t2+1)),En x.B n_rangec (t2+4) (.float (fl D) (t2+3)),En x.B n_l (t2+7) (.float (fl L) (t2+6))] 8)] 0 8 ?_ (aC (fun _ _ _ _ _ _ _ K=>f_add_ff (B:=x.B) (a:=(M)) (b:=(m)) (c:=(M+m)) rfl rfl (by exact zqak hX0 hM hb) (by exact zqap hM hm0 hD hD0) (by exact zqaO hM hm0 hD hD0) (by exact zqbI) K) (aC (fun _ _ _ _ _ _ _ K=>f_sub_ff (B:=x.B) (a:=(M)) (b:=(m)) (c:=D) rfl rfl (by exact zqak hX0 hM hb) (by exact zqap hM hm0 hD hD0) (by exact zqad hM hm0 hD hD0) (by exact zqaK hD) K) (aC (fun _ _ _ _ _ _ _ K=>f_div_ff (B:=x.B) (a:=(M+m)) (b:=(33554432)) (c:=L) rfl (by decide+kernel) (by exact zqaO hM hm0 hD hD0) (by unfold Fits;decide) (by exact zqbJ hM hm0 hD hD0 hL) (by decide) (by exact zqbK hL) K) (aC (fun _ _ _ _ _ _ _ K=>f_eq_ff (B:=x.B) (r:=false) (a:=(m)) (b:=(M)) rfl (by exact zqap hM hm0 hD hD0) rfl (by exact zqak hX0 hM hb) (decide_eq_false (by exact zqaL hD hD0)) K) aN))))
 intro Tb4 h4 N4 t4 Rp
 refine cutTo 1 (fun s=>∃Nx tx u v c hp e1 e2 e3 e4 e5 e6,Rep x.B Nx hp ((N+0,⟨.type "frame",none,.dict #[En x.B n_r (t+0) (.float (fl X) ta),En x.B n_g (t+1) (.float (fl Y) tb),En x.B n_b (t+2) (.float (fl Z) tc),En x.B n_maxc (t1+0) (.float (fl M) u1),En x.B n_minc (t2+0) (.float (fl m) u2),En x.B n_sumc e1 (.float (fl (M+m)) e2),En x.B n_rangec e3 (.float (fl D) e4),En x.B n_l e5 (.float (fl L) e6),En x.B n_s v (.float c u)] 9,#[]⟩)::rest) 0∧s=⟨hp,gl,d,tx,os⟩) ?_ ?_
 ·rcases Int.lt_or_le (2^23) L with o|o
  ·refine seg_callD hh Rp [aB "float.__le__" [.float (fl L) (t2+6),.float 4602678819172646912 (t4+0)] false,aF "float.__sub__" [.float 4611686018427387904 (t4+1),.float (fl M) u1] (2*2^24-M),aF "float.__sub__" [.float (fl (2*2^24-M)) (t4+2),.float (fl m) u2] (2*2^24-M-m)] 31 (dA 0x4183186086) [] (cB "float.__truediv__" [.float (fl D) (t2+3),.float (fl (2*2^24-M-m)) (t4+3)]) [] [] 0 4 ?_ (aC (fun _ _ _ _ _ _ _ K=>f_le_ff (B:=x.B) (r:=false) (a:=(L)) (b:=(8388608)) rfl (by exact zqbL hM hD hD0 hL o) (by decide+kernel) (by unfold Fits;decide) (decide_eq_false (by exact zqbM o)) K) (aC (fun _ _ _ _ _ _ _ K=>f_sub_ff (B:=x.B) (a:=(33554432)) (b:=(M)) (c:=(2*2^24-M)) (by decide+kernel) rfl (by unfold Fits;decide) (by exact zqak hX0 hM hb) (by exact zqdk hX0 hM hb) (by exact zqbN) K) (aC (fun _ _ _ _ _ _ _ K=>f_sub_ff (B:=x.B) (a:=(2*2^24-M)) (b:=(m)) (c:=(2*2^24-M-m)) rfl rfl (by exact zqdk hX0 hM hb) (by exact zqap hM hm0 hD hD0) (by exact zqaP hM hD hD0 hL o) (by exact zqbO) K) aN)))
   intro Tb5 h5 N5 t5 Rp kk5
   refine f_div_any rfl rfl (by exact zqaP hM hD hD0 hL o) (by exact zqbP hM hD hD0) ?_
   with_reducible refine seg_valD (by with_unfolding_all exact hh) Rp [] 18 (dA 0x86) [] Flow.next [] [.u (dU [] [En x.B n_s (t5+1+0) (.float (Float64.div (fl D) (fl (2*2^24-M-m))) t5)] 9)] 0 1 ?_
   intro Tb6 h6 N6 t6 Rp
   exact⟨_,_,_,_,_,_,_,_,_,_,_,_,Rp,rfl⟩
  ·refine seg_callD hh Rp [aB "float.__le__" [.float (fl L) (t2+6),.float 4602678819172646912 (t4+0)] true] 24 (dA 0x186086) [] (cB "float.__truediv__" [.float (fl D) (t2+3),.float (fl (M+m)) (t2+1)]) [] [] 0 1 ?_ (aC (fun _ _ _ _ _ _ _ K=>f_le_ff (B:=x.B) (r:=true) (a:=(L)) (b:=(8388608)) rfl (by exact zqbQ hm0 hD hD0 hL o) (by decide+kernel) (by unfold Fits;decide) (decide_eq_true (by exact zqbR o)) K) aN)
   intro Tb5 h5 N5 t5 Rp kk5
   refine f_div_any rfl rfl (by exact zqeN hX0 hm0 hb hL o) (by exact zqdj hX0 hm0 hb) ?_
   with_reducible refine seg_valD (by with_unfolding_all exact hh) Rp [] 18 (dA 0x86) [] Flow.next [] [.u (dU [] [En x.B n_s (t5+1+0) (.float (Float64.div (fl D) (fl (M+m))) t5)] 9)] 0 1 ?_
   intro Tb6 h6 N6 t6 Rp
   exact⟨_,_,_,_,_,_,_,_,_,_,_,_,Rp,rfl⟩
 rintro s ⟨N0,t0,u0,v0,c0,h0,e1,e2,e3,e4,e5,e6,Rp,rfl⟩
 refine seg_valD hh Rp [aF "float.__sub__" [.float (fl M) u1,.float (fl X) ta] (M-X),aF "float.__truediv__" [.float (fl (M-X)) (t0+0),.float (fl D) e4] (rc),aF "float.__sub__" [.float (fl M) u1,.float (fl Y) tb] (M-Y),aF "float.__truediv__" [.float (fl (M-Y)) (t0+3),.float (fl D) e4] (gc),aF "float.__sub__" [.float (fl M) u1,.float (fl Z) tc] (M-Z),aF "float.__truediv__" [.float (fl (M-Z)) (t0+6),.float (fl D) e4] (bc),aB "float.__eq__" [.float (fl X) ta,.float (fl M) u1] false,aB "float.__eq__" [.float (fl Y) tb,.float (fl M) u1] false,aF "float.__add__" [.float 4616189618054758400 (t0+9),.float (fl gc) (t0+4)] ((67108864)+(gc)),aF "float.__sub__" [.float (fl (67108864+gc)) (t0+10),.float (fl rc) (t0+1)] ((67108864+gc)- (rc)),aF "float.__truediv__" [.float (fl (67108864+gc-rc)) (t0+11),.float 4618441417868443648 (t0+13)] (W),aF "float.__mod__" [.float (fl W) (t0+14),.float 4607182418800017408 (t0+15)] (H)] 123 (dA 0x618608634c18218b18a189186206182187186186086146106182183182186) (dM 3) (Flow.ret (.ref (N0+0))) [(N0+0,oT #[.float (fl H) (t0+16),.float (fl L) e6,.float (c0) u0])] [.d] 1 18 ?_ (aC (fun _ _ _ _ _ _ _ K=>f_sub_ff (B:=x.B) (a:=(M)) (b:=(X)) (c:=(M-X)) rfl rfl (by exact zqak hX0 hM hb) (by exact zqaj hX0 hM hb) (by exact zqao hX0 hM hb) (by exact zqag) K) (aC (fun _ _ _ _ _ _ _ K=>f_div_ff (B:=x.B) (a:=(M-X)) (b:=(D)) (c:=rc) rfl rfl (by exact zqao hX0 hM hb) (by exact zqad hM hm0 hD hD0) (by exact zqaa hrc0 hrc1) (by exact zqah hD0) (by exact zqai hrc) K) (aC (fun _ _ _ _ _ _ _ K=>f_sub_ff (B:=x.B) (a:=(M)) (b:=(Y)) (c:=(M-Y)) rfl rfl (by exact zqak hX0 hM hb) (by exact zqaj hY0 hM hb2) (by exact zqao hY0 hM hb2) (by exact zqag) K) (aC (fun _ _ _ _ _ _ _ K=>f_div_ff (B:=x.B) (a:=(M-Y)) (b:=(D)) (c:=gc) rfl rfl (by exact zqao hY0 hM hb2) (by exact zqad hM hm0 hD hD0) (by exact zqaa hgc0 hgc1) (by exact zqah hD0) (by exact zqai hgc) K) (aC (fun _ _ _ _ _ _ _ K=>f_sub_ff (B:=x.B) (a:=(M)) (b:=(Z)) (c:=(M-Z)) rfl rfl (by exact zqak hX0 hM hb) (by exact zqat hZ0 hM m3) (by exact zqal hZ0 hM m3) (by exact zqag) K) (aC (fun _ _ _ _ _ _ _ K=>f_div_ff (B:=x.B) (a:=(M-Z)) (b:=(D)) (c:=bc) rfl rfl (by exact zqal hZ0 hM m3) (by exact zqad hM hm0 hD hD0) (by exact zqaa hbc0 hbc1) (by exact zqah hD0) (by exact zqai hbc) K) (aC (fun _ _ _ _ _ _ _ K=>f_eq_ff (B:=x.B) (r:=false) (a:=(X)) (b:=(M)) rfl (by exact zqaj hX0 hM hb) rfl (by exact zqak hX0 hM hb) (decide_eq_false (by exact zqaC hb)) K) (aC (fun _ _ _ _ _ _ _ K=>f_eq_ff (B:=x.B) (r:=false) (a:=(Y)) (b:=(M)) rfl (by exact zqaj hY0 hM hb2) rfl (by exact zqak hX0 hM hb) (decide_eq_false (by exact zqaC hb2)) K) (aC (fun _ _ _ _ _ _ _ K=>f_add_ff (B:=x.B) (a:=(67108864)) (b:=(gc)) (c:=((67108864)+(gc))) (by decide+kernel) rfl (by unfold Fits;decide) (by exact zqaa hgc0 hgc1) (by exact zqbr hgc0 hgc1) (by exact zqdd) K) (aC (fun _ _ _ _ _ _ _ K=>f_sub_ff (B:=x.B) (a:=(67108864+gc)) (b:=(rc)) (c:=((67108864+gc)- (rc))) rfl rfl (by exact zqbr hgc0 hgc1) (by exact zqaa hrc0 hrc1) (by exact zqbs hrc0 hrc1 hgc0 hgc1) (by exact zqde) K) (aC (fun _ _ _ _ _ _ _ K=>f_div_ff (B:=x.B) (a:=(67108864+gc-rc)) (b:=(100663296)) (c:=W) rfl (by decide+kernel) (by exact zqbs hrc0 hrc1 hgc0 hgc1) (by unfold Fits;decide) (by exact zqdf hrc0 hrc1 hgc0 hgc1 hW) (by decide) (by exact zqdg hW) K) (aC (fun _ _ _ _ _ _ _ K=>f_mod_1 (B:=x.B) (a:=(W)) (c:=H) rfl (by decide+kernel) (by exact zqdh hrc1 hgc0 hW) (by exact zqdi hrc0 hgc1 hW) (by first|assumption|(rw[if_pos (by omega)];first|done|omega)|(rw[if_neg (by omega)];first|done|omega)) K) aN))))))))))))
 intro Tb5 h5 N5 t5 Rp
 exact K _ _ _ _ _ _ _ Rp
theorem ce1{c f g:Int}(h:g=c*f):(c*2^20-g)*2^24=(2^24-16*f)*(c*2^20):=by subst h;grind
theorem ce2{c f g:Int}(h:g=c*f):g*2^24=16*f*(c*2^20):=by subst h;grind
theorem ce3{c:Int}:(c*2^20)*2^24=2^24*(c*2^20):=by grind
noncomputable def IsCol(K a b:Int)(r g bl:Value):Prop:=∃(j f:Int) (u v w:Nat),6*K=j*2^20+f∧0≤f∧f<2^20∧0≤j∧j≤5∧#[r,g,bl]=rgbOf j u v w (b*2^22) (b*(4-a)*2^20) (b*2^22-a*b*f) (b*(4-a)*2^20+a*b*f)
noncomputable abbrev Tup3(r g b:Value):Obj:=⟨.type "tuple",none,.seq #[r,g,b] 0,#[]⟩
noncomputable def Quart(a:Int):Prop:=a=1∨a=2∨a=3∨a=4
theorem arr3{r g b r' g' b':Value}(e:#[r,g,b]= #[r',g',b']):r=r'∧g=g'∧b=b':=by
 injection e with e;injection e with e1 e;injection e with e2 e;injection e with e3 e
 exact⟨e1,e2,e3⟩
theorem rgbOf_3(j:Int)(u v w:Nat)(V P Q T:Int):∃r g b,rgbOf j u v w V P Q T= #[r,g,b]:=by
 unfold rgbOf
 repeat' split
 all_goals exact⟨_,_,_,rfl⟩
theorem quart_f{a b f:Int}(ha:Quart a)(hb:Quart b)(f0:0≤f)(f1:f<2^20):0≤a*b*f∧a*b*f≤b*(a*2^20)∧(0<f→0<a*b*f)∧a*b*f<a*b*2^20:=by
 rcases ha with rfl|rfl|rfl|rfl<;>rcases hb with rfl|rfl|rfl|rfl<;>refine⟨?_,?_,?_,?_⟩<;>omega
theorem hsvC(x:W2)(A:Around)(hh:A.handled=none)(hA:A.depth<900)(R:Result→Shared→Prop)(k k' a b:Int)(hk0:0≤k)(hk:k<2^21)(hk':k%2^20=k')(ha:Quart a)(hb:Quart b)
 (ta tb tc:Nat) (N t:Nat) (h:Heap) (gl d os) (rest:Cells) (Rp:Rep x.B N h rest 0)
 (K:∀h' N' t' p r g bl,IsCol k' a b r g bl→Rep x.B N' h' ((p,Tup3 r g bl)::rest) 0→R (.ok (.ret (.ref p))) ⟨h',gl,d,t',os⟩):
 codeAny (MB x.B) A (.call (.ref 122) ⟨[.float (fl (16*k)) ta,.float (fl (a*2^22)) tb,.float (fl (b*2^22)) tc],[]⟩) R ⟨h,gl,d,t,os⟩:=by
 obtain⟨q,hq⟩:∃q,6*k/2^20=q:=⟨_,rfl⟩
 obtain⟨f,hf⟩:∃f,6*k%2^20=f:=⟨_,rfl⟩
 have f0:0≤f:=by exact zqeO hf
 have f1:f<2^20:=by exact zqeP hf
 have z:=quart_f ha hb f0 f1
 refine hsv1 x A hh hA R (16*k) (a*2^22) (b*2^22) q (16*f) (4*a*f) (q%6) (b*(4-a)*2^20) (b*2^22-a*b*f) (b*(4-a)*2^20+a*b*f)
  (by exact zqaF hk0) (by exact zqeQ hk) (by exact zqeR hq hf) (by exact zqaF f0) (by exact zqeS f1) rfl ?_ ?_ ?_ ?_ ?_ ?_ ?_ ?_ ?_ ?_ ?_ ?_ ?_ ?_ ?_ ?_ ?_ ta tb tc N t h gl d os rest Rp fun h' N' t' p u v Rp=>?_
 all_goals try (rcases ha with rfl|rfl|rfl|rfl<;>first|omega|(rcases hb with rfl|rfl|rfl|rfl<;>omega))
 obtain⟨r,g,bl,e⟩:=rgbOf_3 (q%6) u v tc (b*2^22) (b*(4-a)*2^20) (b*2^22-a*b*f) (b*(4-a)*2^20+a*b*f)
 rw[e] at Rp
 exact K _ _ _ _ r g bl ⟨q%6,f,u,v,tc,by omega,f0,f1,by omega,by omega,e.symm⟩ Rp
noncomputable def Ways(X Y Z M m D rc gc bc W H:Int):Prop:=
 (0≤X∧0≤Y∧0≤Z∧M≤2^24∧X≤M∧Y≤M∧Z≤M∧(M=X∨M=Y∨M=Z))∧(m≤X∧m≤Y∧m≤Z∧(m=X∨m=Y∨m=Z)∧0≤m∧M-m=D∧0<D)∧
 ((M-X)*2^24=rc*D∧0≤rc∧rc≤2^24)∧((M-Y)*2^24=gc*D∧0≤gc∧gc≤2^24)∧((M-Z)*2^24=bc*D∧0≤bc∧bc≤2^24)∧
 ((X=M∧bc-gc=W*6)∨(X<M∧Y=M∧2*2^24+rc-bc=W*6)∨(X<M∧Y<M∧4*2^24+gc-rc=W*6))∧(if W<0 then W+2^24 else W)=H
theorem ways{K M c f g j:Int}{u v w:Nat}(k0:0≤K)(k1:K<2^20)(hk:6*K=j*2^20+f)(f0:0≤f)(f1:f<2^20)(j0:0≤j)(j5:j≤5)(hg:g=c*f)(c0:0<c)(cM:c*2^20≤M)(hM:M≤2^24)
 (g0:0≤g) (g1:g<c*2^20) (g2:0<f→0<g):∃X Y Z rc gc bc W,∃u1 u2 u3:Nat,rgbOf j u v w M (M-c*2^20) (M-g) (M-c*2^20+g)= #[.float (fl X) u1,.float (fl Y) u2,.float (fl Z) u3]∧Ways X Y Z M (M-c*2^20) (c*2^20) rc gc bc W (16*K):=by
 have e1:=ce1 hg
 have e2:=ce2 hg
 have e3:=ce3 (c:=c)
 have e0:(0:Int)*2^24=0*(c*2^20):=by simp
 have t1:M- (M-c*2^20+g)=c*2^20-g:=by omega
 have t2:M- (M-g)=g:=by omega
 have t3:M- (M-c*2^20)=c*2^20:=by omega
 have t4:M-M=0:=by omega
 rcases(by omega:j=0∨j=1∨j=2∨j=3∨j=4∨j=5) with z|z|z|z|z|z<;>subst z
 ·refine⟨M,M-c*2^20+g,M-c*2^20,0,2^24-16*f,2^24,16*K,_,_,_,rfl,⟨by exact zqaQ c0 cM,by exact zqbS cM g0,by exact zqaq cM,hM,by exact zqaR,by exact zqbT g1,by exact zqar c0,by exact zqeT⟩,⟨by exact zqar c0,by exact zqbU g0,by exact zqaS,by omega,by exact zqaq cM,t3,by exact zqaT c0⟩,⟨by rw[t4];exact e0,by decide,by decide⟩,⟨by rw[t1];exact e1,by exact zqbV f1,by exact zqbW f0⟩,⟨by rw[t3];exact e3,by decide,by decide⟩,.inl ⟨rfl,by omega⟩,by omega⟩
 ·refine⟨M-g,M,M-c*2^20,16*f,0,2^24,16*K,_,_,_,rfl,⟨by exact zqbX cM g1,by exact zqaQ c0 cM,by exact zqaq cM,hM,by exact zqbY g0,by exact zqaR,by exact zqar c0,by exact zqeU⟩,⟨by exact zqbZ g1,by exact zqar c0,by exact zqaS,by omega,by exact zqaq cM,t3,by exact zqaT c0⟩,⟨by rw[t2];exact e2,by exact zqaF f0,by exact zqca f1⟩,⟨by rw[t4];exact e0,by decide,by decide⟩,⟨by rw[t3];exact e3,by decide,by decide⟩,.inr (.inl ⟨by exact zqeV f0 g2 hk,rfl,by omega⟩),by omega⟩
 ·refine⟨M-c*2^20,M,M-c*2^20+g,2^24,0,2^24-16*f,16*K,_,_,_,rfl,⟨by exact zqaq cM,by exact zqaQ c0 cM,by exact zqbS cM g0,hM,by exact zqar c0,by exact zqaR,by exact zqbT g1,by exact zqeW⟩,⟨by exact zqaS,by exact zqar c0,by exact zqbU g0,by exact zqeX,by exact zqaq cM,t3,by exact zqaT c0⟩,⟨by rw[t3];exact e3,by decide,by decide⟩,⟨by rw[t4];exact e0,by decide,by decide⟩,⟨by rw[t1];exact e1,by exact zqbV f1,by exact zqbW f0⟩,.inr (.inl ⟨by exact zqbu c0,rfl,by omega⟩),by omega⟩
 ·refine⟨M-c*2^20,M-g,M,2^24,16*f,0,16*K,_,_,_,rfl,⟨by exact zqaq cM,by exact zqbX cM g1,by exact zqaQ c0 cM,hM,by exact zqar c0,by exact zqbY g0,by exact zqaR,by omega⟩,⟨by exact zqaS,by exact zqbZ g1,by exact zqar c0,by exact zqeY,by exact zqaq cM,t3,by exact zqaT c0⟩,⟨by rw[t3];exact e3,by decide,by decide⟩,⟨by rw[t2];exact e2,by exact zqaF f0,by exact zqca f1⟩,⟨by rw[t4];exact e0,by decide,by decide⟩,.inr ?_,by omega⟩
  rcases(by exact zqeZ f0:f=0∨0<f) with z|z
  ·exact .inl ⟨by exact zqbu c0,by rw[hg,z];simp,by omega⟩
  ·exact .inr ⟨by exact zqbu c0,by have:=g2 z;exact zqfa this,by omega⟩
 ·refine⟨M-c*2^20+g,M-c*2^20,M,2^24-16*f,2^24,0,16*K,_,_,_,rfl,⟨by exact zqbS cM g0,by exact zqaq cM,by exact zqaQ c0 cM,hM,by exact zqbT g1,by exact zqar c0,by exact zqaR,by omega⟩,⟨by exact zqbU g0,by exact zqaS,by exact zqar c0,by exact zqfb,by exact zqaq cM,t3,by exact zqaT c0⟩,⟨by rw[t1];exact e1,by exact zqbV f1,by exact zqbW f0⟩,⟨by rw[t3];exact e3,by decide,by decide⟩,⟨by rw[t4];exact e0,by decide,by decide⟩,.inr (.inr ⟨by exact zqfc g1,by exact zqbu c0,by omega⟩),by omega⟩
 ·refine⟨M,M-c*2^20,M-g,0,2^24,16*f,16*(K-2^20),_,_,_,rfl,⟨by exact zqaQ c0 cM,by exact zqaq cM,by exact zqbX cM g1,hM,by exact zqaR,by exact zqar c0,by exact zqbY g0,by exact zqfd⟩,⟨by exact zqar c0,by exact zqaS,by exact zqbZ g1,by exact zqfe,by exact zqaq cM,t3,by exact zqaT c0⟩,⟨by rw[t4];exact e0,by decide,by decide⟩,⟨by rw[t3];exact e3,by decide,by decide⟩,⟨by rw[t2];exact e2,by exact zqaF f0,by exact zqca f1⟩,.inl ⟨rfl,by omega⟩,by omega⟩
theorem col_ways{K a b:Int}{r g bl:Value}(ha:Quart a)(hb:Quart b)(k0:0≤K)(k1:K<2^20)(hc:IsCol K a b r g bl):∃X Y Z M m D rc gc bc W s L,∃u1 u2 u3:Nat,r=.float (fl X) u1∧g=.float (fl Y) u2∧bl=.float (fl Z) u3∧
 Ways X Y Z M m D rc gc bc W (16*K)∧M+m=2*L∧D*2^24=s*M∧0≤s∧s≤2^24:=by
 obtain⟨j,f,u,v,w,hk,f0,f1,j0,j5,e⟩:=hc
 have z:=quart_f ha hb f0 f1
 have hP:b*(4-a)*2^20=b*2^22-a*b*2^20:=by grind
 have hab:0<a*b∧a*b*2^20≤b*2^22∧b*2^22≤2^24∧0≤a∧a≤4:=by
  rcases ha with rfl|rfl|rfl|rfl<;>rcases hb with rfl|rfl|rfl|rfl<;>decide
 obtain⟨X,Y,Z,rc,gc,bc,W,u1,u2,u3,q,ww⟩:=ways (u:=u) (v:=v) (w:=w) k0 k1 hk f0 f1 j0 j5 rfl hab.1 hab.2.1 hab.2.2.1 z.1 z.2.2.2 z.2.2.1
 rw[hP,q] at e
 obtain⟨rfl,rfl,rfl⟩:=arr3 e
 exact⟨X,Y,Z,_,_,_,rc,gc,bc,W,a*2^22,b*2^22-a*b*2^19,u1,u2,u3,rfl,rfl,rfl,ww,by omega,by grind,by omega,by omega⟩
theorem to_hsvC(x:W2)(A:Around)(hh:A.handled=none)(hA:A.depth<900)(R:Result→Shared→Prop)(k a b:Int)(hk0:0≤k)(hk:k<2^20)(ha:Quart a)(hb:Quart b)(r g bl:Value)(hc:IsCol k a b r g bl)
 (N t:Nat) (h:Heap) (gl d os) (rest:Cells) (Rp:Rep x.B N h rest 0)
 (K:∀h' N' t' p u v w,Rep x.B N' h' ((p,Tup3 (.float (fl (16*k)) u) v w)::rest) 0→R (.ok (.ret (.ref p))) ⟨h',gl,d,t',os⟩):
 codeAny (MB x.B) A (.call (.ref 115) ⟨[r,g,bl],[]⟩) R ⟨h,gl,d,t,os⟩:=by
 obtain⟨X,Y,Z,M,m,D,rc,gc,bc,W,s,L,u1,u2,u3,rfl,rfl,rfl,⟨⟨a1,a2,a3,a4,a5,a6,a7,a8⟩,⟨b1,b2,b3,b4,b5,b6,b7⟩,⟨c1,c2,c3⟩,⟨d1,d2,d3⟩,⟨e1,e2,e3⟩,way,eH⟩,_,f1,f2,f3⟩:=col_ways ha hb hk0 hk hc
 rcases way with⟨w1,w2⟩|⟨w1,w2,w3⟩|⟨w1,w2,w3⟩
 ·exact to_hsv_r x A hh hA R X Y Z M m D s rc gc bc W (16*k) a1 a2 a3 a4 a5 a6 a7 a8 b1 b2 b3 b4 b5 b6 b7 w1 c1 c2 c3 d1 d2 d3 e1 e2 e3 w2 eH f1 f2 f3 _ _ _ N t h gl d os rest Rp K
 ·exact to_hsv_g x A hh hA R X Y Z M m D s rc gc bc W (16*k) a1 a2 a3 a4 a5 a6 a7 a8 b1 b2 b3 b4 b5 b6 b7 w1 w2 c1 c2 c3 d1 d2 d3 e1 e2 e3 w3 eH f1 f2 f3 _ _ _ N t h gl d os rest Rp K
 ·exact to_hsv_b x A hh hA R X Y Z M m D s rc gc bc W (16*k) a1 a2 a3 a4 a5 a6 a7 a8 b1 b2 b3 b4 b5 b6 b7 w1 w2 c1 c2 c3 d1 d2 d3 e1 e2 e3 w3 eH f1 f2 f3 _ _ _ N t h gl d os rest Rp K
theorem to_hlsC(x:W2)(A:Around)(hh:A.handled=none)(hA:A.depth<900)(R:Result→Shared→Prop)(k a b:Int)(hk0:0≤k)(hk:k<2^20)(ha:Quart a)(hb:Quart b)(r g bl:Value)(hc:IsCol k a b r g bl)
 (N t:Nat) (h:Heap) (gl d os) (rest:Cells) (Rp:Rep x.B N h rest 0)
 (K:∀h' N' t' p u v w,Rep x.B N' h' ((p,Tup3 (.float (fl (16*k)) u) v w)::rest) 0→R (.ok (.ret (.ref p))) ⟨h',gl,d,t',os⟩):
 codeAny (MB x.B) A (.call (.ref 108) ⟨[r,g,bl],[]⟩) R ⟨h,gl,d,t,os⟩:=by
 obtain⟨X,Y,Z,M,m,D,rc,gc,bc,W,s,L,u1,u2,u3,rfl,rfl,rfl,⟨⟨a1,a2,a3,a4,a5,a6,a7,a8⟩,⟨b1,b2,b3,b4,b5,b6,b7⟩,⟨c1,c2,c3⟩,⟨d1,d2,d3⟩,⟨e1,e2,e3⟩,way,eH⟩,f1,_⟩:=col_ways ha hb hk0 hk hc
 rcases way with⟨w1,w2⟩|⟨w1,w2,w3⟩|⟨w1,w2,w3⟩
 ·exact to_hls_r x A hh hA R X Y Z M m D s rc gc bc W (16*k) L a1 a2 a3 a4 a5 a6 a7 a8 b1 b2 b3 b4 b5 b6 b7 w1 c1 c2 c3 d1 d2 d3 e1 e2 e3 w2 eH f1 _ _ _ N t h gl d os rest Rp K
 ·exact to_hls_g x A hh hA R X Y Z M m D s rc gc bc W (16*k) L a1 a2 a3 a4 a5 a6 a7 a8 b1 b2 b3 b4 b5 b6 b7 w1 w2 c1 c2 c3 d1 d2 d3 e1 e2 e3 w3 eH f1 _ _ _ N t h gl d os rest Rp K
 ·exact to_hls_b x A hh hA R X Y Z M m D s rc gc bc W (16*k) L a1 a2 a3 a4 a5 a6 a7 a8 b1 b2 b3 b4 b5 b6 b7 w1 w2 c1 c2 c3 d1 d2 d3 e1 e2 e3 w3 eH f1 _ _ _ N t h gl d os rest Rp K
noncomputable abbrev fr0(bb:Bool)(x:W2)(ks kc:Nat)(cl:Addr)(kd:Nat)(D:Int)(ud:Nat):Obj:=cond bb (dctF [En x.B n_script ks (.ref 289),En x.B n_cells kc (.ref cl),En x.B n_drawn kd (.int D ud)] 3) (dctF [En x.B n_script ks (.ref 289),En x.B n_cells kc (.ref cl)] 2)
structure G where
 ks:Nat
 kc:Nat
 cl:Addr
 kd:Nat
 D:Int
 ud:Nat
 kq:Nat
 q:Int
 uq:Nat
 kh:Nat
 s:Nat
 uh:Nat
 km:Nat
 m:Int
 um:Nat
 kb:Nat
 b:Int
 ub:Nat
 kl:Nat
 l:Int
 ul:Nat
 kr:Nat
 r:Int
 ur:Nat
 n:Int
 un:Nat
 a:Int
 ua:Nat
 v:Int
 uv:Nat
noncomputable abbrev G.tl(g:G)(x:W2)(l:List DictEntry):List DictEntry:=En x.B n_quarter g.kq (.int g.q g.uq)::En x.B n_modulus g.km (.int g.m g.um)::En x.B n_shift g.kh (.int (g.s:Int) g.uh)::En x.B n_right g.kr (.int g.r g.ur)::En x.B n_left g.kl (.int g.l g.ul)::En x.B n_base g.kb (.int g.b g.ub)::l
noncomputable abbrev dctL(l:List DictEntry):Obj:=⟨.type "frame",none,.dict l.toArray l.length,#[]⟩
noncomputable abbrev G.fr(g:G)(bb:Bool)(x:W2)(l:List DictEntry):Obj:=cond bb (dctL (En x.B n_script g.ks (.ref 289)::En x.B n_cells g.kc (.ref g.cl)::En x.B n_drawn g.kd (.int g.D g.ud)::g.tl x l)) (dctL (En x.B n_script g.ks (.ref 289)::En x.B n_cells g.kc (.ref g.cl)::g.tl x l))
noncomputable abbrev G.c(g:G)(F:Addr)(tab:Cells):Cells:=(F+2,oC (some (.int g.n g.un)))::(F+3,oC (some (.float (fl (g.a*2^22)) g.ua)))::(F+4,oC (some (.float (fl (g.v*2^22)) g.uv)))::tab
structure G.Ok (g:G) (c0 c1 c2 c3:Int):Prop where
 n1:∃e:Nat,e<8∧g.n=2^(3+e)
 q1:1000<g.q
 q2:g.q≤2^30
 m1:g.m=g.q*g.q+1
 s1:g.s<4
 b1:0≤g.b
 b2:g.b<g.n
 l1:0<g.l
 l2:g.l≤g.n
 r1:0<g.r
 r2:g.r≤g.n
 a1:Quart g.a
 v1:Quart g.v
theorem pow_bd:∀k:Nat,k<30→10≤k→1024≤(2:Int)^k∧(2:Int)^k≤536870912:=by decide
theorem quart_of(e:Int):Quart (1+e%4):=by unfold Quart;omega
theorem w1(bb:Bool)(x:W2)(A:Around)(hh:A.handled=none)(Q:Flow→Shared→Prop)(F cl:Addr)(c0 c1 c2 c3 c4 c5:Int)(u0 u1 u2 u3 u4 u5 nc ks kc kd ud:Nat)(D:Int)(h0:0≤c0)(h1:0≤c1)(h2:0≤c2)(h3:0≤c3)
 (N t:Nat) (h:Heap) (gl d os) (rest:Cells)
 (Rp:Rep x.B N h ((cl,Lst #[.int c0 u0,.int c1 u1,.int c2 u2,.int c3 u3,.int c4 u4,.int c5 u5] nc)::(F,fr0 bb x ks kc cl kd D ud)::(F+2,oC none)::(F+3,oC none)::(F+4,oC none)::rest) 0)
 (K:∀h' N' t' (g:G) l1 l2 st k w1 w2 w3 w4,g.Ok c0 c1 c2 c3→g.cl=cl→Rep x.B N' h' ((st,oL #[.ref l1,.ref l2] 0)::(l2,oL #[.int g.b w1,.int g.b w1,.int g.b w1,.int g.b w1,.int (g.b+g.r) w2,.int (g.b+g.r) w2] 0)::(l1,oL #[.int (g.b+g.l) w3,.int (g.b+g.l) w3,.int g.b w4,.int g.b w4,.int g.b w4,.int g.b w4] 0)::(cl,Lst #[.int c0 u0,.int c1 u1,.int c2 u2,.int c3 u3,.int c4 u4,.int c5 u5] nc)::(F,g.fr bb x [En x.B n_strings k (.ref st)])::g.c F rest) 0→wpAny (MB x.B) A (execsZ (bodyOf (fdOf x.B 288) |>.drop 7) (lawE x F)) Q (fun _ _=>False) ⟨h',gl,d,t',os⟩):
 wpAny (MB x.B) A (execsZ (bodyOf (fdOf x.B 288) |>.drop 2) (lawE x F)) Q (fun _ _=>False) ⟨h,gl,d,t,os⟩:=by
 let sb:=bb
 cases bb
 all_goals
  obtain⟨e0,x0⟩:∃z,c0/3=z:=⟨_,rfl⟩
  obtain⟨e1,x1⟩:∃z:Nat,c0/3%8=z:=⟨(c0/3%8).toNat,by exact zqff⟩
  obtain⟨e2,x2⟩:∃z,c0/24=z:=⟨_,rfl⟩
  obtain⟨e3,x3⟩:∃z:Nat,c0/24%20=z:=⟨(c0/24%20).toNat,by exact zqfg⟩
  obtain⟨n,xn⟩:∃n:Int,(2:Int)^(3+e1)=n:=⟨_,rfl⟩
  obtain⟨p,xp⟩:∃n:Int,(2:Int)^(10+e3)=n:=⟨_,rfl⟩
  refine cut 1 ?_
  refine seg_callD hh Rp [aI "int.__floordiv__" [.int (c0) u0,.int 3 (t+3)] (e0),aI "int.__mod__" [.int (e0) (t+4),.int 8 (t+5)] ((e1:Int))] 39 (dA 0x43086181186187) [] (cB "int.__pow__" [.int 2 (t+0),.int (3+(↑e1:Int)) (t+7)]) [] [] 0 8 ?_ (aC (fun _ _ _ _ _ _ _ K=>i_fdiv (B:=x.B) (i:=(c0)) (j:=(3)) (c:=e0) (by decide) (by first|assumption|decide|rfl) (by first|assumption|(rw[Int.fdiv_eq_ediv_of_nonneg _ (by decide)];omega)) K) (aC (fun _ _ _ _ _ _ _ K=>i_mod (B:=x.B) (i:=(e0)) (j:=(8)) (c:=(e1:Int)) (by decide) (by rw[Int.fmod_eq_emod_of_nonneg _ (by decide)];exact zqfh x0 x1) K) aN))
  intro Tb4 h4 N4 t4 Rp kk4
  refine i_pow (c:=n) (.inl rfl) (by exact zqfi) (by exact zqfj x1) (by rw[show(3+(e1:Int)).toNat=3+e1 from by exact zqfk];exact xn) ?_
  show wpAny ..
  refine seg_callD hh Rp [aI "int.__floordiv__" [.int (c0) u0,.int 24 (t4+1+3)] (e2),aI "int.__mod__" [.int (e2) (t4+1+4),.int 20 (t4+1+5)] ((e3:Int))] 37 (dA 0x43086181186187) [] (cB "int.__pow__" [.int 2 (t4+1+0),.int (10+(↑e3:Int)) (t4+1+7)]) [] [] 0 8 ?_ (aC (fun _ _ _ _ _ _ _ K=>i_fdiv (B:=x.B) (i:=(c0)) (j:=(24)) (c:=e2) (by decide) (by first|assumption|decide|rfl) (by first|assumption|(rw[Int.fdiv_eq_ediv_of_nonneg _ (by decide)];exact zqfl x2)) K) (aC (fun _ _ _ _ _ _ _ K=>i_mod (B:=x.B) (i:=(e2)) (j:=(20)) (c:=(e3:Int)) (by decide) (by rw[Int.fmod_eq_emod_of_nonneg _ (by decide)];exact zqfm x2 x3) K) aN))
  intro Tb5 h5 N5 t5 Rp kk5
  refine i_pow (c:=p) (.inl rfl) (by exact zqfn) (by exact zqfo x3) (by rw[show(10+(e3:Int)).toNat=10+e3 from by exact zqfp];exact xp) ?_
  show wpAny ..
  with_reducible refine seg_valD (by with_unfolding_all exact hh) Rp [] 76 (dA 0x1cb20c182187186181182187186181182187186181186181186181) (dM 16) Flow.next [] [.k,.u (dW [En x.B n_quarter (t5+1+2) (.int (p+1) (t5+1+1))]),.u fun _=>oC (some (.int (n) t4))] 4 3 ?_
  intro Tb6 h6 N6 t6 Rp
  show wpAny _ _ (execsZ ..) ..
  obtain⟨e4,x4⟩:∃z,c0/480=z:=⟨_,rfl⟩
  obtain⟨e5,x5⟩:∃z:Nat,c0/480%4=z:=⟨(c0/480%4).toNat,by exact zqfq⟩
  have hp:=pow_bd (10+e3) (by exact zqfr x3) (by exact zqfs)
  rw[xp] at hp
  obtain⟨p2,xp2⟩:∃z,(p+1)*(p+1)=z:=⟨_,rfl⟩
  refine cut 1 ?_
  refine seg_callD hh Rp [aI "int.__floordiv__" [.int (c0) u0,.int 480 (t6+1)] (e4),aI "int.__mod__" [.int (e4) (t6+2),.int 4 (t6+3)] ((e5:Int))] 36 (dA 0x71c3086181186187) [] (cB "int.__mul__" [.int (p+1) (t5+1+1),.int (p+1) (t5+1+1)]) [] [] 0 5 ?_ (aC (fun _ _ _ _ _ _ _ K=>i_fdiv (B:=x.B) (i:=(c0)) (j:=(480)) (c:=e4) (by decide) (by first|assumption|decide|rfl) (by first|assumption|(rw[Int.fdiv_eq_ediv_of_nonneg _ (by decide)];exact zqft x4)) K) (aC (fun _ _ _ _ _ _ _ K=>i_mod (B:=x.B) (i:=(e4)) (j:=(4)) (c:=(e5:Int)) (by decide) (by rw[Int.fmod_eq_emod_of_nonneg _ (by decide)];exact zqfu x4 x5) K) aN))
  intro Tb7 h7 N7 t7 Rp kk7
  refine i_mul (c:=p2) (.inl (intBits_le_64 (by exact zqfv hp) (by exact zqfw hp))) xp2 ?_
  show wpAny ..
  with_reducible refine seg_valD (by with_unfolding_all exact hh) Rp [] 76 (dA 0x1cb1cb182187186181182187186181182187186181186181186181) (dM 16) Flow.next [] [.k,.u (dW [En x.B n_modulus (t7+1+2) (.int (p2+1) (t7+1+1)),En x.B n_shift (t7+1+3) (.int ((↑e5:Int)) (t6+4))])] 4 4 ?_
  intro Tb8 h8 N8 t8 Rp
  show wpAny _ _ (execsZ ..) ..
  obtain⟨e6,x6⟩:∃z,c0/1920=z:=⟨_,rfl⟩
  obtain⟨e7,x7⟩:∃z,c0/1920%4=z:=⟨_,rfl⟩
  obtain⟨e8,x8⟩:∃z,c0/7680=z:=⟨_,rfl⟩
  obtain⟨e9,x9⟩:∃z,c0/7680%4=z:=⟨_,rfl⟩
  refine cut 1 ?_
  refine seg_valD hh Rp [aI "int.__floordiv__" [.int (c0) u0,.int 1920 (t8+2)] (e6),aI "int.__mod__" [.int (e6) (t8+3),.int 4 (t8+4)] (e7),aF "int.__truediv__" [.int (1+e7) (t8+6),.int 4 (t8+7)] ((1+e7)*2^22),aI "int.__floordiv__" [.int (c0) u0,.int 7680 (t8+11)] (e8),aI "int.__mod__" [.int (e8) (t8+12),.int 4 (t8+13)] (e9),aF "int.__truediv__" [.int (1+e9) (t8+15),.int 4 (t8+16)] ((1+e9)*2^22)] 124 (dA 0xa3893460861c61860460861c61860460861c61860461860461861c11851860461861c4043086181186187) (dM 16) Flow.next [] [.k,.k,.k,.u fun _=>oC (some (.float (fl ((1+e7)*2^22)) (t8+8))),.u fun _=>oC (some (.float (fl ((1+e9)*2^22)) (t8+17)))] 4 18 ?_ (aC (fun _ _ _ _ _ _ _ K=>i_fdiv (B:=x.B) (i:=(c0)) (j:=(1920)) (c:=e6) (by decide) (by first|assumption|decide|rfl) (by first|assumption|(rw[Int.fdiv_eq_ediv_of_nonneg _ (by decide)];exact zqfx x6)) K) (aC (fun _ _ _ _ _ _ _ K=>i_mod (B:=x.B) (i:=(e6)) (j:=(4)) (c:=e7) (by decide) (by rw[Int.fmod_eq_emod_of_nonneg _ (by decide)];exact zqfy x6 x7) K) (aC (fun _ _ _ _ _ _ _ K=>i_truediv (B:=x.B) (i:=(1+e7)) (j:=(4)) (c:=((1+e7)*2^22)) (by decide) (by exact zqfz x7) (by exact zqdl) K) (aC (fun _ _ _ _ _ _ _ K=>i_fdiv (B:=x.B) (i:=(c0)) (j:=(7680)) (c:=e8) (by decide) (by first|assumption|decide|rfl) (by first|assumption|(rw[Int.fdiv_eq_ediv_of_nonneg _ (by decide)];exact zqfA x8)) K) (aC (fun _ _ _ _ _ _ _ K=>i_mod (B:=x.B) (i:=(e8)) (j:=(4)) (c:=e9) (by decide) (by rw[Int.fmod_eq_emod_of_nonneg _ (by decide)];exact zqfB x8 x9) K) (aC (fun _ _ _ _ _ _ _ K=>i_truediv (B:=x.B) (i:=(1+e9)) (j:=(4)) (c:=((1+e9)*2^22)) (by decide) (by exact zqfC x9) (by exact zqdl) K) aN))))))
  intro Tb9 h9 N9 t9 Rp
  show wpAny _ _ (execsZ ..) ..
  obtain⟨f1,y1⟩:∃z,c1/95=z:=⟨_,rfl⟩
  obtain⟨f2,y2⟩:∃z,c2/95=z:=⟨_,rfl⟩
  obtain⟨f3,y3⟩:∃z,c3/95=z:=⟨_,rfl⟩
  obtain⟨b,yb⟩:∃z,f1%n=z:=⟨_,rfl⟩
  obtain⟨l,yl⟩:∃z,(f2*2)%n=z:=⟨_,rfl⟩
  obtain⟨r,yr⟩:∃z,(f3*2)%n=z:=⟨_,rfl⟩
  have hn:0<n:=by rw[←xn];exact Int.pow_pos (by decide)
  refine cut 1 ?_
  refine seg_callD hh Rp [aI "int.__floordiv__" [.int (c1) u1,.int 95 (t9+1)] (f1)] 31 (dA 0x8086181186187) [] (cB "int.__mod__" [.int (f1) (t9+2),.int (n) t4]) [] [] 0 3 ?_ (aC (fun _ _ _ _ _ _ _ K=>i_fdiv (B:=x.B) (i:=(c1)) (j:=(95)) (c:=f1) (by decide) (by first|assumption|decide|rfl) (by first|assumption|(rw[Int.fdiv_eq_ediv_of_nonneg _ (by decide)];exact zqcb y1)) K) aN)
  intro Tb10 h10 N10 t10 Rp kk10
  refine i_mod (c:=b) (by exact zqaG hn) (by rw[Int.fmod_eq_emod_of_nonneg _ (by exact zqam hn)];exact yb) ?_
  show wpAny ..
  refine seg_callD hh Rp [aI "int.__floordiv__" [.int (c2) u2,.int 95 (t10+1+2)] (f2),aI "int.__mul__" [.int (f2) (t10+1+3),.int 2 (t10+1+4)] (f2*2)] 33 (dA 0x203086181186187) [] (cB "int.__mod__" [.int (f2*2) (t10+1+5),.int (n) t4]) [] [] 0 6 ?_ (aC (fun _ _ _ _ _ _ _ K=>i_fdiv (B:=x.B) (i:=(c2)) (j:=(95)) (c:=f2) (by decide) (by first|assumption|decide|rfl) (by first|assumption|(rw[Int.fdiv_eq_ediv_of_nonneg _ (by decide)];exact zqcb y2)) K) (aC (fun _ _ _ _ _ _ _ K=>i_mul (B:=x.B) (i:=(f2)) (j:=(2)) (c:=(f2*2)) (.inr (intBits_le_64 (by decide) (by decide))) (by exact zqdm) K) aN))
  intro Tb11 h11 N11 t11 Rp kk11
  refine i_mod (c:=l) (by exact zqaG hn) (by rw[Int.fmod_eq_emod_of_nonneg _ (by exact zqam hn)];exact yl) ?_
  show wpAny ..
  refine seg_callD hh Rp [aI "int.__floordiv__" [.int (c3) u3,.int 95 (t11+1+3)] (f3),aI "int.__mul__" [.int (f3) (t11+1+4),.int 2 (t11+1+5)] (f3*2)] 38 (dA 0x80c21860461861c1) [] (cB "int.__mod__" [.int (f3*2) (t11+1+6),.int (n) t4]) [] [] 0 7 ?_ (aC (fun _ _ _ _ _ _ _ K=>i_fdiv (B:=x.B) (i:=(c3)) (j:=(95)) (c:=f3) (by decide) (by first|assumption|decide|rfl) (by first|assumption|(rw[Int.fdiv_eq_ediv_of_nonneg _ (by decide)];exact zqcb y3)) K) (aC (fun _ _ _ _ _ _ _ K=>i_mul (B:=x.B) (i:=(f3)) (j:=(2)) (c:=(f3*2)) (.inr (intBits_le_64 (by decide) (by decide))) (by exact zqdm) K) aN))
  intro Tb12 h12 N12 t12 Rp kk12
  refine i_mod (c:=r) (by exact zqaG hn) (by rw[Int.fmod_eq_emod_of_nonneg _ (by exact zqam hn)];exact yr) ?_
  show wpAny ..
  with_reducible refine seg_valD (by with_unfolding_all exact hh) Rp [] 91 (dA 0x1cb1cb1cb182187186181182187186181182187186181182187186181186181186181) (dM 16) Flow.next [] [.k,.u (dW [En x.B n_right (t12+1+1) (.int (1+r) (t12+1+0)),En x.B n_left (t12+1+2) (.int (1+l) ((mkVA x.B N11 (t11+1) [aI "int.__floordiv__" [Value.int c3 u3,Value.int 95 (t11+1+3)] f3,aI "int.__mul__" [Value.int f3 (t11+1+4),Value.int 2 (t11+1+5)] (f3*2)]).t₀+0)),En x.B n_base (t12+1+3) (.int (b) t10)])] 4 4 ?_
  intro Tb13 h13 N13 t13 Rp
  show wpAny _ _ (execsZ ..) ..
  refine cut 1 ?_
  with_reducible refine seg_valD (by with_unfolding_all exact hh) Rp [] 143 (dA 0x39218818804818818604618118138e18604618118c1881880481881860461811891860461811811c7) (dM 2115) Flow.next [(N13+10,oL #[.ref (N13+4),.ref (N13+9)] 0),(N13+9,oL #[.int (b) t10,.int (b) t10,.int (b) t10,.int (b) t10,.int (b+(1+r)) (t13+4),.int (b+(1+r)) (t13+4)] 0),(N13+4,oL #[.int (b+(1+l)) (t13+0),.int (b+(1+l)) (t13+0),.int (b) t10,.int (b) t10,.int (b) t10,.int (b) t10] 0)] [.k,.u (dW [En x.B n_strings (t13+6) (.ref (N13+10))])] 11 7 ?_
  intro Tb14 h14 N14 t14 Rp
  have b0:=Int.emod_nonneg f1 (show n≠0 by exact zqaG hn)
  have b1:=Int.emod_lt_of_pos f1 hn
  have l0:=Int.emod_nonneg (f2*2) (show n≠0 by exact zqaG hn)
  have l1:=Int.emod_lt_of_pos (f2*2) hn
  have r0:=Int.emod_nonneg (f3*2) (show n≠0 by exact zqaG hn)
  have r1:=Int.emod_lt_of_pos (f3*2) hn
  rw[yb] at b0 b1
  rw[yl] at l0 l1
  rw[yr] at r0 r1
  exact K _ _ _ ⟨ks,kc,cl,kd,D,ud,_,p+1,_,_,e5,_,_,p2+1,_,_,b,_,_,1+l,_,_,1+r,_,n,_,1+e7,_,1+e9,_⟩ _ _ _ _ _ _ _ _ ⟨⟨e1,by exact zqfD x1,xn.symm⟩,by show 1000<p+1;exact zqfE hp,by show p+1≤2^30;exact zqfF hp,by show p2+1=(p+1)*(p+1)+1;rw[xp2],by show e5<4;exact zqfG x5,b0,b1,by show 0<1+l;exact zqdn l0,by show 1+l≤n;exact zqdo l1,by show 0<1+r;exact zqdn r0,by show 1+r≤n;exact zqdo r1,by rw[←x7];exact quart_of _,by rw[←x9];exact quart_of _⟩ rfl Rp
end Mine
namespace Mine
open PySem PySem.W PySem.W.X PyProof.Rows PySem.Calls
noncomputable abbrev callZ:Value→List Value→List (Str×Value)→Sem Value:=@PySem.W.ZFast.zw11478286150595567475
theorem callZ_eq: @call=callZ:=PySem.W.ZFast.ze11478286150595567475
noncomputable def plain1:Expr→Bool
 | .ListComp _ [g] _ _=>g.is_async==0&&g.ifs.isEmpty
 |_=>false
noncomputable def eltE:Expr→Expr
 | .ListComp e _ _ _=>e
 |_=>default
noncomputable def tgtE:Expr→Expr
 | .ListComp _ (g::_) _ _=>g.target
 |_=>default
theorem plain1_eq{e:Expr}(h:plain1 e=true):∃iter scope pos,e=.ListComp (eltE e) [⟨tgtE e,iter,[],0⟩] scope pos:=by
 unfold plain1 at h
 split at h
 ·rename_i elt g scope pos
  obtain⟨t,i,f,a⟩:=g
  simp at h
  obtain⟨rfl,rfl⟩:=h
  exact⟨_,_,_,rfl⟩
 ·cases h
section
variable {B:Base} {A:Around} {s:Shared} {it acc:Value} {env:Env} {e:Expr} {R:Result→Shared→Prop}
theorem comp_turn(he:plain1 e=true)(h:wpAny (MB B) (A.under (.compLoop e 0 it acc env)) (pyNext it) (fun r s₁=>match r with
 |none=>R (.ok .next) s₁
 |some v=>wpAny (MB B) (A.under (.compLoop e 0 it acc env)) (letOwnedTupleGo (tgtE e) it v) (fun _ s₂=>wpAny (MB B) (A.under (.compLoop e 0 it acc env)) (assignZ (tgtE e) env v) (fun _ s₃=>
  wpAny (MB B) (A.under (.compLoop e 0 it acc env)) (evalZ (eltE e) env) (fun x s₄=>wpAny (MB B) (A.under (.compLoop e 0 it acc env)) (callZ (.builtin "list.append") [acc,x] []) (fun _ s₅=>codeAny (MB B) A (.compLoop e 0 it acc env) R s₅) noE s₄) noE s₃) noE s₂) noE s₁) noE s):codeAny (MB B) A (.compLoop e 0 it acc env) R s:=by
 obtain⟨iter,scope,pos,q⟩:=plain1_eq he
 refine codeAny_of_tree ?_
 have q':∀C:Code,Code.compLoop e 0 it acc env=C→codeAny (MB B) A (.compLoop e 0 it acc env) R s=codeAny (MB B) A C R s:=fun C h=>h▸rfl
 have ed:(MB B).den (.compLoop e 0 it acc env)=((compTurn e 0 it acc env).onRaise (fun x=>do noteFrame x env;theTreesLotGoes x)):=by
  rw[q];rfl
 rw[ed]
 refine wpAny_onRaise ?_
 generalize hA:A.under (.compLoop e 0 it acc env)=A' at*
 have et:compTurn e 0 it acc env=(standAt iter.pos >>= fun _=>pyNext it >>= fun r=>match r with
  |none=>pure (.done .next)
  |some v=>letOwnedTupleGo (tgtE e) it v >>= fun _=>assign (tgtE e) env v >>= fun _=>
   (eval (eltE e) env >>= fun x=>call (.builtin "list.append") [acc,x] >>= fun _=>pure ()) >>= fun _=>
    again (.compLoop e 0 it acc env)):=by
  generalize tgtE e=tg at*
  generalize eltE e=el at*
  subst q
  rfl
 rw[et]
 refine wpAny_bind (wpAny_standAt (wpAny_bind (wpAny_mono h (fun r s₁ h₁=>?_) fun _ _ q=>q.elim)))
 cases r with
 |none=>exact wpAny_pure h₁
 |some v=>
  refine wpAny_bind (wpAny_mono h₁ (fun _ s₂ h₂=>?_) fun _ _ q=>q.elim)
  rw[assignZ_eq]
  refine wpAny_bind (wpAny_mono h₂ (fun _ s₃ h₃=>?_) fun _ _ q=>q.elim)
  rw[evalZ_eq]
  refine wpAny_bind (wpAny_bind (wpAny_mono h₃ (fun x s₄ h₄=>?_) fun _ _ q=>q.elim))
  rw[callZ_eq]
  refine wpAny_bind (wpAny_mono h₄ (fun _ s₅ h₅=>wpAny_pure (wpAny_pure ⟨rfl,h₅⟩)) fun _ _ q=>q.elim)
theorem comp_startE(he:plain1 e=true){N m:Nat}{h:Heap}{tab:Cells}{gl:Array GenState}{d:Drawn}{t:Nat}{os:OsState}{a it':Addr}{j:Int}{old:Value}(Rp:Rep B N h tab m)(i:Nat)(hx:nth tab i=some (a,EnumO .none (.ref it') j old))
 (K:codeAny (MB B) A (.compLoop e 0 (.ref a) acc env) R ⟨h,gl,d,t,os⟩):codeAny (MB B) A (.compStart e 0 (.ref a) acc env) R ⟨h,gl,d,t,os⟩:=by
 obtain⟨iter,scope,pos,q⟩:=plain1_eq he
 generalize tgtE e=tg at*
 generalize eltE e=el at*
 subst q
 refine codeAny_compStart_list K ?_
 have hT:(⟨h,gl,d,t,os⟩:Shared).TypeIs (.ref a) "enumerate":=⟨_,Rp.at hx,rfl⟩
 refine wpAny_pyIter_slot hT PySem.F.slot_enumerate_iter (wpAny_call_entry PySem.F.slot_enumerate_iter hT PySem.F.entry_enumerate_iter ?_ (PySem.F.args_enumerate_iter_1 _))
 show wpAny _ _ (ret (.ref a)) _ _ _
 exact wpAny_pure ⟨_,rfl,"enumerate",_,hT,PySem.F.slot_enumerate_next.lookup,K⟩
end
end Mine
namespace Mine
open PySem PySem.W PySem.W.X PyProof.Rows PySem.Spec PySem.Calls
noncomputable def sE(x:W2):Expr:=compE (stmtAt x.B 288 7)
noncomputable def iE(x:W2):Expr:=eltE (sE x)
noncomputable abbrev sEnv(x:W2)(F C:Addr):Env:=cenvOf (lawE x F) (sE x) C [(n_value,F+4),(n_size,F+2),(n_share,F+3)]
noncomputable abbrev iEnv(x:W2)(F C D:Addr):Env:=cenvOf (sEnv x F C) (iE x) D [(n_value,F+4),(n_size,F+2),(n_share,F+3)]
structure Clr where
 p:Nat
 r:Value
 g:Value
 b:Value
noncomputable abbrev Clr.cell(c:Clr):Addr×Obj:=(c.p,Tup3 c.r c.g c.b)
noncomputable def refsOf(cs:List Clr):Array Value:=(cs.map fun c=>Value.ref c.p).toArray
theorem refsOf_push(cs:List Clr)(c:Clr):(refsOf cs).push (.ref c.p)=refsOf (cs++[c]):=by
 unfold refsOf;simp
theorem refsOf_size(cs:List Clr):(refsOf cs).size=cs.length:=by unfold refsOf;simp
noncomputable def G.Col(g:G)(k:Int)(c:Clr):Prop:=0≤k∧k<g.n∧IsCol (k*(2^20/g.n)) g.a g.v c.r c.g c.b
structure G.Wheel (g:G) (w:Int):Prop where
 n0:8≤g.n
 n1:g.n≤1024
 w0:0<w
 nw:w*g.n=2^20
 w1:2^20/g.n=w
theorem wheel_of:∀e:Nat,e<8→8≤(2:Int)^(3+e)∧(2:Int)^(3+e)≤1024∧0< (2:Int)^(17-e)∧(2:Int)^(17-e)*2^(3+e)=2^20∧(2:Int)^20/2^(3+e)=2^(17-e):=by decide
theorem G.Ok.wheel{g:G}{c0 c1 c2 c3:Int}(h:g.Ok c0 c1 c2 c3):∃w,g.Wheel w:=by
 obtain⟨e,he,hn⟩:=h.n1
 obtain⟨a,b,c,d,f⟩:=wheel_of e he
 rw[←hn] at a b d f
 exact⟨_,a,b,c,d,f⟩
theorem G.Wheel.div{g:G}{w k z:Int}(hw:g.Wheel w)(hz:k*w=z):k*2^24=16*z*g.n:=by
 have:=hw.nw
 subst hz
 grind
theorem G.Wheel.mod{g:G}{w k z:Int}(hw:g.Wheel w)(hz:k*w=z):z%2^20=(k%g.n)*(2^20/g.n):=by
 rw[hw.w1,←hw.nw,←hz,Int.mul_comm k w,Int.mul_emod_mul_of_pos _ _ hw.w0,Int.mul_comm]
theorem G.Wheel.bd{g:G}{w k z:Int}(hw:g.Wheel w)(hz:k*w=z)(k0:0≤k)(k1:k<2*g.n):0≤z∧z<2^21:=by
 have h1:=hw.nw
 have h2:=hw.w0
 have h3:0≤k*w:=Int.mul_nonneg k0 (by exact zqam h2)
 have:=Int.mul_lt_mul_of_pos_right k1 h2
 rw[hz,show 2*g.n*w=2*(w*g.n) by rw[Int.mul_assoc,Int.mul_comm g.n w],h1] at this
 omega
theorem i_turn0(x:W2)(A:Around)(hh:A.handled=none)(hA:A.depth<400)(R:Result→Shared→Prop)(g:G)(w:Int)(hw:g.Wheel w)(ha:Quart g.a)(hv:Quart g.v)(F C D acc it l:Addr)(cs:List Clr)(hcs:cs.length<100)(hs:Array Value)(j n1 nv:Nat)(k:Int)(u:Nat)(hj:hs[j]? =some (.int k u))(k0:0≤k)(k1:k<2*g.n)(N t:Nat)(h:Heap)(gl d os)(rest:Cells)
 (Rp:Rep x.B N h ((D,oD #[] 0)::(acc,Lst (refsOf cs) nv)::(it,ListIt l (j:Int))::(l,Lst hs n1)::g.c F rest) 0)
 (K:∀h' N' t' c kh nv,g.Col (k%g.n) c→Rep x.B N' h' ((D,oD #[En x.B n_hue kh (.int k u)] 1)::(acc,Lst (refsOf (cs++[c])) nv)::(it,ListIt l ((j+1:Nat):Int))::(l,Lst hs n1)::g.c F (c.cell::rest)) 0→codeAny (MB x.B) A (.compLoop (iE x) 0 (.ref it) (.ref acc) (iEnv x F C D)) R ⟨h',gl,d,t',os⟩):
 codeAny (MB x.B) A (.compLoop (iE x) 0 (.ref it) (.ref acc) (iEnv x F C D)) R ⟨h,gl,d,t,os⟩:=by
 have n0:=hw.n0
 obtain⟨z,hz⟩:∃z,k*w=z:=⟨_,rfl⟩
 obtain⟨z0,z1⟩:=hw.bd hz k0 k1
 refine code_tree ?_
 with_reducible refine seg_callD (by with_unfolding_all exact hh) Rp [] 13 (dA 0x8) [] (cB "list_iterator.__next__" [.ref it]) [] [] 0 0 ?_
 intro Tb1 h1 N1 t1 Rp kk1
 refine li_next Rp 2 3 rfl rfl hj rfl fun hn1 Rp=>?_
 try dsimp only[setN] at Rp
 with_reducible refine seg_callD (by with_unfolding_all exact hh) Rp [] 25 (dA 0xa181086) [] (cB "int.__truediv__" [.int (k) u,.int (g.n) (g.un)]) [] [.u fun _=>oD #[En x.B n_hue (t1+0) (.int (k) u)] 1] 0 1 ?_
 intro Tb2 h2 N2 t2 Rp kk2
 refine i_truediv (c:=16*z) (by exact zqan n0) (show(16*z).natAbs<2^53 by exact zqbv z0 z1) (hw.div hz) ?_
 show wpAny ..
 with_reducible refine seg_callD (by with_unfolding_all exact hh) Rp [] 17 (dA 0x130b) [] (cR 122 [.float (fl (16*z)) t2,.float (fl (g.a*2^22)) (g.ua),.float (fl (g.v*2^22)) (g.uv)]) [] [] 0 0 ?_
 intro Tb3 h3 N3 t3 Rp kk3
 refine hsvC x (A.under _) hh (by show A.depth+0<900;exact zqdp hA) _ z _ g.a g.v z0 z1 (hw.mod hz) ha hv _ _ _ _ _ _ _ _ _ _ Rp fun h4 N4 t4 p r gg bl hc Rp=>?_
 show wpAny ..
 with_reducible refine seg_callD (by with_unfolding_all exact hh) Rp [] 12 (dA 0x0) [] (cB "list.append" [.ref acc,.ref p]) [] [] 0 0 ?_
 intro Tb5 h5 N5 t5 Rp kk5
 refine l_append Rp 2 rfl (by rw[refsOf_size];exact zqaU hcs) rfl fun h5 Rp=>?_
 try dsimp only[setN] at Rp
 with_reducible refine seg_valD (by with_unfolding_all exact hh) Rp [] 11 (dA 0x0) [] (Fin.again (.compLoop (iE x) 0 (.ref it) (.ref acc) (iEnv x F C D))) [] [] 0 0 ?_
 intro Tb6 h6 N6 t6 Rp
 exact⟨rfl,K _ _ _ ⟨p,r,gg,bl⟩ _ _ ⟨Int.emod_nonneg _ (by exact zqaV n0),Int.emod_lt_of_pos _ (by exact zqan n0),hc⟩ (by rw[←refsOf_push];exact Rp.mov 0 7)⟩
theorem i_turn1(x:W2)(A:Around)(hh:A.handled=none)(hA:A.depth<400)(R:Result→Shared→Prop)(g:G)(w:Int)(hw:g.Wheel w)(ha:Quart g.a)(hv:Quart g.v)(F C D acc it l:Addr)(cs:List Clr)(hcs:cs.length<100)(hs:Array Value)(j n1 nv:Nat)(k:Int)(u:Nat)(hj:hs[j]? =some (.int k u))(k0:0≤k)(k1:k<2*g.n)(kz:Nat)(v0:Value)(N t:Nat)(h:Heap)(gl d os)(rest:Cells)
 (Rp:Rep x.B N h ((D,oD #[En x.B n_hue kz v0] 1)::(acc,Lst (refsOf cs) nv)::(it,ListIt l (j:Int))::(l,Lst hs n1)::g.c F rest) 0)
 (K:∀h' N' t' c kh nv,g.Col (k%g.n) c→Rep x.B N' h' ((D,oD #[En x.B n_hue kh (.int k u)] 1)::(acc,Lst (refsOf (cs++[c])) nv)::(it,ListIt l ((j+1:Nat):Int))::(l,Lst hs n1)::g.c F (c.cell::rest)) 0→codeAny (MB x.B) A (.compLoop (iE x) 0 (.ref it) (.ref acc) (iEnv x F C D)) R ⟨h',gl,d,t',os⟩):
 codeAny (MB x.B) A (.compLoop (iE x) 0 (.ref it) (.ref acc) (iEnv x F C D)) R ⟨h,gl,d,t,os⟩:=by
 have n0:=hw.n0
 obtain⟨z,hz⟩:∃z,k*w=z:=⟨_,rfl⟩
 obtain⟨z0,z1⟩:=hw.bd hz k0 k1
 refine code_tree ?_
 with_reducible refine seg_callD (by with_unfolding_all exact hh) Rp [] 13 (dA 0x8) [] (cB "list_iterator.__next__" [.ref it]) [] [] 0 0 ?_
 intro Tb1 h1 N1 t1 Rp kk1
 refine li_next Rp 2 3 rfl rfl hj rfl fun hn1 Rp=>?_
 try dsimp only[setN] at Rp
 with_reducible refine seg_callD (by with_unfolding_all exact hh) Rp [] 25 (dA 0xa181086) [] (cB "int.__truediv__" [.int (k) u,.int (g.n) (g.un)]) [] [.u (dU [(0,.int (k) u)] [] 1)] 0 1 ?_
 intro Tb2 h2 N2 t2 Rp kk2
 refine i_truediv (c:=16*z) (by exact zqan n0) (show(16*z).natAbs<2^53 by exact zqbv z0 z1) (hw.div hz) ?_
 show wpAny ..
 with_reducible refine seg_callD (by with_unfolding_all exact hh) Rp [] 17 (dA 0x130b) [] (cR 122 [.float (fl (16*z)) t2,.float (fl (g.a*2^22)) (g.ua),.float (fl (g.v*2^22)) (g.uv)]) [] [] 0 0 ?_
 intro Tb3 h3 N3 t3 Rp kk3
 refine hsvC x (A.under _) hh (by show A.depth+0<900;exact zqdp hA) _ z _ g.a g.v z0 z1 (hw.mod hz) ha hv _ _ _ _ _ _ _ _ _ _ Rp fun h4 N4 t4 p r gg bl hc Rp=>?_
 show wpAny ..
 with_reducible refine seg_callD (by with_unfolding_all exact hh) Rp [] 12 (dA 0x0) [] (cB "list.append" [.ref acc,.ref p]) [] [] 0 0 ?_
 intro Tb5 h5 N5 t5 Rp kk5
 refine l_append Rp 2 rfl (by rw[refsOf_size];exact zqaU hcs) rfl fun h5 Rp=>?_
 try dsimp only[setN] at Rp
 with_reducible refine seg_valD (by with_unfolding_all exact hh) Rp [] 11 (dA 0x0) [] (Fin.again (.compLoop (iE x) 0 (.ref it) (.ref acc) (iEnv x F C D))) [] [] 0 0 ?_
 intro Tb6 h6 N6 t6 Rp
 exact⟨rfl,K _ _ _ ⟨p,r,gg,bl⟩ _ _ ⟨Int.emod_nonneg _ (by exact zqaV n0),Int.emod_lt_of_pos _ (by exact zqan n0),hc⟩ (by rw[←refsOf_push];exact Rp.mov 0 7)⟩
theorem i_end(x:W2)(A:Around)(hh:A.handled=none)(R:Result→Shared→Prop)(F C D acc it l:Addr)(co ao:Obj)(items:Array Value)(n j:Nat)(hj:items[j]? =none)(N t:Nat)(h:Heap)(gl d os)(rest:Cells)
 (Rp:Rep x.B N h ((D,co)::(acc,ao)::(it,ListIt l (j:Int))::(l,Lst items n)::rest) 0)
 (K:∀h' N' t',Rep x.B N' h' ((D,co)::(acc,ao)::(l,Lst items n)::rest) 0→R (.ok .next) ⟨h',gl,d,t',os⟩):
 codeAny (MB x.B) A (.compLoop (iE x) 0 (.ref it) (.ref acc) (iEnv x F C D)) R ⟨h,gl,d,t,os⟩:=by
 refine code_tree ?_
 with_reducible refine seg_callD (by with_unfolding_all exact hh) Rp [] 13 (dA 0x8) [] (cB "list_iterator.__next__" [.ref it]) [] [] 0 0 ?_
 intro Tb1 h1 N1 t1 Rp kk1
 refine li_end hh Rp 2 3 rfl rfl hj rfl fun h2 N2 a2 e2 Rp=>?_
 with_reducible refine seg_valD (by with_unfolding_all exact hh) Rp [] 12 (dA 0x6) [] (Fin.done Flow.next) [] [.d,.d,.k,.k,.d] 0 0 ?_
 intro Tb3 h3 N3 t3 Rp
 exact K _ _ _ Rp
noncomputable def intA(L:List (Int×Nat)):Array Value:=(L.map fun p=>Value.int p.1 p.2).toArray
noncomputable def G.Cols(g:G)(L:List (Int×Nat))(cs:List Clr):Prop:=cs.length=L.length∧∀(i:Nat) (k:Int) (u:Nat),L[i]? =some (k,u)→∃c,cs[i]? =some c∧g.Col (k%g.n) c
theorem G.Cols.snoc{g:G}{L:List (Int×Nat)}{cs:List Clr}{k:Int}{u:Nat}{c:Clr}(h:g.Cols L cs)(hc:g.Col (k%g.n) c):g.Cols (L++[(k,u)]) (cs++[c]):=by
 refine⟨by simp[h.1],fun i k' u' e=>?_⟩
 rcases Nat.lt_trichotomy i L.length with z|z|z
 ·rw[List.getElem?_append_left z] at e
  rw[List.getElem?_append_left (by rw[h.1];exact z)]
  exact h.2 i k' u' e
 ·rw[List.getElem?_append_right (by exact zqdq z),z] at e
  simp at e
  refine⟨c,?_,by rw[←e.1];exact hc⟩
  rw[List.getElem?_append_right (by rw[h.1];exact zqdq z),h.1,z];simp
 ·rw[List.getElem?_append_right (by omega),List.getElem?_eq_none (by simp;omega)] at e
  cases e
noncomputable abbrev rcells(cs:List Clr)(rest:Cells):Cells:=cs.reverse.map Clr.cell++rest
theorem rcells_snoc(cs:List Clr)(c:Clr)(rest:Cells):c.cell::rcells cs rest=rcells (cs++[c]) rest:=by
 unfold rcells
 rw[List.reverse_append]
 rfl
section
variable (x:W2) (A:Around) (hh:A.handled=none) (hA:A.depth<400) (R:Result→Shared→Prop) (g:G) (w:Int) (hw:g.Wheel w) (ha:Quart g.a) (hv:Quart g.v) (F C D acc it l:Addr) (L:List (Int×Nat)) (hL:L.length<100) (hb:∀p∈L,0≤p.1∧p.1<2*g.n) (n1:Nat) (gl:Array GenState) (d:Drawn) (os:OsState) (rest:Cells)
 (K:∀h' N' t' cs kz v0 nv,g.Cols L cs→Rep x.B N' h' ((D,oD #[En x.B n_hue kz v0] 1)::(acc,Lst (refsOf cs) nv)::(l,Lst (intA L) n1)::g.c F (rcells cs rest)) 0→R (.ok .next) ⟨h',gl,d,t',os⟩)
include hh hA hw ha hv hL hb K
theorem i_loop:∀(L':List (Int×Nat)) (j:Nat) (_:L.drop j=L') (cs:List Clr) (_:g.Cols (L.take j) cs) (kz:Nat) (v0:Value) (nv N t:Nat) (h:Heap)
 (_:Rep x.B N h ((D,oD #[En x.B n_hue kz v0] 1)::(acc,Lst (refsOf cs) nv)::(it,ListIt l (j:Int))::(l,Lst (intA L) n1)::g.c F (rcells cs rest)) 0),
 codeAny (MB x.B) A (.compLoop (iE x) 0 (.ref it) (.ref acc) (iEnv x F C D)) R ⟨h,gl,d,t,os⟩
 |[],j,e1,cs,e2,kz,v0,nv,N,t,h,Rp=>by
  have hn:L.length≤j:=List.drop_eq_nil_iff.mp e1
  refine i_end x A hh R F C D acc it l _ _ _ n1 j (by unfold intA;simp;omega) N t h gl d os _ Rp fun h' N' t' Rp=>K _ _ _ cs _ _ _ ?_ Rp
  rwa[List.take_of_length_le hn] at e2
 |(k,u)::L',j,e1,cs,e2,kz,v0,nv,N,t,h,Rp=>by
  have hc:L[j]? =some (k,u):=by
   have:(L.drop j)[0]? =some (k,u):=by rw[e1];rfl
   rwa[List.getElem?_drop,Nat.add_zero] at this
  obtain⟨hi,ec⟩:=List.getElem?_eq_some_iff.mp hc
  have hz:(L.take j).length=j:=by rw[List.length_take];exact zqdr hi
  have bb:=hb (k,u) (List.mem_of_getElem? hc)
  refine i_turn1 x A hh hA R g w hw ha hv F C D acc it l cs (by rw[e2.1,hz];exact zqfH hL hi) (intA L) j n1 nv k u (by unfold intA;simp[hc]) bb.1 bb.2 kz v0 N t h gl d os _ Rp fun h' N' t' c kh nv hc' Rp=>?_
  refine i_loop L' (j+1) (by rw[←List.drop_drop,e1];rfl) (cs++[c]) ?_ _ _ _ N' t' h' (by rw[←rcells_snoc];exact Rp)
  rw[List.take_add_one,hc]
  exact e2.snoc hc'
theorem i_loop0(hne:L≠[])(N t:Nat)(h:Heap)
 (Rp:Rep x.B N h ((D,oD #[] 0)::(acc,Lst #[] 0)::(it,ListIt l ((0:Nat):Int))::(l,Lst (intA L) n1)::g.c F rest) 0):
 codeAny (MB x.B) A (.compLoop (iE x) 0 (.ref it) (.ref acc) (iEnv x F C D)) R ⟨h,gl,d,t,os⟩:=by
 obtain⟨⟨k,u⟩,L',e1⟩:=List.exists_cons_of_ne_nil hne
 have bb:=hb (k,u) (by rw[e1];exact List.mem_cons_self)
 refine i_turn0 x A hh hA R g w hw ha hv F C D acc it l [] (by decide) (intA L) 0 n1 0 k u (by rw[e1];rfl) bb.1 bb.2 N t h gl d os rest Rp fun h' N' t' c kh nv hc' Rp=>?_
 refine i_loop x A hh hA R g w hw ha hv F C D acc it l L hL hb n1 gl d os rest K L' 1 (by rw[e1];rfl) [c] ?_ _ _ _ N' t' h' Rp
 rw[e1]
 exact G.Cols.snoc (L:=[]) (cs:=[]) ⟨rfl,fun i k u e=>by simp at e⟩ hc'
end
theorem Rep.tail{B:Base}{N m:Nat}{h:Heap}{t t':Cells}(pre:Cells)(R:Rep B N h (pre++t) m)(p:t.Perm t'):Rep B N h (pre++t') m:=R.perm (p.append_left pre)
theorem rc_out(cs:List Clr)(X rest:Cells):(rcells cs (X++rest)).Perm (X++rcells cs rest):=List.perm_append_comm_assoc ..
theorem s_turn0(x:W2)(A:Around)(hh:A.handled=none)(hA:A.depth<390)(R:Result→Shared→Prop)(g:G)(w:Int)(hw:g.Wheel w)(ha:Quart g.a)(hv:Quart g.v)(F C acc it so l:Addr)(L:List (Int×Nat))(hL:L.length<100)(hne:L≠[])(hb:∀p∈L,0≤p.1∧p.1<2*g.n)(items:Array Value)(j n0 n1 nv0:Nat)(outs:Array Value)(ho:outs.size≤10)(hj:items[j]? =some (.ref l))(N t:Nat)(h:Heap)(gl d os)(rest:Cells)
 (Rp:Rep x.B N h ((C,oD #[] 0)::(acc,Lst outs nv0)::(it,ListIt so (j:Int))::(so,Lst items n0)::(l,Lst (intA L) n1)::g.c F rest) 0)
 (K:∀h' N' t' p cs kp np,g.Cols L cs→Rep x.B N' h' ((C,oD #[En x.B n_painted kp (.ref l)] 1)::(acc,Lst (outs.push (.ref p)) (nv0+1))::(it,ListIt so ((j+1:Nat):Int))::(so,Lst items n0)::(l,Lst (intA L) n1)::g.c F ((p,Lst (refsOf cs) np)::rcells cs rest)) 0→codeAny (MB x.B) A (.compLoop (sE x) 0 (.ref it) (.ref acc) (sEnv x F C)) R ⟨h',gl,d,t',os⟩):
 codeAny (MB x.B) A (.compLoop (sE x) 0 (.ref it) (.ref acc) (sEnv x F C)) R ⟨h,gl,d,t,os⟩:=by
 refine code_tree ?_
 with_reducible refine seg_callD (by with_unfolding_all exact hh) Rp [] 13 (dA 0x8) [] (cB "list_iterator.__next__" [.ref it]) [] [] 0 0 ?_
 intro Tb1 h1 N1 t1 Rp kk1
 refine li_next Rp 2 3 rfl rfl hj rfl fun hn1 Rp=>?_
 try dsimp only[setN] at Rp
 with_reducible refine seg_callD (by with_unfolding_all exact hh) Rp [] 32 (dA 0x18a04a286086) (dM 15) (.compStart (iE x) 0 (.ref (N1+0)) (.ref (N1+1)) (iEnv x F C (N1+2))) [(N1+2,oD #[] 0),(N1+1,oL #[] 0),(N1+0,oI "list_iterator" #[.ref l,.int 0 0])] [.u fun _=>oD #[En x.B n_painted (t1+0) (.ref l)] 1] 3 1 ?_
 intro Tb2 h2 N2 t2 Rp kk2
 refine comp_start (by rfl') Rp 2 rfl ?_
 have Rp:=((((Rp.mov 7 3).mov 4 10).mov 4 10).mov 4 10).mov 4 10
 refine i_loop0 x (A.under _) hh (by show A.depth+0<400;exact zqds hA) _ g w hw ha hv F C (N1+2) (N1+1) _ l L hL hb n1 gl d os ((C,_)::(acc,_)::(it,_)::(so,_)::rest) (fun h3 N3 t3 cs kz v0 nv hc Rp=>?_) hne _ _ _ Rp
 have Rp:=Rep.tail [_,_,_,_,_,_] Rp (rc_out cs [_,_,_,_] rest)
 show wpAny ..
 with_reducible refine seg_callD (by with_unfolding_all exact hh) Rp [] 16 (dA 0x2186) [] (cB "list.append" [.ref acc,.ref (N1+1)]) [] [.d] 0 0 ?_
 intro Tb4 h4 N4 t4 Rp kk4
 refine l_append (items:=outs) Rp 6 rfl (by exact zqbw ho) rfl fun h5 Rp=>?_
 try dsimp only[setN] at Rp
 with_reducible refine seg_valD (by with_unfolding_all exact hh) Rp [] 11 (dA 0x0) [] (Fin.again (.compLoop (sE x) 0 (.ref it) (.ref acc) (sEnv x F C))) [] [] 0 0 ?_
 intro Tb6 h6 N6 t6 Rp
 exact⟨rfl,K _ _ _ _ cs _ _ hc (((((Rp.mov 0 8).mov 4 0).mov 5 1).mov 6 2).mov 7 3)⟩
theorem s_turn1(x:W2)(A:Around)(hh:A.handled=none)(hA:A.depth<390)(R:Result→Shared→Prop)(g:G)(w:Int)(hw:g.Wheel w)(ha:Quart g.a)(hv:Quart g.v)(F C acc it so l:Addr)(L:List (Int×Nat))(hL:L.length<100)(hne:L≠[])(hb:∀p∈L,0≤p.1∧p.1<2*g.n)(items:Array Value)(j n0 n1 nv0:Nat)(outs:Array Value)(ho:outs.size≤10)(hj:items[j]? =some (.ref l))(kz:Nat)(v0:Value)(N t:Nat)(h:Heap)(gl d os)(rest:Cells)
 (Rp:Rep x.B N h ((C,oD #[En x.B n_painted kz v0] 1)::(acc,Lst outs nv0)::(it,ListIt so (j:Int))::(so,Lst items n0)::(l,Lst (intA L) n1)::g.c F rest) 0)
 (K:∀h' N' t' p cs kp np,g.Cols L cs→Rep x.B N' h' ((C,oD #[En x.B n_painted kp (.ref l)] 1)::(acc,Lst (outs.push (.ref p)) (nv0+1))::(it,ListIt so ((j+1:Nat):Int))::(so,Lst items n0)::(l,Lst (intA L) n1)::g.c F ((p,Lst (refsOf cs) np)::rcells cs rest)) 0→codeAny (MB x.B) A (.compLoop (sE x) 0 (.ref it) (.ref acc) (sEnv x F C)) R ⟨h',gl,d,t',os⟩):
 codeAny (MB x.B) A (.compLoop (sE x) 0 (.ref it) (.ref acc) (sEnv x F C)) R ⟨h,gl,d,t,os⟩:=by
 refine code_tree ?_
 with_reducible refine seg_callD (by with_unfolding_all exact hh) Rp [] 13 (dA 0x8) [] (cB "list_iterator.__next__" [.ref it]) [] [] 0 0 ?_
 intro Tb1 h1 N1 t1 Rp kk1
 refine li_next Rp 2 3 rfl rfl hj rfl fun hn1 Rp=>?_
 try dsimp only[setN] at Rp
 with_reducible refine seg_callD (by with_unfolding_all exact hh) Rp [] 32 (dA 0x18a04a286086) (dM 15) (.compStart (iE x) 0 (.ref (N1+0)) (.ref (N1+1)) (iEnv x F C (N1+2))) [(N1+2,oD #[] 0),(N1+1,oL #[] 0),(N1+0,oI "list_iterator" #[.ref l,.int 0 0])] [.u (dU [(0,.ref l)] [] 1)] 3 1 ?_
 intro Tb2 h2 N2 t2 Rp kk2
 refine comp_start (by rfl') Rp 2 rfl ?_
 have Rp:=((((Rp.mov 7 3).mov 4 10).mov 4 10).mov 4 10).mov 4 10
 refine i_loop0 x (A.under _) hh (by show A.depth+0<400;exact zqds hA) _ g w hw ha hv F C (N1+2) (N1+1) _ l L hL hb n1 gl d os ((C,_)::(acc,_)::(it,_)::(so,_)::rest) (fun h3 N3 t3 cs k3 v3 nv hc Rp=>?_) hne _ _ _ Rp
 have Rp:=Rep.tail [_,_,_,_,_,_] Rp (rc_out cs [_,_,_,_] rest)
 show wpAny ..
 with_reducible refine seg_callD (by with_unfolding_all exact hh) Rp [] 16 (dA 0x2186) [] (cB "list.append" [.ref acc,.ref (N1+1)]) [] [.d] 0 0 ?_
 intro Tb4 h4 N4 t4 Rp kk4
 refine l_append (items:=outs) Rp 6 rfl (by exact zqbw ho) rfl fun h5 Rp=>?_
 try dsimp only[setN] at Rp
 with_reducible refine seg_valD (by with_unfolding_all exact hh) Rp [] 11 (dA 0x0) [] (Fin.again (.compLoop (sE x) 0 (.ref it) (.ref acc) (sEnv x F C))) [] [] 0 0 ?_
 intro Tb6 h6 N6 t6 Rp
 exact⟨rfl,K _ _ _ _ cs _ _ hc (((((Rp.mov 0 8).mov 4 0).mov 5 1).mov 6 2).mov 7 3)⟩
theorem s_end(x:W2)(A:Around)(hh:A.handled=none)(R:Result→Shared→Prop)(F C acc it l:Addr)(co ao:Obj)(items:Array Value)(n j:Nat)(hj:items[j]? =none)(N t:Nat)(h:Heap)(gl d os)(rest:Cells)
 (Rp:Rep x.B N h ((C,co)::(acc,ao)::(it,ListIt l (j:Int))::(l,Lst items n)::rest) 0)
 (K:∀h' N' t',Rep x.B N' h' ((C,co)::(acc,ao)::(l,Lst items n)::rest) 0→R (.ok .next) ⟨h',gl,d,t',os⟩):
 codeAny (MB x.B) A (.compLoop (sE x) 0 (.ref it) (.ref acc) (sEnv x F C)) R ⟨h,gl,d,t,os⟩:=by
 refine code_tree ?_
 with_reducible refine seg_callD (by with_unfolding_all exact hh) Rp [] 13 (dA 0x8) [] (cB "list_iterator.__next__" [.ref it]) [] [] 0 0 ?_
 intro Tb1 h1 N1 t1 Rp kk1
 refine li_end hh Rp 2 3 rfl rfl hj rfl fun h2 N2 a2 e2 Rp=>?_
 with_reducible refine seg_valD (by with_unfolding_all exact hh) Rp [] 12 (dA 0x6) [] (Fin.done Flow.next) [] [.d,.d,.k,.k,.d] 0 0 ?_
 intro Tb3 h3 N3 t3 Rp
 exact K _ _ _ Rp
noncomputable abbrev L1(g:G)(w3 w4:Nat):List (Int×Nat):=[(g.b+g.l,w3),(g.b+g.l,w3),(g.b,w4),(g.b,w4),(g.b,w4),(g.b,w4)]
noncomputable abbrev L2(g:G)(w1 w2:Nat):List (Int×Nat):=[(g.b,w1),(g.b,w1),(g.b,w1),(g.b,w1),(g.b+g.r,w2),(g.b+g.r,w2)]
theorem L1_ok{g:G}{c0 c1 c2 c3:Int}(h:g.Ok c0 c1 c2 c3)(w3 w4:Nat):∀p∈L1 g w3 w4,0≤p.1∧p.1<2*g.n:=by
 have h1:=h.b1
 have h2:=h.b2
 have h3:=h.l1
 have h4:=h.l2
 intro p hp
 simp only[List.mem_cons,List.not_mem_nil,or_false] at hp
 rcases hp with rfl|rfl|rfl|rfl|rfl|rfl<;>dsimp only<;>omega
theorem L2_ok{g:G}{c0 c1 c2 c3:Int}(h:g.Ok c0 c1 c2 c3)(w1 w2:Nat):∀p∈L2 g w1 w2,0≤p.1∧p.1<2*g.n:=by
 have h1:=h.b1
 have h2:=h.b2
 have h3:=h.r1
 have h4:=h.r2
 intro p hp
 simp only[List.mem_cons,List.not_mem_nil,or_false] at hp
 rcases hp with rfl|rfl|rfl|rfl|rfl|rfl<;>dsimp only<;>omega
theorem w2(bb:Bool)(x:W2)(A:Around)(hh:A.handled=none)(hA:A.depth<380)(Q:Flow→Shared→Prop)(F:Addr)(g:G)(c0 c1 c2 c3:Int)(hg:g.Ok c0 c1 c2 c3)(l1 l2 st:Addr)(k w1 w2 w3 w4:Nat)
 (N t:Nat) (h:Heap) (gl d os) (rest:Cells)
 (Rp:Rep x.B N h ((st,oL #[.ref l1,.ref l2] 0)::(l2,Lst (intA (L2 g w1 w2)) 0)::(l1,Lst (intA (L1 g w3 w4)) 0)::(F,g.fr bb x [En x.B n_strings k (.ref st)])::g.c F rest) 0)
 (K:∀h' N' t' sg p1 p2 n0 n1 n2 k cs1 cs2,g.Cols (L1 g w3 w4) cs1→g.Cols (L2 g w1 w2) cs2→Rep x.B N' h' ((sg,Lst #[.ref p1,.ref p2] n0)::(F,g.fr bb x [En x.B n_strings k (.ref sg)])::g.c F ((p1,Lst (refsOf cs1) n1)::(p2,Lst (refsOf cs2) n2)::rcells cs2 (rcells cs1 rest))) 0→wpAny (MB x.B) A (execsZ (bodyOf (fdOf x.B 288) |>.drop 8) (lawE x F)) Q (fun _ _=>False) ⟨h',gl,d,t',os⟩):
 wpAny (MB x.B) A (execsZ (bodyOf (fdOf x.B 288) |>.drop 7) (lawE x F)) Q (fun _ _=>False) ⟨h,gl,d,t,os⟩:=by
 let sb:=bb
 cases bb
 all_goals
  obtain⟨w,hw⟩:=hg.wheel
  refine cut 1 ?_
  with_reducible refine seg_callD (by with_unfolding_all exact hh) Rp [] 27 (dA 0x186046189) (dM 15) (.compStart (sE x) 0 (.ref (N+0)) (.ref (N+1)) (sEnv x F (N+2))) [(N+2,oD #[] 0),(N+1,oL #[] 0),(N+0,oI "list_iterator" #[.ref st,.int 0 0])] [] 3 0 ?_
  intro Tb1 h1 N1 t1 Rp kk1
  refine comp_start (by rfl') Rp 2 rfl ?_
  refine s_turn0 x A hh (by exact zqdt hA) _ g w hw hg.a1 hg.v1 F (N+2) (N+1) _ st l1 (L1 g w3 w4) (by show 6<100;decide) (by simp) (L1_ok hg w3 w4) #[.ref l1,.ref l2] 0 0 0 0 #[] (by decide) rfl _ _ _ _ _ _ _ (((Rp.mov 5 4).mov 5 9).mov 5 9) fun h2 N2 t2 p1 cs1 kp1 np1 hc1 Rp=>?_
  have Rp:=Rep.tail [_,_,_,_,_,_,_,_,_] Rp (rc_out cs1 [_,_] rest)
  refine s_turn1 x A hh (by exact zqdt hA) _ g w hw hg.a1 hg.v1 F (N+2) (N+1) _ st l2 (L2 g w1 w2) (by show 6<100;decide) (by simp) (L2_ok hg w1 w2) #[.ref l1,.ref l2] 1 0 0 _ _ (by show 1≤10;decide) rfl _ _ _ _ _ _ _ _ _ ((Rp.mov 9 4).mov 5 8) fun h3 N3 t3 p2 cs2 kp2 np2 hc2 Rp=>?_
  have Rp:=Rep.tail [_,_,_,_,_,_,_,_,_] Rp (rc_out cs2 [_,_,_] _)
  refine s_end x A hh _ F (N+2) (N+1) _ st _ _ #[.ref l1,.ref l2] 0 2 rfl _ _ _ _ _ _ _ Rp fun h4 N4 t4 Rp=>?_
  show wpAny ..
  with_reducible refine seg_valD (by with_unfolding_all exact hh) Rp [] 24 (dA 0x2186310) [] Flow.next [] [.d,.k,.d,.d,.k,.k,.k,.k,.d,.k,.u (dW [En x.B n_strings k (.ref (N+1))])] 0 1 ?_
  intro Tb5 h5 N5 t5 Rp
  exact K _ _ _ _ _ _ _ _ _ _ cs1 cs2 hc1 hc2 ((Rp.mov 6 1).mov 6 5)
noncomputable abbrev hidT(w:Nat→Nat):Obj:=⟨.type "tuple",none,.seq #[.str (S (hid 0)) (w 0),.str (S (hid 1)) (w 1),.str (S (hid 2)) (w 2),.str (S (hid 3)) (w 3)] 0,#[]⟩
section
variable (x:W2) {A:Around} {R:Result→Shared→Prop} {h:Heap} {gl:Array GenState} {d:Drawn} {t:Nat} {os:OsState} {N:Nat} {tab:Cells}
theorem s_addH(hh:A.handled=none)(Rp:Rep x.B N h tab 0){r:Nat}(hr:r<4){c:Nat}(hc:c=40∨c=41){u v:Nat}
 (K:∀h' N' t' v,Rep x.B N' h' tab 0→R (.ok (.ret (.str (S (hid r++[c])) v))) ⟨h',gl,d,t',os⟩):
 codeAny (MB x.B) A (.call (.builtin "str.__add__") ⟨[.str (S (hid r)) u,.str (S [c]) v],[]⟩) R ⟨h,gl,d,t,os⟩:=
 seg_code hh Rp [] 13 [] [] (.ok (.ret (.str (S (hid r++[c])) (match r with|0=>v|_=>t+0)))) tab 0 (match r with|0=>0|_=>1) (by
  rcases hc with rfl|rfl<;>obtain rfl|rfl|rfl|rfl:r=0∨r=1∨r=2∨r=3:=by exact zqbd hr
  all_goals rfl') aN fun _ _ _ Rp=>K _ _ _ _ Rp
theorem t_hid(hh:A.handled=none){a:Addr}{w:Nat→Nat}{r u:Nat}(hr:r<4)(Rp:Rep x.B N h ((a,hidT w)::tab) 0)
 (K:∀h' N' t',Rep x.B N' h' ((a,hidT w)::tab) 0→R (.ok (.ret (.str (S (hid r)) (w r)))) ⟨h',gl,d,t',os⟩):
 codeAny (MB x.B) A (.call (.builtin "tuple.__getitem__") ⟨[.ref a,.int r u],[]⟩) R ⟨h,gl,d,t,os⟩:=
 seg_code hh Rp [] 14 [5,5] [true] (.ok (.ret (.str (S (hid r)) (w r)))) ((a,hidT w)::tab) 0 0 (by
  obtain rfl|rfl|rfl|rfl:r=0∨r=1∨r=2∨r=3:=by exact zqbd hr
  all_goals rfl') aN fun _ _ _ Rp=>K _ _ _ Rp
end
noncomputable abbrev strA(ws:List (List Nat×Nat)):Array Value:=(ws.map fun p=>Value.str (S p.1) p.2).toArray
noncomputable def pcN(s:Nat):Nat→List Nat→List (List Nat)
 |_,[]=>[]
 |i,c::l=>(hid ((s+i)%4)++[c])::pcN s (i+1) l
theorem strA_push(ws:List (List Nat×Nat))(l:List Nat)(v:Nat):(strA ws).push (.str (S l) v)=strA (ws++[(l,v)]):=by
 unfold strA;simp
theorem strA_size(ws:List (List Nat×Nat)):(strA ws).size=ws.length:=by unfold strA;simp
theorem pcN_snoc(s:Nat)(c:Nat):∀(i:Nat) (l:List Nat),pcN s i (l++[c])=pcN s i l++[hid ((s+(i+l.length))%4)++[c]]
 |i,[]=>by simp[pcN]
 |i,a::l=>by
  show _::pcN s (i+1) (l++[c])=_
  rw[pcN_snoc s c (i+1) l,List.length_cons,show i+1+l.length=i+(l.length+1) from by omega]
  rfl
theorem pcN_nm{s r:Nat}(hs:s<4)(hr:r<5):joinL (pcN s 0 (rowL r))=nm s r:=
 eqL_eq (all20 (p:=fun s r=>eqL (joinL (pcN s 0 (rowL r))) (nm s r)) (by rfl') hs hr)
theorem rowL_len{r:Nat}(hr:r<5):(rowL r).length=6:=by
 rcases(by exact zqae hr:r=0∨r=1∨r=2∨r=3∨r=4) with rfl|rfl|rfl|rfl|rfl<;>rfl
theorem rowL_par{r:Nat}(hr:r<5):∀c∈rowL r,c=40∨c=41:=by
 rcases(by exact zqae hr:r=0∨r=1∨r=2∨r=3∨r=4) with rfl|rfl|rfl|rfl|rfl<;>decide
theorem en_callS{B:Base}{A:Around}{R:Result→Shared→Prop}{h:Heap}{gl:Array GenState}{d:Drawn}{t:Nat}{os:OsState}{N u:Nat}{tab:Cells}{l:List Nat}(hh:A.handled=none)(hl:Asc l)(Rp:Rep B N h tab 0)
 (K:∀h' N' t' e it,Rep B N' h' ((e,EnumO .none (.ref it) 0 .none)::(it,SIt l u 0)::tab) 0→R (.ok (.ret (.ref e))) ⟨h',gl,d,t',os⟩):codeAny (MB B) A (.call (.type "enumerate") ⟨[.str (S l) u],[]⟩) R ⟨h,gl,d,t,os⟩:=by
 refine code_tree ?_
 with_reducible refine seg_valD (by with_unfolding_all exact hh) Rp [] 11 (dA 0x0) [] (Fin.again (.builtin "type.__call__" ⟨[.type "enumerate",.str (S l) u],[]⟩)) [] [] 0 0 ?_
 intro Tb1 h1 N1 t1 Rp
 refine⟨Code.quiet_builtin _ (by decide+kernel),code_tree ?_⟩
 with_reducible refine seg_callD (by with_unfolding_all exact hh) Rp [] 11 (dA 0x0) [] (cB "enumerate.__new__" [.type "enumerate",.str (S l) u]) [] [] 0 0 ?_
 intro Tb2 h2 N2 t2 Rp kk2
 refine en_newS hh hl Rp fun hx Nx tx e it Rp=>?_
 show wpAny ..
 with_reducible refine seg_valD (by with_unfolding_all exact hh) Rp [] 18 (dA 0x6181186) [] (Fin.done (Flow.ret (.ref e))) [] [] 0 0 ?_
 intro Tb3 h3 N3 t3 Rp
 exact K _ _ _ _ _ Rp
noncomputable def pcE(x:W2):Expr:=compE (stmtAt x.B 264 1)
noncomputable abbrev pcEnv(x:W2)(F c1 c2 C:Addr):Env:=cenvOf (envC (envOf (fdOf x.B 264) 264 F) [(n_hidden,c2),(n_shift,c1)]) (pcE x) C [(n_shift,c1),(n_hidden,c2)]
theorem pc1(x:W2)(A:Around)(hh:A.handled=none)(R:Result→Shared→Prop)(F c1 c2 C acc e it T:Addr)(l:List Nat)(w:Nat→Nat)(i c s u us nv:Nat)(old:Value)(hc:l[i]? =some c)(hp:c=40∨c=41)(ws:List (List Nat×Nat))(hw:ws.length<100)(gl d os)(N t:Nat)(h:Heap)(rest:Cells)
 (Rp:Rep x.B N h ((e,EnumO .none (.ref it) (i:Int) old)::(it,SIt l u (i:Int))::(T,hidT w)::(C,oD #[] 0)::(acc,Lst (strA ws) nv)::(c2,oC (some (.ref T)))::(c1,oC (some (.int (s:Int) us)))::rest) 0)
 (K:∀h' N' t' old v nv k0 k1 v0 v1,Rep x.B N' h' ((e,EnumO .none (.ref it) ((i+1:Nat):Int) old)::(it,SIt l u ((i+1:Nat):Int))::(T,hidT w)::(C,oD #[En x.B n_place k0 v0,En x.B n_sign k1 v1] 2)::(acc,Lst (strA (ws++[(hid ((s+i)%4)++[c],v)])) nv)::(c2,oC (some (.ref T)))::(c1,oC (some (.int (s:Int) us)))::rest) 0→codeAny (MB x.B) A (.compLoop (pcE x) 0 (.ref e) (.ref acc) (pcEnv x F c1 c2 C)) R ⟨h',gl,d,t',os⟩):
 codeAny (MB x.B) A (.compLoop (pcE x) 0 (.ref e) (.ref acc) (pcEnv x F c1 c2 C)) R ⟨h,gl,d,t,os⟩:=by
 obtain⟨k,hk⟩:∃k,(s+i)%4=k:=⟨_,rfl⟩
 have hk4:k<4:=by exact zqdu hk
 refine comp_turn (by rfl') (pyNext_of ⟨_,Rp.at (n:=0) rfl,rfl⟩ PySem.F.slot_enumerate_next (en_next hh old Rp hc fun h7 N7 t7 a7 v7 w7 Rp=>?_))
 refine let_enum (by rfl') Rp 1 rfl rfl fun h8 Rp=>?_
 try dsimp only[setN] at Rp
 with_reducible refine seg_valD (by with_unfolding_all exact hh) Rp [] 71 (dA 0x93493460861c61860460861c61860460861c6186046186046186) (dM 8) () [] [.d,.k,.k,.k,.u fun _=>oD #[En x.B n_place (t7+0) (.int (↑i) v7),En x.B n_sign (t7+1) (.str (S [c]) w7)] 2] 3 2 ?_
 intro Tb1 h1 N1 t1 Rp
 show wpAny _ _ (evalZ _ _) _ _ _
 refine seg_callD hh Rp [aI "int.__mod__" [.int (↑s+↑i) (t1+0),.int 4 (t1+1)] ((k:Int))] 29 (dA 0x20820204930b) [] (cB "tuple.__getitem__" [.ref T,.int (↑k) (t1+2)]) [] [] 0 3 ?_ (aC (fun _ _ _ _ _ _ _ K=>i_mod (B:=x.B) (i:=((↑s+↑i))) (j:=(4)) (c:=(k:Int)) (by decide) (by rw[Int.fmod_eq_emod_of_nonneg _ (by decide)];exact zqdv hk) K) aN)
 intro Tb2 h2 N2 t2 Rp kk2
 have Rp:=Rp.mov 2 0
 refine t_hid x hh hk4 Rp fun h' N' t' Rp=>?_
 with_reducible refine seg_callD (by with_unfolding_all exact hh) Rp [] 15 (dA 0x9) [] (cB "str.__add__" [.str (S (hid k)) (w k),.str (S [c]) w7]) [] [] 0 0 ?_
 intro Tb3 h3 N3 t3 Rp kk3
 refine s_addH x hh Rp hk4 hp fun h' N' t' v Rp=>?_
 show wpAny ..
 with_reducible refine seg_valD (by with_unfolding_all exact hh) Rp [] 11 (dA 0x0) [] (.str (S (hid k++[c])) v) [] [] 0 0 ?_
 intro Tb4 h4 N4 t4 Rp
 show wpAny ..
 with_reducible refine seg_callD (by with_unfolding_all exact hh) Rp [] 11 (dA 0x0) [] (cB "list.append" [.ref acc,.str (S (hid k++[c])) v]) [] [] 0 0 ?_
 intro Tb5 h5 N5 t5 Rp kk5
 refine l_append Rp 4 rfl (by rw[strA_size];exact zqaU hw) rfl fun ha1 Rp=>?_
 try dsimp only[setN] at Rp
 with_reducible refine seg_valD (by with_unfolding_all exact hh) Rp [] 11 (dA 0x0) [] .none [] [] 0 0 ?_
 intro Tb6 h6 N6 t6 Rp
 have Rp:=Rp.mov 0 2
 exact K _ _ _ _ _ _ _ _ _ _ (by rw[hk,←strA_push];exact Rp)
theorem pc2(x:W2)(A:Around)(hh:A.handled=none)(R:Result→Shared→Prop)(F c1 c2 C acc e it T:Addr)(l:List Nat)(w:Nat→Nat)(i c s u us nv:Nat)(old:Value)(hc:l[i]? =some c)(hp:c=40∨c=41)(ws:List (List Nat×Nat))(hw:ws.length<100)(k0 k1:Nat)(v0 v1:Value)(gl d os)(N t:Nat)(h:Heap)(rest:Cells)
 (Rp:Rep x.B N h ((e,EnumO .none (.ref it) (i:Int) old)::(it,SIt l u (i:Int))::(T,hidT w)::(C,oD #[En x.B n_place k0 v0,En x.B n_sign k1 v1] 2)::(acc,Lst (strA ws) nv)::(c2,oC (some (.ref T)))::(c1,oC (some (.int (s:Int) us)))::rest) 0)
 (K:∀h' N' t' old v nv k0 k1 v0 v1,Rep x.B N' h' ((e,EnumO .none (.ref it) ((i+1:Nat):Int) old)::(it,SIt l u ((i+1:Nat):Int))::(T,hidT w)::(C,oD #[En x.B n_place k0 v0,En x.B n_sign k1 v1] 2)::(acc,Lst (strA (ws++[(hid ((s+i)%4)++[c],v)])) nv)::(c2,oC (some (.ref T)))::(c1,oC (some (.int (s:Int) us)))::rest) 0→codeAny (MB x.B) A (.compLoop (pcE x) 0 (.ref e) (.ref acc) (pcEnv x F c1 c2 C)) R ⟨h',gl,d,t',os⟩):
 codeAny (MB x.B) A (.compLoop (pcE x) 0 (.ref e) (.ref acc) (pcEnv x F c1 c2 C)) R ⟨h,gl,d,t,os⟩:=by
 obtain⟨k,hk⟩:∃k,(s+i)%4=k:=⟨_,rfl⟩
 have hk4:k<4:=by exact zqdu hk
 refine comp_turn (by rfl') (pyNext_of ⟨_,Rp.at (n:=0) rfl,rfl⟩ PySem.F.slot_enumerate_next (en_next hh old Rp hc fun h7 N7 t7 a7 v7 w7 Rp=>?_))
 refine let_enum (by rfl') Rp 1 rfl rfl fun h8 Rp=>?_
 try dsimp only[setN] at Rp
 with_reducible refine seg_valD (by with_unfolding_all exact hh) Rp [] 71 (dA 0x93493460861c61860460861c61860460861c6186046186046186) (dM 8) () [] [.d,.k,.k,.k,.u (dU [(0,.int (↑i) v7),(1,.str (S [c]) w7)] [] 2)] 3 2 ?_
 intro Tb1 h1 N1 t1 Rp
 show wpAny _ _ (evalZ _ _) _ _ _
 refine seg_callD hh Rp [aI "int.__mod__" [.int (↑s+↑i) (t1+0),.int 4 (t1+1)] ((k:Int))] 29 (dA 0x20820204930b) [] (cB "tuple.__getitem__" [.ref T,.int (↑k) (t1+2)]) [] [] 0 3 ?_ (aC (fun _ _ _ _ _ _ _ K=>i_mod (B:=x.B) (i:=((↑s+↑i))) (j:=(4)) (c:=(k:Int)) (by decide) (by rw[Int.fmod_eq_emod_of_nonneg _ (by decide)];exact zqdv hk) K) aN)
 intro Tb2 h2 N2 t2 Rp kk2
 have Rp:=Rp.mov 2 0
 refine t_hid x hh hk4 Rp fun h' N' t' Rp=>?_
 with_reducible refine seg_callD (by with_unfolding_all exact hh) Rp [] 15 (dA 0x9) [] (cB "str.__add__" [.str (S (hid k)) (w k),.str (S [c]) w7]) [] [] 0 0 ?_
 intro Tb3 h3 N3 t3 Rp kk3
 refine s_addH x hh Rp hk4 hp fun h' N' t' v Rp=>?_
 show wpAny ..
 with_reducible refine seg_valD (by with_unfolding_all exact hh) Rp [] 11 (dA 0x0) [] (.str (S (hid k++[c])) v) [] [] 0 0 ?_
 intro Tb4 h4 N4 t4 Rp
 show wpAny ..
 with_reducible refine seg_callD (by with_unfolding_all exact hh) Rp [] 11 (dA 0x0) [] (cB "list.append" [.ref acc,.str (S (hid k++[c])) v]) [] [] 0 0 ?_
 intro Tb5 h5 N5 t5 Rp kk5
 refine l_append Rp 4 rfl (by rw[strA_size];exact zqaU hw) rfl fun ha1 Rp=>?_
 try dsimp only[setN] at Rp
 with_reducible refine seg_valD (by with_unfolding_all exact hh) Rp [] 11 (dA 0x0) [] .none [] [] 0 0 ?_
 intro Tb6 h6 N6 t6 Rp
 have Rp:=Rp.mov 0 2
 exact K _ _ _ _ _ _ _ _ _ _ (by rw[hk,←strA_push];exact Rp)
theorem pc_end(x:W2)(A:Around)(hh:A.handled=none)(R:Result→Shared→Prop)(F c1 c2 C acc e it T:Addr)(l:List Nat)(i u:Nat)(old:Value)(hc:l[i]? =none)(gl d os)(N t:Nat)(h:Heap)(rest:Cells)
 (Rp:Rep x.B N h ((e,EnumO .none (.ref it) (i:Int) old)::(it,SIt l u (i:Int))::rest) 0)
 (K:∀h' N' t' z,Rep x.B N' h' (z::rest) 0→R (.ok .next) ⟨h',gl,d,t',os⟩):
 codeAny (MB x.B) A (.compLoop (pcE x) 0 (.ref e) (.ref acc) (pcEnv x F c1 c2 C)) R ⟨h,gl,d,t,os⟩:=by
 refine comp_turn (by rfl') (pyNext_of ⟨_,Rp.at (n:=0) rfl,rfl⟩ PySem.F.slot_enumerate_next (en_next_end hh old Rp hc fun h7 N7 t7 a7 e7 Rp=>⟨⟨_,Rp.at (n:=0) rfl,rfl⟩,?_⟩))
 exact K _ _ _ _ Rp
section
variable (x:W2) (A:Around) (hh:A.handled=none) (R:Result→Shared→Prop) (F c1 c2 C acc e it T:Addr) (l:List Nat) (hp:∀c∈l,c=40∨c=41) (hl:l.length<100) (w:Nat→Nat) (s u us:Nat) (gl:Array GenState) (d:Drawn) (os:OsState) (rest:Cells)
 (K:∀h' N' t' z k0 k1 v0 v1 ws nv,ws.map (·.1)=pcN s 0 l→Rep x.B N' h' (z::(T,hidT w)::(C,oD #[En x.B n_place k0 v0,En x.B n_sign k1 v1] 2)::(acc,Lst (strA ws) nv)::(c2,oC (some (.ref T)))::(c1,oC (some (.int (s:Int) us)))::rest) 0→R (.ok .next) ⟨h',gl,d,t',os⟩)
include hh hp hl K
theorem pc_loop:∀(l':List Nat) (i:Nat) (_:l.drop i=l') (old:Value) (ws:List (List Nat×Nat)) (_:ws.map (·.1)=pcN s 0 (l.take i)) (k0 k1:Nat) (v0 v1:Value) (nv N t:Nat) (h:Heap)
 (_:Rep x.B N h ((e,EnumO .none (.ref it) (i:Int) old)::(it,SIt l u (i:Int))::(T,hidT w)::(C,oD #[En x.B n_place k0 v0,En x.B n_sign k1 v1] 2)::(acc,Lst (strA ws) nv)::(c2,oC (some (.ref T)))::(c1,oC (some (.int (s:Int) us)))::rest) 0),
 codeAny (MB x.B) A (.compLoop (pcE x) 0 (.ref e) (.ref acc) (pcEnv x F c1 c2 C)) R ⟨h,gl,d,t,os⟩
 |[],i,e1,old,ws,e2,k0,k1,v0,v1,nv,N,t,h,Rp=>by
  have hn:l.length≤i:=List.drop_eq_nil_iff.mp e1
  refine pc_end x A hh R F c1 c2 C acc e it T l i u old (List.getElem?_eq_none hn) gl d os N t h _ Rp fun h' N' t' z Rp=>K _ _ _ _ _ _ _ _ _ _ ?_ Rp
  rw[e2,List.take_of_length_le hn]
 |c::l',i,e1,old,ws,e2,k0,k1,v0,v1,nv,N,t,h,Rp=>by
  have hc:l[i]? =some c:=by
   have:(l.drop i)[0]? =some c:=by rw[e1];rfl
   rwa[List.getElem?_drop,Nat.add_zero] at this
  obtain⟨hi,ec⟩:=List.getElem?_eq_some_iff.mp hc
  have hz:(l.take i).length=i:=by rw[List.length_take];exact zqdr hi
  have hw:ws.length=i:=by
   have:=congrArg List.length e2
   rw[List.length_map] at this
   rw[this]
   clear this e2 Rp
   have:∀(l:List Nat) (i:Nat),(pcN s i l).length=l.length:=by
    intro l;induction l with
    |nil=>intro i;rfl
    |cons a l ih=>intro i;show(pcN s (i+1) l).length+1=_;rw[ih];rfl
   rw[this,hz]
  refine pc2 x A hh R F c1 c2 C acc e it T l w i c s u us nv old hc (hp c (List.mem_of_getElem? hc)) ws (by exact zqfI hl hi hw) k0 k1 v0 v1 gl d os N t h rest Rp fun h' N' t' old v nv k0 k1 v0 v1 Rp=>?_
  refine pc_loop l' (i+1) ?_ old _ ?_ k0 k1 v0 v1 nv N' t' h' Rp
  ·rw[←List.drop_drop,e1];rfl
  ·rw[List.take_add_one,hc,List.map_append,e2]
   show _=pcN s 0 (l.take i++[c])
   rw[pcN_snoc,hz,Nat.zero_add]
   rfl
theorem pc_loop0(hne:l≠[])(old:Value)(nv N t:Nat)(h:Heap)
 (Rp:Rep x.B N h ((e,EnumO .none (.ref it) 0 old)::(it,SIt l u 0)::(T,hidT w)::(C,oD #[] 0)::(acc,Lst #[] nv)::(c2,oC (some (.ref T)))::(c1,oC (some (.int (s:Int) us)))::rest) 0):
 codeAny (MB x.B) A (.compLoop (pcE x) 0 (.ref e) (.ref acc) (pcEnv x F c1 c2 C)) R ⟨h,gl,d,t,os⟩:=by
 obtain⟨c,l',e1⟩:=List.exists_cons_of_ne_nil hne
 have hc:l[0]? =some c:=by rw[e1];rfl
 refine pc1 x A hh R F c1 c2 C acc e it T l w 0 c s u us nv old hc (hp c (List.mem_of_getElem? hc)) [] (by decide) gl d os N t h rest Rp fun h' N' t' old v nv k0 k1 v0 v1 Rp=>?_
 refine pc_loop x A hh R F c1 c2 C acc e it T l hp hl w s u us gl d os rest K l' 1 (by rw[e1];rfl) old _ ?_ k0 k1 v0 v1 nv N' t' h' Rp
 rw[e1];rfl
end
theorem pieces(x:W2)(A:Around)(hh:A.handled=none)(hA:A.depth<490)(R:Result→Shared→Prop)(l:List Nat)(hp:∀c∈l,c=40∨c=41)(hl:l.length<100)(hne:l≠[])(s:Nat)(u us:Nat)(cs:Cells)(gl d os)(N t:Nat)(h:Heap)
 (Rp:Rep x.B N h cs 0)
 (K:∀h' N' t' a ws n,ws.map (·.1)=pcN s 0 l→Rep x.B N' h' ((a,Lst (strA ws) n)::cs) 0→R (.ok (.ret (.ref a))) ⟨h',gl,d,t',os⟩):
 codeAny (MB x.B) A (.call (.ref 264) ⟨[.str (S l) u,.int (s:Int) us],[]⟩) R ⟨h,gl,d,t,os⟩:=by
 have hasc:Asc l:=fun c hc=>by rcases hp c hc with rfl|rfl<;>decide
 refine enterD hh Rp (by exact zqav hA) 22 (dA 0xc7108041) (bodyOf (fdOf x.B 264)) (envC (envOf (fdOf x.B 264) 264 (N+0)) [(n_hidden,N+2),(n_shift,N+1)]) [(N+2,oC none),(N+1,oC (some (.int (↑s) us))),(N+0,oF #[En x.B n_row (t+0) (.str (S l) u)] 1)] 3 1 (by rfl') ?_
 intro Tb1 h1 N1 t1 Rp
 refine cut 1 ?_
 with_reducible refine seg_valD (by with_unfolding_all exact hh) Rp [] 23 (dA 0xc7) (dM 3) Flow.next [(N1+0,oT #[.str (S []) (t1+0),.str (S [92,41]) (t1+1),.str n_x (t1+2),.str (S [34,92,34,40,34]) (t1+3)])] [.u fun _=>oC (some (.ref (N1+0)))] 1 4 ?_
 intro Tb2 h2 N2 t2 Rp
 show wpAny _ _ (execsZ ..) ..
 with_reducible refine seg_callD (by with_unfolding_all exact hh) Rp [] 18 (dA 0x9041) [] (.call (.type "enumerate") ⟨[.str (S l) u],[]⟩) [] [] 0 0 ?_
 intro Tb3 h3 N3 t3 Rp kk3
 refine en_callS hh hasc Rp fun h' N' t' e it Rp=>?_
 with_reducible refine seg_callD (by with_unfolding_all exact hh) Rp [] 23 (dA 0x6181186) (dM 7) (.compStart (pcE x) 0 (.ref e) (.ref (N'+0)) (pcEnv x (N+0) (N+1) (N+2) (N'+1))) [(N'+1,oD #[] 0),(N'+0,oL #[] 0)] [] 2 0 ?_
 intro Tb4 h4 N4 t4 Rp kk4
 refine comp_startE (by rfl') Rp 2 rfl ?_
 have Rp:=(Rp.mov 0 4).mov 0 4
 refine pc_loop0 x (A.under _) hh _ (N+0) (N+1) (N+2) (N'+1) (N'+0) e it _ l hp hl (fun i=>t1+i) s u us gl d os _ (fun h9 N9 t9 z k0 k1 v0 v1 ws nv hws Rp=>?_) hne _ _ _ _ _ Rp
 obtain⟨z,zo⟩:=z
 show wpAny ..
 with_reducible refine seg_valD (by with_unfolding_all exact hh) Rp [] 21 (dA 0x108204208) [] (Flow.ret (.ref (N'+0))) [] [.d,.d,.d,.k,.d,.d,.d] 0 0 ?_
 intro Tb5 h5 N5 t5 Rp
 exact K _ _ _ _ _ _ hws Rp
noncomputable def segL(s r lo hi:Nat):List (List Nat):=((pcN s 0 (rowL r)).drop lo).take (hi+1-lo)
noncomputable def segN(s r lo hi:Nat):List Nat:=joinL (segL s r lo hi)
noncomputable def jOk(ls:List (List Nat)):Bool:=Nat.ble (joinL ls).length 1000&& !(Builtin.Str.tooLong ((ls.map S).toArray.foldl (·+·.length+(S []).length) 0))
theorem s_joinL{B:Base}{A:Around}{R:Result→Shared→Prop}{h:Heap}{gl:Array GenState}{d:Drawn}{t:Nat}{os:OsState}{N u:Nat}{tab:Cells}(Rp:Rep B N h tab 0)(i n:Nat)(ws:List (List Nat×Nat)){ls:List (List Nat)}(a:Addr)(hx:nth tab i=some (a,Lst (strA ws) n))(hl:ws.map (·.1)=ls)(ho:jOk ls=true)
 (K:∀t' tok,R (.ok (.ret (.str (S (joinL ls)) tok))) ⟨h,gl,d,t',os⟩):codeAny (MB B) A (.call (.builtin "str.join") ⟨[.str (S []) u,.ref a],[]⟩) R ⟨h,gl,d,t,os⟩:=by
 subst hl
 unfold jOk at ho
 simp only[Bool.and_eq_true,Bool.not_eq_true'] at ho
 refine s_join Rp i n ws a hx (Nat.le_trans (Nat.le_of_ble_eq_true ho.1) (by decide)) ?_ K
 have e:((ws.map fun p=>(S p.1,p.2)).map (·.1))=(ws.map (·.1)).map S:=by simp[Function.comp_def]
 rw[e]
 exact ho.2
noncomputable def chkN(s r lo hi:Nat):Bool:=checkP (segN s r lo hi)
noncomputable def farsN(p:Nat):List Nat:=match p with
 |0=>[1,3,5]
 |1=>[2,4,0]
 |2=>[3,5,1]
 |3=>[4,2,0]
 |4=>[5,3,1]
 |_=>[4,2,0]
noncomputable def firstN(s r p:Nat)(l:List Nat):Nat:=match l with
 |[]=>p
 |f::l=>match chkN s r (min p f) (max p f) with
  |true=>f
  |false=>firstN s r p l
noncomputable def mateT(r p:Nat):Nat:=match r with
 |0=>match p with
  |0=>1
  |1=>0
  |2=>3
  |3=>2
  |4=>5
  |_=>4
 |1=>match p with
  |0=>3
  |1=>2
  |2=>1
  |3=>0
  |4=>5
  |_=>4
 |2=>match p with
  |0=>1
  |1=>0
  |2=>5
  |3=>4
  |4=>3
  |_=>2
 |3=>match p with
  |0=>5
  |1=>2
  |2=>1
  |3=>4
  |4=>3
  |_=>0
 |_=>match p with
  |0=>5
  |1=>4
  |2=>3
  |3=>2
  |4=>1
  |_=>0
theorem mate_first{s r p:Nat}(hs:s<4)(hr:r<5)(hp:p<6):firstN s r p (farsN p)=mateT r p:=by
 have h:=all20 (p:=fun s r=>(List.range 6).all fun p=>Nat.beq (firstN s r p (farsN p)) (mateT r p)) (by rfl') hs hr
 exact Nat.eq_of_beq_eq_true (List.all_eq_true.mp h p (List.mem_range.mpr hp))
theorem seg_ok{s r lo hi:Nat}(hs:s<4)(hr:r<5)(hl:lo<6)(hi':hi<6):(okC (segN s r lo hi)&&jOk (segL s r lo hi))=true:=by
 have h:=all20 (p:=fun s r=>(List.range 6).all fun lo=>(List.range 6).all fun hi=>okC (segN s r lo hi)&&jOk (segL s r lo hi)) (by rfl') hs hr
 exact List.all_eq_true.mp (List.all_eq_true.mp h lo (List.mem_range.mpr hl)) hi (List.mem_range.mpr hi')
theorem slice6{ws:List (List Nat×Nat)}(hw:ws.length=6){lo hi:Nat}(h1:lo≤hi)(h2:hi<6):slicePick (strA ws) (some (lo:Int)) (some ((hi:Int)+1)) none=strA ((ws.drop lo).take (hi+1-lo)):=by
 match ws,hw with
 |[a,b,c,d,e,f],_=>
  rcases(by exact zqaW h2:hi=0∨hi=1∨hi=2∨hi=3∨hi=4∨hi=5) with rfl|rfl|rfl|rfl|rfl|rfl<;>
  rcases(by omega:lo=0∨lo=1∨lo=2∨lo=3∨lo=4∨lo=5) with rfl|rfl|rfl|rfl|rfl|rfl<;>first|rfl|(exfalso;omega)
theorem En_hash(B:Base){n:Str}(h:n.cps.isEmpty=false)(t:Tok)(v:Value):(En B n t v).hash=hashStr B.w n:=by
 unfold hashStr
 rw[if_neg (by rw[h];decide)]
 exact(congrFun PySem.W.ZFast.ze12210062019545310541 _).symm
noncomputable abbrev rowE(B:Base)(s i:Nat)(ks us:Nat→Nat):DictEntry:=En B (S (rowL i)) (ks i) (.str (S (nm s i)) (us i))
noncomputable def namesA(B:Base)(s:Nat)(ks us:Nat→Nat)(j:Nat):Array DictEntry:=match j with
 |0=>#[]
 |1=>#[rowE B s 0 ks us]
 |2=>#[rowE B s 0 ks us,rowE B s 1 ks us]
 |3=>#[rowE B s 0 ks us,rowE B s 1 ks us,rowE B s 2 ks us]
 |4=>#[rowE B s 0 ks us,rowE B s 1 ks us,rowE B s 2 ks us,rowE B s 3 ks us]
 |_=>#[rowE B s 0 ks us,rowE B s 1 ks us,rowE B s 2 ks us,rowE B s 3 ks us,rowE B s 4 ks us]
noncomputable abbrev namesO(B:Base)(s:Nat)(ks us:Nat→Nat)(j:Nat):Obj:=⟨.type "dict",none,.dict (namesA B s ks us j) j,#[]⟩
theorem five{P:Nat→Prop}{j:Nat}(hj:j<5)(h0:P 0)(h1:P 1)(h2:P 2)(h3:P 3)(h4:P 4):P j:=by
 rcases(by exact zqae hj:j=0∨j=1∨j=2∨j=3∨j=4) with rfl|rfl|rfl|rfl|rfl<;>assumption
theorem rowE_key(B:Base)(s i:Nat)(hi:i<5)(ks us:Nat→Nat):∃k,(PySem.strKind B.prog B.w).is k (rowE B s i ks us).key=true∧(rowE B s i ks us).hash=(PySem.strKind B.prog B.w).hash k:=by
 refine⟨S (rowL i),by simp[PySem.strKind,Value.isStrOf,rowE,En],En_hash B ?_ _ _⟩
 exact five (P:=fun i=>(S (rowL i)).cps.isEmpty=false) hi rfl rfl rfl rfl rfl
theorem names_keys(B:Base)(s:Nat)(ks us:Nat→Nat)(j:Nat):KeysOf (PySem.strKind B.prog B.w) (namesA B s ks us j):=by
 intro e he
 unfold namesA at he
 split at he<;>simp only[List.mem_toArray,List.mem_cons,List.not_mem_nil,or_false] at he
 ·subst he;exact rowE_key B s 0 (by decide) ks us
 ·rcases he with rfl|rfl<;>exact rowE_key B s _ (by decide) ks us
 ·rcases he with rfl|rfl|rfl<;>exact rowE_key B s _ (by decide) ks us
 ·rcases he with rfl|rfl|rfl|rfl<;>exact rowE_key B s _ (by decide) ks us
 ·rcases he with rfl|rfl|rfl|rfl|rfl<;>exact rowE_key B s _ (by decide) ks us
section
variable {B:Base} {A:Around} {R:Result→Shared→Prop} {h:Heap} {gl:Array GenState} {d:Drawn} {t:Nat} {os:OsState} {N u:Nat} {tab tab':Cells} {a:Addr} {s r:Nat} {ks us:Nat→Nat}
theorem d_get(hr:r<5)(Rp:Rep B N h tab 0)(i:Nat)(hx:nth tab i=some (a,namesO B s ks us 5))
 (K:R (.ok (.ret (.str (S (nm s r)) (us r)))) ⟨h,gl,d,t+1,os⟩):codeAny (MB B) A (.call (.builtin "dict.__getitem__") ⟨[.ref a,.str (S (rowL r)) u],[]⟩) R ⟨h,gl,d,t,os⟩:=by
 have hl:h.get? a=some (namesO B s ks us 5):=Rp.at hx
 have hm:h.MapOf (PySem.strKind B.prog B.w) a (fun k=>findBy (PySem.strKind B.prog B.w).is (namesA B s ks us 5) k):=⟨_,_,_,hl,⟨rfl,rfl,rfl⟩,rfl,names_keys B s ks us 5,fun _=>rfl⟩
 refine codeAny_call_builtin F.slot_dict_getitem.plain F.entry_dict_getitem (F.slot_dict_getitem.check _ _ _ _ _ _ _ _ ⟨_,hl,rfl⟩ (F.args_dict_getitem_2 _ _) ?_)
 show wpAny _ _ (dictGet a _ >>= _) _ _ _
 refine wpAny_bind (wpAny_dictGet_of (knd:=PySem.strKind B.prog B.w) (k:=S (rowL r)) (by simp[PySem.strKind,Value.isStrOf]) hm ?_)
 have e:findBy (PySem.strKind B.prog B.w).is (namesA B s ks us 5) (S (rowL r))=some (.str (S (nm s r)) (us r)):=
  five (P:=fun r=>findBy (PySem.strKind B.prog B.w).is (namesA B s ks us 5) (S (rowL r))=some (.str (S (nm s r)) (us r))) hr rfl rfl rfl rfl rfl
 rw[e]
 exact wpAny_pure K
theorem d_set(hr:r<5)(Rp:Rep B N h tab 0)(i:Nat)(v:Nat)(hx:nth tab i=some (a,namesO B s ks us r))(ht:setN tab i (a,namesO B s (fun i=>if i=r then u else ks i) (fun i=>if i=r then v else us i) (r+1))=tab')
 (K:∀h',Rep B N h' tab' 0→R (.ok (.ret .none)) ⟨h',gl,d,t+1,os⟩):codeAny (MB B) A (.call (.builtin "dict.__setitem__") ⟨[.ref a,.str (S (rowL r)) u,.str (S (nm s r)) v],[]⟩) R ⟨h,gl,d,t,os⟩:=by
 subst ht
 have hl:h.get? a=some (namesO B s ks us r):=Rp.at hx
 have hT:(⟨h,gl,d,t,os⟩:Shared).TypeIs (.ref a) "dict":=⟨_,hl,rfl⟩
 refine codeAny_call_builtin F.slot_dict_setitem.plain F.entry_dict_setitem (F.slot_dict_setitem.check _ _ _ _ _ _ _ _ hT (F.args_dict_setitem_3 _ _ _) ?_)
 show wpAny _ _ (Builtin.Dict.notOrdered "__setitem__" _ >>= _) _ _ _
 refine wpAny_bind (wpAny_notOrdered_dict hT ?_)
 show wpAny _ _ (dictSet a _ _ >>= _) _ _ _
 refine wpAny_bind ?_
 have hkey:(PySem.strKind B.prog B.w).is (S (rowL r)) (.str (S (rowL r)) u)=true:=by simp[PySem.strKind,Value.isStrOf]
 unfold dictSet
 try with_reducible refine wpAny_holding ?_
 refine wpAny_bind ((PySem.strKind B.prog B.w).pyHash hkey ?_)
 unfold dictSetHashed
 try with_reducible refine wpAny_holding ?_
 refine wpAny_bind (wpAny_dictFind_of (s:=⟨h,gl,d,t+1,os⟩) hkey hl rfl (names_keys B s ks us r) ?_)
 have hi:(namesA B s ks us r).findIdx? (fun e=>(PySem.strKind B.prog B.w).is (S (rowL r)) e.key)=none:=
  five (P:=fun r=>(namesA B s ks us r).findIdx? (fun e=>(PySem.strKind B.prog B.w).is (S (rowL r)) e.key)=none) hr (by rfl') (by rfl') (by rfl') (by rfl') (by rfl')
 rw[hi]
 have hz:(namesA B s ks us r).size≤5:=five (P:=fun r=>(namesA B s ks us r).size≤5) hr (by show 0≤5;decide) (by show 1≤5;decide) (by show 2≤5;decide) (by show 3≤5;decide) (by show 4≤5;decide)
 have q:=Rp.upd (f:=Obj.mapDictKeys fun es=>es.push ⟨(PySem.strKind B.prog B.w).hash (S (rowL r)),.str (S (rowL r)) u,.str (S (nm s r)) v⟩) hx rfl rfl
 refine wpAny_bind (wpAny_rule (wpAny_updateDictKeys (hz:=Nat.le_trans hz (by decide)) (s:=⟨h,gl,d,t+1,os⟩) hl rfl (wpAny_pure (K _ ?_))))
 have e:(namesA B s ks us r).push ⟨(PySem.strKind B.prog B.w).hash (S (rowL r)),.str (S (rowL r)) u,.str (S (nm s r)) v⟩=namesA B s (fun i=>if i=r then u else ks i) (fun i=>if i=r then v else us i) (r+1):=by
  have e0:(⟨(PySem.strKind B.prog B.w).hash (S (rowL r)),.str (S (rowL r)) u,.str (S (nm s r)) v⟩:DictEntry)=En B (S (rowL r)) u (.str (S (nm s r)) v):=by
   have:=(rowE_key B s r hr (fun _=>u) (fun _=>v))
   have h2:=En_hash B (five (P:=fun i=>(S (rowL i)).cps.isEmpty=false) hr rfl rfl rfl rfl rfl) u (.str (S (nm s r)) v)
   show(⟨hashStr B.w (S (rowL r)),_,_⟩:DictEntry)=_
   rw[←h2];rfl
  rw[e0]
  exact five (P:=fun r=>(namesA B s ks us r).push (En B (S (rowL r)) u (.str (S (nm s r)) v))=namesA B s (fun i=>if i=r then u else ks i) (fun i=>if i=r then v else us i) (r+1)) hr rfl rfl rfl rfl rfl
 have q2:Rep B N (h.update a (Obj.mapDictKeys fun es=>es.push ⟨(PySem.strKind B.prog B.w).hash (S (rowL r)),.str (S (rowL r)) u,.str (S (nm s r)) v⟩)) (setN tab i (a,⟨.type "dict",none,.dict ((namesA B s ks us r).push ⟨(PySem.strKind B.prog B.w).hash (S (rowL r)),.str (S (rowL r)) u,.str (S (nm s r)) v⟩) (r+1),#[]⟩)) 0:=q
 rw[e] at q2
 exact q2
end
section
variable {B:Base} {A:Around} {R:Result→Shared→Prop} {k l:List Nat} {u t:Nat} {h:Heap} {gl:Array GenState} {d:Drawn} {os:OsState}
theorem s_low(hl:Txt.lower (S k)=S l)(hk:k.length≤1000)(K:R (.ok (.ret (.str (S l) t))) ⟨h,gl,d,t+1,os⟩):codeAny (MB B) A (.call (.builtin "str.lower") ⟨[.str (S k) u],[]⟩) R ⟨h,gl,d,t,os⟩:=by
 have hf:Builtin.Str.tooLong (Txt.lower (S k)).length=false:=PyProof.Rows.fit_lower (Nat.le_trans hk (by decide))
 refine gvc F.slot_str_lower rfl F.entry_str_lower (F.args_str_lower_1 _) (gives_str_lower _ _ hf) ?_
 have e:(⟨placed (S k) fun i _=>Unicode.lowerAt (S k).cps i⟩:Str)=S l:=hl
 have hf':(Txt.lower (S k)).length≤sizeLine:=Nat.not_lt.mp (of_decide_eq_false hf)
 refine⟨hf',?_⟩
 show R (.ok (.ret (.str (⟨placed (S k) fun i _=>Unicode.lowerAt (S k).cps i⟩:Str) t))) ⟨h,gl,d,t+1,os⟩
 rw[e]
 exact K
end
noncomputable abbrev pairS(w v:List Nat)(u1 u2:Nat):Obj:=⟨.type "tuple",none,.seq #[.str (S w) u1,.str (S v) u2] 0,#[]⟩
noncomputable abbrev HdO(D:Addr):Obj:=⟨.ref 255,some D,.plain,#[]⟩
noncomputable abbrev HdD(x:W2)(kl:Nat)(l:Addr):Obj:=⟨.type "dict",none,.dict #[En x.B n__headers kl (.ref l)] 1,#[]⟩
theorem g_turn0(x:W2){vdf:Value}(A:Around)(hh:A.handled=none)(hA:A.depth<800)(R:Result→Shared→Prop)(w v nmw lw:List Nat)(hl:Txt.lower (S w)=S lw)(hw:w.length≤1000)(o l it F a:Addr)(items:Array Value)(n k0 k1 tn k2 tk tv j:Nat)(hj:items[j]? =some (.ref a))(N t:Nat)(h:Heap)(gl d os)(rest:Cells)
 (Rp:Rep x.B N h ((it,ListIt l (j:Int))::(F,oF #[En x.B n_self k0 (.ref o),En x.B n_name k1 (.str (S nmw) tn),En x.B n_default k2 vdf] 3)::(l,Lst items n)::(a,pairS w v tk tv)::rest) 0)
 (K1:lw=nmw→∀h' N' t',Rep x.B N' h' ((l,Lst items n)::(a,pairS w v tk tv)::rest) 0→R (.ok (.ret (.str (S v) tv))) ⟨h',gl,d,t',os⟩)
 (K2:lw≠nmw→∀h' N' t' k3 k4 v3 v4,Rep x.B N' h' ((it,ListIt l ((j+1:Nat):Int))::(F,oF #[En x.B n_self k0 (.ref o),En x.B n_name k1 (.str (S nmw) tn),En x.B n_default k2 vdf,En x.B n_k k3 v3,En x.B n_v k4 v4] 5)::(l,Lst items n)::(a,pairS w v tk tv)::rest) 0→codeAny (MB x.B) A (loopOf (stmtAt x.B 202 1) (.ref it) (envOf (fdOf x.B 202) 202 F)) R ⟨h',gl,d,t',os⟩):
 codeAny (MB x.B) A (loopOf (stmtAt x.B 202 1) (.ref it) (envOf (fdOf x.B 202) 202 F)) R ⟨h,gl,d,t,os⟩:=by
 by_cases c:lw=nmw
 ·refine code_tree ?_
  with_reducible refine seg_callD (by with_unfolding_all exact hh) Rp [] 13 (dA 0x6) [] (cB "list_iterator.__next__" [.ref it]) [] [] 0 0 ?_
  intro Tb1 h1 N1 t1 Rp kk1
  refine li_next Rp 0 2 rfl rfl hj rfl fun hn1 Rp=>?_
  try dsimp only[setN] at Rp
  with_reducible refine seg_callD (by with_unfolding_all exact hh) Rp [] 78 (dA 0xa18a18a18218a18618118218a18618118218a186181186241249246) (dM 8) (cB "str.lower" [.str (S w) tk]) [] [.k,.u (dU [] [En x.B n_k (t1+0) (.str (S w) tk),En x.B n_v (t1+1) (.str (S v) tv)] 5)] 3 2 ?_
  intro Tb2 h2 N2 t2 Rp kk2
  refine s_low hl hw ?_
  have e:(lw==nmw)=true:=by simpa using c
  refine seg_valD hh Rp [aB "str.__eq__" [.str (S lw) t2,.str (S nmw) tn] true] 20 (dA 0x7087) [] (Fin.done (Flow.ret (.str (S v) tv))) [] [.d,.d] 0 0 ?_ (aC (fun _ _ _ _ _ _ _ K=>s_eq (B:=x.B) (l:=(lw)) (l':=(nmw)) (r:=true) (by first|rfl|(simp[*];done)|(simp;omega)) K) aN)
  intro Tb3 h3 N3 t3 Rp
  exact K1 c _ _ _ Rp
 ·refine code_tree ?_
  with_reducible refine seg_callD (by with_unfolding_all exact hh) Rp [] 13 (dA 0x6) [] (cB "list_iterator.__next__" [.ref it]) [] [] 0 0 ?_
  intro Tb1 h1 N1 t1 Rp kk1
  refine li_next Rp 0 2 rfl rfl hj rfl fun hn1 Rp=>?_
  try dsimp only[setN] at Rp
  with_reducible refine seg_callD (by with_unfolding_all exact hh) Rp [] 78 (dA 0xa18a18a18218a18618118218a18618118218a186181186241249246) (dM 8) (cB "str.lower" [.str (S w) tk]) [] [.k,.u (dU [] [En x.B n_k (t1+0) (.str (S w) tk),En x.B n_v (t1+1) (.str (S v) tv)] 5)] 3 2 ?_
  intro Tb2 h2 N2 t2 Rp kk2
  refine s_low hl hw ?_
  have e:(lw==nmw)=false:=by simpa using c
  refine seg_valD hh Rp [aB "str.__eq__" [.str (S lw) t2,.str (S nmw) tn] false] 17 (dA 0x87) [] (Fin.again (loopOf (stmtAt x.B 202 1) (.ref it) (envOf (fdOf x.B 202) 202 F))) [] [] 0 0 ?_ (aC (fun _ _ _ _ _ _ _ K=>s_eq (B:=x.B) (l:=(lw)) (l':=(nmw)) (r:=false) (by first|rfl|(simp[*];done)|(simp;omega)) K) aN)
  intro Tb3 h3 N3 t3 Rp
  exact⟨rfl,K2 c _ _ _ _ _ _ _ Rp⟩
theorem g_turn(x:W2){vdf:Value}(A:Around)(hh:A.handled=none)(hA:A.depth<800)(R:Result→Shared→Prop)(w v nmw lw:List Nat)(hl:Txt.lower (S w)=S lw)(hw:w.length≤1000)(o l it F a:Addr)(items:Array Value)(n k0 k1 tn k2 k3 k4 tk tv j:Nat)(v3 v4:Value)(hj:items[j]? =some (.ref a))(N t:Nat)(h:Heap)(gl d os)(rest:Cells)
 (Rp:Rep x.B N h ((it,ListIt l (j:Int))::(F,oF #[En x.B n_self k0 (.ref o),En x.B n_name k1 (.str (S nmw) tn),En x.B n_default k2 vdf,En x.B n_k k3 v3,En x.B n_v k4 v4] 5)::(l,Lst items n)::(a,pairS w v tk tv)::rest) 0)
 (K1:lw=nmw→∀h' N' t',Rep x.B N' h' ((l,Lst items n)::(a,pairS w v tk tv)::rest) 0→R (.ok (.ret (.str (S v) tv))) ⟨h',gl,d,t',os⟩)
 (K2:lw≠nmw→∀h' N' t' v3 v4,Rep x.B N' h' ((it,ListIt l ((j+1:Nat):Int))::(F,oF #[En x.B n_self k0 (.ref o),En x.B n_name k1 (.str (S nmw) tn),En x.B n_default k2 vdf,En x.B n_k k3 v3,En x.B n_v k4 v4] 5)::(l,Lst items n)::(a,pairS w v tk tv)::rest) 0→codeAny (MB x.B) A (loopOf (stmtAt x.B 202 1) (.ref it) (envOf (fdOf x.B 202) 202 F)) R ⟨h',gl,d,t',os⟩):
 codeAny (MB x.B) A (loopOf (stmtAt x.B 202 1) (.ref it) (envOf (fdOf x.B 202) 202 F)) R ⟨h,gl,d,t,os⟩:=by
 by_cases c:lw=nmw
 ·refine code_tree ?_
  with_reducible refine seg_callD (by with_unfolding_all exact hh) Rp [] 13 (dA 0x6) [] (cB "list_iterator.__next__" [.ref it]) [] [] 0 0 ?_
  intro Tb1 h1 N1 t1 Rp kk1
  refine li_next Rp 0 2 rfl rfl hj rfl fun hn1 Rp=>?_
  try dsimp only[setN] at Rp
  with_reducible refine seg_callD (by with_unfolding_all exact hh) Rp [] 78 (dA 0xa18a18a18218a18618118218a18618118218a186181186241249246) (dM 8) (cB "str.lower" [.str (S w) tk]) [] [.k,.u (dU [(3,.str (S w) tk),(4,.str (S v) tv)] [] 5)] 3 2 ?_
  intro Tb2 h2 N2 t2 Rp kk2
  refine s_low hl hw ?_
  have e:(lw==nmw)=true:=by simpa using c
  refine seg_valD hh Rp [aB "str.__eq__" [.str (S lw) t2,.str (S nmw) tn] true] 20 (dA 0x7087) [] (Fin.done (Flow.ret (.str (S v) tv))) [] [.d,.d] 0 0 ?_ (aC (fun _ _ _ _ _ _ _ K=>s_eq (B:=x.B) (l:=(lw)) (l':=(nmw)) (r:=true) (by first|rfl|(simp[*];done)|(simp;omega)) K) aN)
  intro Tb3 h3 N3 t3 Rp
  exact K1 c _ _ _ Rp
 ·refine code_tree ?_
  with_reducible refine seg_callD (by with_unfolding_all exact hh) Rp [] 13 (dA 0x6) [] (cB "list_iterator.__next__" [.ref it]) [] [] 0 0 ?_
  intro Tb1 h1 N1 t1 Rp kk1
  refine li_next Rp 0 2 rfl rfl hj rfl fun hn1 Rp=>?_
  try dsimp only[setN] at Rp
  with_reducible refine seg_callD (by with_unfolding_all exact hh) Rp [] 78 (dA 0xa18a18a18218a18618118218a18618118218a186181186241249246) (dM 8) (cB "str.lower" [.str (S w) tk]) [] [.k,.u (dU [(3,.str (S w) tk),(4,.str (S v) tv)] [] 5)] 3 2 ?_
  intro Tb2 h2 N2 t2 Rp kk2
  refine s_low hl hw ?_
  have e:(lw==nmw)=false:=by simpa using c
  refine seg_valD hh Rp [aB "str.__eq__" [.str (S lw) t2,.str (S nmw) tn] false] 17 (dA 0x87) [] (Fin.again (loopOf (stmtAt x.B 202 1) (.ref it) (envOf (fdOf x.B 202) 202 F))) [] [] 0 0 ?_ (aC (fun _ _ _ _ _ _ _ K=>s_eq (B:=x.B) (l:=(lw)) (l':=(nmw)) (r:=false) (by first|rfl|(simp[*];done)|(simp;omega)) K) aN)
  intro Tb3 h3 N3 t3 Rp
  exact⟨rfl,K2 c _ _ _ _ _ Rp⟩
theorem g_end(x:W2)(A:Around)(hh:A.handled=none)(R:Result→Shared→Prop)(l it F:Addr)(fo:Obj)(items:Array Value)(n j:Nat)(hj:items[j]? =none)(N t:Nat)(h:Heap)(gl d os)(rest:Cells)
 (Rp:Rep x.B N h ((it,ListIt l (j:Int))::(F,fo)::(l,Lst items n)::rest) 0)
 (K:∀h' N' t',Rep x.B N' h' ((F,fo)::(l,Lst items n)::rest) 0→R (.ok .next) ⟨h',gl,d,t',os⟩):
 codeAny (MB x.B) A (loopOf (stmtAt x.B 202 1) (.ref it) (envOf (fdOf x.B 202) 202 F)) R ⟨h,gl,d,t,os⟩:=by
 refine code_tree ?_
 with_reducible refine seg_callD (by with_unfolding_all exact hh) Rp [] 13 (dA 0x6) [] (cB "list_iterator.__next__" [.ref it]) [] [] 0 0 ?_
 intro Tb1 h1 N1 t1 Rp kk1
 refine li_end hh Rp 0 2 rfl rfl hj rfl fun h2 N2 a2 e2 Rp=>?_
 with_reducible refine seg_valD (by with_unfolding_all exact hh) Rp [] 12 (dA 0x6) [] (Fin.again (.block [] (envOf (fdOf x.B 202) 202 F))) [] [.d,.d,.d] 0 0 ?_
 intro Tb3 h3 N3 t3 Rp
 refine⟨rfl,code_tree ?_⟩
 with_reducible refine seg_valD (by with_unfolding_all exact hh) Rp [] 11 (dA 0x0) [] (Fin.done Flow.next) [] [] 0 0 ?_
 intro Tb4 h4 N4 t4 Rp
 exact K _ _ _ Rp
structure Ent where
 a:Nat
 tk:Nat
 tv:Nat
 r:Nat
 b:Bool
 v:List Nat
noncomputable abbrev Ent.cell(s:Nat)(e:Ent):Addr×Obj:=(e.a,pairS (kn s e.r e.b) e.v e.tk e.tv)
noncomputable def itemsOf(es:List Ent):Array Value:=(es.map fun e=>Value.ref e.a).toArray
noncomputable def EsOk(s:Nat)(es:List Ent)(cs:Cells):Prop:=∀e∈es,e.r<5∧e.cell s∈cs
theorem cell_perm{p:Addr×Obj}{cs:Cells}(h:p∈cs):∃cs':Cells,cs.Perm (p::cs'):=by
 obtain⟨l1,l2,rfl⟩:=List.append_of_mem h
 exact⟨l1++l2,List.perm_middle⟩
theorem low_k{s r:Nat}(b:Bool)(hs:s<4)(hr:r<5):Txt.lower (S (kn s r b))=S (nm s r):=by
 cases b
 ·exact(low_kn hs hr).1
 ·exact(low_kn hs hr).2.1
theorem len_k{s r:Nat}(b:Bool)(hs:s<4)(hr:r<5):(kn s r b).length≤1000:=by
 have h:=all20 (p:=fun s r=>Nat.ble (kn s r b).length 1000) (by cases b<;>rfl') hs hr
 exact Nat.le_of_ble_eq_true h
theorem nm_ne{s r r':Nat}(hs:s<4)(hr:r<5)(hr':r'<5):nm s r=nm s r'↔r=r':=by
 have h:=nm_inj hs hr hr'
 constructor
 ·intro e;rw[e] at h;simp at h;exact h
 ·intro e;rw[e]
theorem items_get{full:List Ent}{j:Nat}{e:Ent}{es:List Ent}(h:full.drop j=e::es):(itemsOf full)[j]? =some (.ref e.a)∧full.drop (j+1)=es:=by
 have h1:full[j]? =some e:=by
  have:(full.drop j)[0]? =some e:=by rw[h];rfl
  rwa[List.getElem?_drop,Nat.add_zero] at this
 refine⟨by unfold itemsOf;simp[h1],?_⟩
 rw[←List.drop_drop,h];rfl
theorem items_end{full:List Ent}{j:Nat}(h:full.drop j=[]):(itemsOf full)[j]? =none:=by
 unfold itemsOf
 simp
 exact List.drop_eq_nil_iff.mp h
section
variable (x:W2) {vdf:Value} (A:Around) (hh:A.handled=none) (hA:A.depth<800) (R:Result→Shared→Prop) (s r0:Nat) (hs:s<4) (hr:r0<5) (o l it F:Addr) (full:List Ent) (n k0 k1 tn k2:Nat) (cs:Cells) (hE:EsOk s full cs) (gl:Array GenState) (d:Drawn) (os:OsState)
 (K1:∀e,full.find? (fun e=>Nat.beq e.r r0)=some e→∀h' N' t',Rep x.B N' h' ((l,Lst (itemsOf full) n)::cs) 0→R (.ok (.ret (.str (S e.v) e.tv))) ⟨h',gl,d,t',os⟩)
 (K2:full.find? (fun e=>Nat.beq e.r r0)=none→∀h' N' t' k3 k4 v3 v4,Rep x.B N' h' ((F,oF #[En x.B n_self k0 (.ref o),En x.B n_name k1 (.str (S (nm s r0)) tn),En x.B n_default k2 vdf,En x.B n_k k3 v3,En x.B n_v k4 v4] 5)::(l,Lst (itemsOf full) n)::cs) 0→R (.ok .next) ⟨h',gl,d,t',os⟩)
include hh hA hs hr hE K1 K2
theorem g_loop:∀(es:List Ent) (j:Nat) (_:full.drop j=es) (_:full.find? (fun e=>Nat.beq e.r r0)=es.find? (fun e=>Nat.beq e.r r0)) (k3 k4:Nat) (v3 v4:Value) (N t:Nat) (h:Heap)
 (_:Rep x.B N h ((it,ListIt l (j:Int))::(F,oF #[En x.B n_self k0 (.ref o),En x.B n_name k1 (.str (S (nm s r0)) tn),En x.B n_default k2 vdf,En x.B n_k k3 v3,En x.B n_v k4 v4] 5)::(l,Lst (itemsOf full) n)::cs) 0),
 codeAny (MB x.B) A (loopOf (stmtAt x.B 202 1) (.ref it) (envOf (fdOf x.B 202) 202 F)) R ⟨h,gl,d,t,os⟩
 |[],j,e1,e2,k3,k4,v3,v4,N,t,h,Rp=>g_end x A hh R l it F _ _ n j (items_end e1) N t h gl d os cs Rp fun h' N' t' Rp=>K2 e2 h' N' t' k3 k4 v3 v4 Rp
 |e::es,j,e1,e2,k3,k4,v3,v4,N,t,h,Rp=>by
  obtain⟨i1,i2⟩:=items_get e1
  have he:=hE e (List.mem_of_mem_drop (e1▸List.mem_cons_self:e∈full.drop j))
  obtain⟨cs',hp⟩:=cell_perm he.2
  refine g_turn x A hh hA R _ e.v (nm s r0) _ (low_k e.b hs he.1) (len_k e.b hs he.1) o l it F e.a _ n k0 k1 tn k2 k3 k4 e.tk e.tv j v3 v4 i1 N t h gl d os cs' (Rp.perm (((hp.cons _).cons _).cons _)) (fun c h' N' t' Rp=>?_) (fun c h' N' t' v3 v4 Rp=>?_)
  ·refine K1 e ?_ h' N' t' (Rp.perm (hp.symm.cons _))
   rw[e2,List.find?_cons,(nm_ne hs he.1 hr).mp c,Nat.beq_refl]
  ·refine g_loop es (j+1) i2 ?_ k3 k4 v3 v4 N' t' h' (Rp.perm (((hp.symm.cons _).cons _).cons _))
   rw[e2,List.find?_cons]
   have:Nat.beq e.r r0=false:=by
    cases q:Nat.beq e.r r0
    ·rfl
    ·exact absurd (by rw[Nat.eq_of_beq_eq_true q]) c
   rw[this]
theorem g_loop0(hne:full≠[])(N t:Nat)(h:Heap)(Rp:Rep x.B N h ((it,ListIt l ((0:Nat):Int))::(F,oF #[En x.B n_self k0 (.ref o),En x.B n_name k1 (.str (S (nm s r0)) tn),En x.B n_default k2 vdf] 3)::(l,Lst (itemsOf full) n)::cs) 0):
 codeAny (MB x.B) A (loopOf (stmtAt x.B 202 1) (.ref it) (envOf (fdOf x.B 202) 202 F)) R ⟨h,gl,d,t,os⟩:=by
 obtain⟨e,es,rfl⟩:=List.exists_cons_of_ne_nil hne
 obtain⟨i1,i2⟩:=items_get (full:=e::es) (j:=0) rfl
 have he:=hE e List.mem_cons_self
 obtain⟨cs',hp⟩:=cell_perm he.2
 refine g_turn0 x A hh hA R _ e.v (nm s r0) _ (low_k e.b hs he.1) (len_k e.b hs he.1) o l it F e.a _ n k0 k1 tn k2 e.tk e.tv 0 i1 N t h gl d os cs' (Rp.perm (((hp.cons _).cons _).cons _)) (fun c h' N' t' Rp=>?_) (fun c h' N' t' k3 k4 v3 v4 Rp=>?_)
 ·refine K1 e ?_ h' N' t' (Rp.perm (hp.symm.cons _))
  rw[List.find?_cons,(nm_ne hs he.1 hr).mp c,Nat.beq_refl]
 ·refine g_loop x A hh hA R s r0 hs hr o l it F (e::es) n k0 k1 tn k2 cs hE gl d os K1 K2 es 1 i2 ?_ k3 k4 v3 v4 N' t' h' (Rp.perm (((hp.symm.cons _).cons _).cons _))
  rw[List.find?_cons]
  have:Nat.beq e.r r0=false:=by
   cases q:Nat.beq e.r r0
   ·rfl
   ·exact absurd (by rw[Nat.eq_of_beq_eq_true q]) c
  rw[this]
end
theorem conv_n(x:W2)(A:Around)(hh:A.handled=none)(hA:A.depth<600)(R:Result→Shared→Prop)(w:List Nat)(hs:SrchOk x 127 w)(self u:Nat)(N t:Nat)(h:Heap)(gl d os)(rest:Cells)(Rp:Rep x.B N h rest 0)
 (K:∀h' N' t',Rep x.B N' h' rest 0→R (.ok (.ret (.str (S w) u))) ⟨h',gl,d,t',os⟩):
 codeAny (MB x.B) A (.call (.ref 154) ⟨[.ref self,.str (S w) u],[(n_name,.bool true)]⟩) R ⟨h,gl,d,t,os⟩:=by
 refine enterD hh Rp (by exact zqdw hA) 26 (dA 0x86086086041) (bodyOf (fdOf x.B 154)) (envOf (fdOf x.B 154) 154 (N+0)) [(N+0,oF #[En x.B n_self (t+0) (.ref self),En x.B n_value (t+1) (.str (S w) u),En x.B n_name (t+2) (.bool true)] 3)] 1 3 (by rfl') ?_
 intro Tb1 h1 N1 t1 Rp
 with_reducible refine seg_callD (by with_unfolding_all exact hh) Rp [] 51 (dA 0x181041046086046041046041) [] (cB "re.Pattern.search" [.ref 127,.str (S w) u]) [] [.u (dU [] [En x.B n_regex (t1+0) (.ref 127)] 4)] 0 1 ?_
 intro Tb2 h2 N2 t2 Rp kk2
 refine hs (A.under _) hh _ _ _ _ _ _ _ _ _ Rp fun h' N' t' Rp=>?_
 with_reducible refine seg_valD (by with_unfolding_all exact hh) Rp [] 16 (dA 0x6) [] (Flow.ret (.str (S w) u)) [] [.d] 0 0 ?_
 intro Tb3 h3 N3 t3 Rp
 exact K _ _ _ Rp
theorem conv_v(x:W2)(A:Around)(hh:A.handled=none)(hA:A.depth<600)(R:Result→Shared→Prop)(w:List Nat)(hs:SrchOk x 132 w)(self u:Nat)(N t:Nat)(h:Heap)(gl d os)(rest:Cells)(Rp:Rep x.B N h rest 0)
 (K:∀h' N' t',Rep x.B N' h' rest 0→R (.ok (.ret (.str (S w) u))) ⟨h',gl,d,t',os⟩):
 codeAny (MB x.B) A (.call (.ref 154) ⟨[.ref self,.str (S w) u],[(n_name,.bool false)]⟩) R ⟨h,gl,d,t,os⟩:=by
 refine enterD hh Rp (by exact zqdw hA) 26 (dA 0x86086086041) (bodyOf (fdOf x.B 154)) (envOf (fdOf x.B 154) 154 (N+0)) [(N+0,oF #[En x.B n_self (t+0) (.ref self),En x.B n_value (t+1) (.str (S w) u),En x.B n_name (t+2) (.bool false)] 3)] 1 3 (by rfl') ?_
 intro Tb1 h1 N1 t1 Rp
 with_reducible refine seg_callD (by with_unfolding_all exact hh) Rp [] 51 (dA 0x181041046086046041046041) [] (cB "re.Pattern.search" [.ref 132,.str (S w) u]) [] [.u (dU [] [En x.B n_regex (t1+0) (.ref 132)] 4)] 0 1 ?_
 intro Tb2 h2 N2 t2 Rp kk2
 refine hs (A.under _) hh _ _ _ _ _ _ _ _ _ Rp fun h' N' t' Rp=>?_
 with_reducible refine seg_valD (by with_unfolding_all exact hh) Rp [] 16 (dA 0x6) [] (Flow.ret (.str (S w) u)) [] [.d] 0 0 ?_
 intro Tb3 h3 N3 t3 Rp
 exact K _ _ _ Rp
theorem h_get(x:W2)(A:Around)(hh:A.handled=none)(hA:A.depth<500)(R:Result→Shared→Prop)(s r0:Nat)(b0:Bool)(hs:s<4)(hr:r0<5)(o D l:Addr)(full:List Ent)(hne:full≠[])(kl n u:Nat)(cs:Cells)(hE:EsOk s full cs)(gl d os)(N t:Nat)(h:Heap)
 (Rp:Rep x.B N h ((l,Lst (itemsOf full) n)::(o,HdO D)::(D,HdD x kl l)::cs) 0)
 (K1:∀e,full.find? (fun e=>Nat.beq e.r r0)=some e→∀h' N' t',Rep x.B N' h' ((l,Lst (itemsOf full) n)::(o,HdO D)::(D,HdD x kl l)::cs) 0→R (.ok (.ret (.str (S e.v) e.tv))) ⟨h',gl,d,t',os⟩)
 (K2:full.find? (fun e=>Nat.beq e.r r0)=none→∀h' N' t',Rep x.B N' h' ((l,Lst (itemsOf full) n)::(o,HdO D)::(D,HdD x kl l)::cs) 0→R (.ok (.ret .none)) ⟨h',gl,d,t',os⟩):
 codeAny (MB x.B) A (.call (.ref 202) ⟨[.ref o,.str (S (kn s r0 b0)) u],[]⟩) R ⟨h,gl,d,t,os⟩:=by
 refine enterD hh Rp (by exact zqdx hA) 27 (dA 0x2182182181041) (bodyOf (fdOf x.B 202)) (envOf (fdOf x.B 202) 202 (N+0)) [(N+0,oF #[En x.B n_self (t+0) (.ref o),En x.B n_name (t+1) (.str (S (kn s r0 b0)) u),En x.B n_default (t+2) .none] 3)] 1 3 (by rfl') ?_
 intro Tb1 h1 N1 t1 Rp
 with_reducible refine seg_callD (by with_unfolding_all exact hh) Rp [] 36 (dA 0x6248041041201041201041206) [] (cB "str.lower" [.str (S (kn s r0 b0)) u]) [] [] 0 0 ?_
 intro Tb2 h2 N2 t2 Rp kk2
 refine s_low (low_k b0 hs hr) (len_k b0 hs hr) ?_
 with_reducible refine seg_callD (by with_unfolding_all exact hh) Rp [] 15 (dA 0x1) [] (.call (.ref 154) ⟨[.ref o,.str (S (nm s r0)) t2],[(n_name,.bool true)]⟩) [] [] 0 0 ?_
 intro Tb3 h3 N3 t3 Rp kk3
 refine conv_n x (A.under _) hh (by show A.depth+1<600;exact zqdy hA) _ (nm s r0) (srchN x _ (nm_ok false hs hr).1 (nm_ok false hs hr).2) _ _ _ _ _ _ _ _ _ Rp fun h' N' t' Rp=>?_
 with_reducible refine seg_callD (by with_unfolding_all exact hh) Rp [] 49 (dA 0x61c11c7241208041048041041206086) (dM 3) (loopOf (stmtAt x.B 202 1) (.ref (N'+0)) (envOf (fdOf x.B 202) 202 (N+0))) [(N'+0,oI "list_iterator" #[.ref l,.int 0 0])] [.u (dU [(1,.str (S (nm s r0)) t2)] [] 3)] 1 2 ?_
 intro Tb4 h4 N4 t4 Rp kk4
 refine g_loop0 x (A.under _) hh (by show A.depth+1<800;exact zqdz hA) _ s r0 hs hr o l _ _ full n _ _ _ _ ((o,HdO D)::(D,HdD x kl l)::cs) (fun e he=>⟨(hE e he).1,.tail _ (.tail _ (hE e he).2)⟩) gl d os (fun e he h' N' t' Rp=>?_) (fun he h' N' t' k3 k4 v3 v4 Rp=>?_) hne _ _ _ Rp
 ·show wpAny ..
  with_reducible refine seg_valD (by with_unfolding_all exact hh) Rp [] 11 (dA 0x0) [] (Flow.ret (.str (S e.v) (e.tv))) [] [] 0 0 ?_
  intro Tb5 h5 N5 t5 Rp
  exact K1 e he _ _ _ Rp
 ·show wpAny ..
  with_reducible refine seg_valD (by with_unfolding_all exact hh) Rp [] 14 (dA 0x6) [] (Flow.ret .none) [] [.d] 0 0 ?_
  intro Tb5 h5 N5 t5 Rp
  exact K2 he _ _ _ Rp
noncomputable def ifB:Stmt→List Stmt
 | .If _ b _ _=>b
 |_=>[]
noncomputable def iniS(x:W2):Stmt:=((ifB (stmtAt x.B 147 3)).headD default)
theorem h_init1(x:W2)(A:Around)(hh:A.handled=none)(hA:A.depth<590)(R:Result→Shared→Prop)(o D l a:Addr)(w v:List Nat)(hw:SrchOk x 127 w)(hv:SrchOk x 132 v)(tk tv n:Nat)(N t:Nat)(h:Heap)(gl d os)(rest:Cells)(Rp:Rep x.B N h ((l,Lst #[.ref a] n)::(a,pairS w v tk tv)::(o,HdO D)::(D,oD #[] 0)::rest) 0)
 (K:∀h' N' t' kl,Rep x.B N' h' ((l,Lst #[.ref a] n)::(a,pairS w v tk tv)::(o,HdO D)::(D,HdD x kl l)::rest) 0→R (.ok (.ret .none)) ⟨h',gl,d,t',os⟩):
 codeAny (MB x.B) A (.call (.ref 147) ⟨[.ref o,.ref l],[]⟩) R ⟨h,gl,d,t,os⟩:=by
 refine enterD hh Rp (by omega) 23 (dA 0x2182181041) (bodyOf (fdOf x.B 147)) (envOf (fdOf x.B 147) 147 (N+0)) [(N+0,oF #[En x.B n_self (t+0) (.ref o),En x.B n_headers (t+1) (.ref l)] 2)] 1 2 (by rfl') ?_
 intro Tb1 h1 N1 t1 Rp
 with_reducible refine seg_callD (by with_unfolding_all exact hh) Rp [] 85 (dA 0x61c11c718a18a049041049049049041041246181047046041086186) (dM 3) (loopOf (iniS x) (.ref (N1+0)) (envOf (fdOf x.B 147) 147 (N+0))) [(N1+0,oI "list_iterator" #[.ref l,.int 0 0])] [.u (dU [] [] 2),.k,.k,.k,.u fun _=>oD #[En x.B n__headers (t1+2) (.ref l)] 1] 1 3 ?_
 intro Tb2 h2 N2 t2 Rp kk2
 refine code_tree ?_
 with_reducible refine seg_callD (by with_unfolding_all exact hh) Rp [] 108 (dA 0x4a38d04104134104134104134a18a18a18218a18618118218a18618118218a186181186241249246086206186046) (dM 8) (.call (.ref 154) ⟨[.ref o,.str (S w) tk],[(n_name,.bool true)]⟩) [] [.u fun _=>oI "list_iterator" #[.ref l,.int 1 0],.u (dU [] [En x.B n_k (t2+0) (.str (S w) tk),En x.B n_v (t2+1) (.str (S v) tv)] 4)] 3 2 ?_
 intro Tb3 h3 N3 t3 Rp kk3
 refine conv_n x (A.under _) hh (by show A.depth+1<600;exact zqdA hA) _ w hw _ _ _ _ _ _ _ _ _ Rp fun h' N' t' Rp=>?_
 show wpAny ..
 with_reducible refine seg_callD (by with_unfolding_all exact hh) Rp [] 37 (dA 0x472ca041041281041281041287) [] (.call (.ref 154) ⟨[.ref o,.str (S v) tv],[(n_name,.bool false)]⟩) [] [] 0 0 ?_
 intro Tb4 h4 N4 t4 Rp kk4
 refine conv_v x (A.under _) hh (by show A.depth+1<600;exact zqdA hA) _ v hv _ _ _ _ _ _ _ _ _ Rp fun h' N' t' Rp=>?_
 show wpAny ..
 with_reducible refine seg_valD (by with_unfolding_all exact hh) Rp [] 12 (dA 0x0) [] (Fin.again (loopOf (iniS x) (.ref (N1+0)) (envOf (fdOf x.B 147) 147 (N+0)))) [] [] 0 0 ?_
 intro Tb5 h5 N5 t5 Rp
 refine⟨rfl,code_tree ?_⟩
 with_reducible refine seg_valD (by with_unfolding_all exact hh) Rp [] 27 (dA 0x6086206186046) (dM 4) (Fin.again (.block [] (envOf (fdOf x.B 147) 147 (N+0)))) [] [.d] 2 0 ?_
 intro Tb6 h6 N6 t6 Rp
 refine⟨rfl,code_tree ?_⟩
 with_reducible refine seg_valD (by with_unfolding_all exact hh) Rp [] 11 (dA 0x0) [] (Fin.done Flow.next) [] [] 0 0 ?_
 intro Tb7 h7 N7 t7 Rp
 show wpAny ..
 with_reducible refine seg_valD (by with_unfolding_all exact hh) Rp [] 11 (dA 0x0) [] Flow.next [] [.d] 0 0 ?_
 intro Tb8 h8 N8 t8 Rp
 exact K _ _ _ _ Rp
theorem mkH1(x:W2)(A:Around)(hh:A.handled=none)(hA:A.depth<500)(R:Result→Shared→Prop)(l a:Addr)(w v:List Nat)(hw:SrchOk x 127 w)(hv:SrchOk x 132 v)(tk tv n:Nat)(N t:Nat)(h:Heap)(gl d os)(rest:Cells)(Rp:Rep x.B N h ((l,Lst #[.ref a] n)::(a,pairS w v tk tv)::rest) 0)
 (K:∀h' N' t' o D kl,Rep x.B N' h' ((l,Lst #[.ref a] n)::(a,pairS w v tk tv)::(o,HdO D)::(D,HdD x kl l)::rest) 0→R (.ok (.ret (.ref o))) ⟨h',gl,d,t',os⟩):
 codeAny (MB x.B) A (.call (.ref 255) ⟨[.ref l],[]⟩) R ⟨h,gl,d,t,os⟩:=by
 refine code_tree ?_
 with_reducible refine seg_valD (by with_unfolding_all exact hh) Rp [] 13 (dA 0x41) [] (Fin.again (cB "type.__call__" [.ref 255,.ref l])) [] [] 0 0 ?_
 intro Tb1 h1 N1 t1 Rp
 refine⟨by first|rfl|decide+kernel,code_tree ?_⟩
 with_reducible refine seg_valD (by with_unfolding_all exact hh) Rp [] 12 (dA 0x1) [] (Fin.again (.builtin "type.__call__" ⟨[.ref 255,.ref l],[]⟩)) [] [] 0 0 ?_
 intro Tb2 h2 N2 t2 Rp
 refine⟨Code.quiet_builtin _ (by decide+kernel),code_tree ?_⟩
 with_reducible refine seg_callD (by with_unfolding_all exact hh) Rp [] 46 (dA 0x1041046046041041041041041041041041041041041041) (dM 7) (cR 147 [.ref (N2+1),.ref l]) [(N2+1,⟨.ref 255,some (N2+0),.plain,#[]⟩),(N2+0,oD #[] 0)] [] 2 0 ?_
 intro Tb3 h3 N3 t3 Rp kk3
 refine h_init1 x (A.under _) hh (by show A.depth+1<590;omega) _ _ _ l a w v hw hv tk tv n _ _ _ _ _ _ _ ((Rp.mov 0 3).mov 0 3) fun h' N' t' kl Rp=>?_
 with_reducible refine seg_valD (by with_unfolding_all exact hh) Rp [] 11 (dA 0x0) [] (Fin.done (Flow.ret (.ref (N2+1)))) [] [] 0 0 ?_
 intro Tb4 h4 N4 t4 Rp
 exact K _ _ _ _ _ _ Rp
noncomputable abbrev rowsT(w:Nat→Nat):Obj:=oT #[.str (S (rowL 0)) (w 0),.str (S (rowL 1)) (w 1),.str (S (rowL 2)) (w 2),.str (S (rowL 3)) (w 3),.str (S (rowL 4)) (w 4)]
theorem tr_next(x:W2){A:Around}{R:Result→Shared→Prop}{h:Heap}{gl:Array GenState}{d:Drawn}{t:Nat}{os:OsState}{N j:Nat}{tab:Cells}{it T:Addr}{w:Nat→Nat}(hj:j<5)(hh:A.handled=none)(Rp:Rep x.B N h ((it,TupIt T (j:Int))::(T,rowsT w)::tab) 0)
 (K:∀h' N' t',Rep x.B N' h' ((it,TupIt T ((j+1:Nat):Int))::(T,rowsT w)::tab) 0→R (.ok (.ret (.str (S (rowL j)) (w j)))) ⟨h',gl,d,t',os⟩):
 codeAny (MB x.B) A (.call (.builtin "tuple_iterator.__next__") ⟨[.ref it],[]⟩) R ⟨h,gl,d,t,os⟩:=by
 with_reducible refine seg_codeD (by with_unfolding_all exact hh) Rp [] 18 (dA 0x861c6186) [] (.ok (.ret (.str (S (rowL j)) (w j)))) [] [.u fun _=>TupIt T ((j+1:Nat):Int)] 0 0 ?_ aN ?_
 ·rcases(by exact zqae hj:j=0∨j=1∨j=2∨j=3∨j=4) with rfl|rfl|rfl|rfl|rfl
  all_goals rfl'
 ·intro Tb1 h1 N1 t1 Rp
  exact K _ _ _ Rp
theorem jOk_nm{s r:Nat}(hs:s<4)(hr:r<5):jOk (pcN s 0 (rowL r))=true:=all20 (p:=fun s r=>jOk (pcN s 0 (rowL r))) (by rfl') hs hr
theorem nm_turn(bb rr:Bool)(x:W2)(A:Around)(hh:A.handled=none)(hA:A.depth<380)(R:Result→Shared→Prop)(F:Addr)(g:G)(hs:g.s<4)(it T nd sg:Addr)(w ks us:Nat→Nat)(j k kr:Nat)(v:Value)(hj:j<5)
 (N t:Nat) (h:Heap) (gl d os) (rest:Cells)
 (Rp:Rep x.B N h ((it,TupIt T (j:Int))::(T,rowsT w)::(F,g.fr bb x (En x.B n_strings k (.ref sg)::cond rr [En x.B n_row kr v] []))::(F+6,oC (some (.ref nd)))::(nd,namesO x.B g.s ks us j)::rest) 0)
 (K:∀h' N' t' kr ks us,Rep x.B N' h' ((it,TupIt T ((j+1:Nat):Int))::(T,rowsT w)::(F,g.fr bb x [En x.B n_strings k (.ref sg),En x.B n_row kr (.str (S (rowL j)) (w j))])::(F+6,oC (some (.ref nd)))::(nd,namesO x.B g.s ks us (j+1))::rest) 0→codeAny (MB x.B) A (loopOf (stmtAt x.B 288 9) (.ref it) (lawE x F)) R ⟨h',gl,d,t',os⟩):
 codeAny (MB x.B) A (loopOf (stmtAt x.B 288 9) (.ref it) (lawE x F)) R ⟨h,gl,d,t,os⟩:=by
 let sb:=bb
 cases bb<;>cases rr
 all_goals
  refine code_tree ?_
  with_reducible refine seg_callD (by with_unfolding_all exact hh) Rp [] 13 (dA 0x6) [] (cB "tuple_iterator.__next__" [.ref it]) [] [] 0 0 ?_
  intro Tb1 h1 N1 t1 Rp kk1
  refine tr_next x hj hh Rp fun h2 N2 t2 Rp=>?_
  with_reducible refine seg_callD (by with_unfolding_all exact hh) Rp [] 30 (dA 0x48201108) [] (cR 264 [.str (S (rowL j)) (w j),.int ((↑g.s:Int)) (g.uh)]) [] [.k,.k,.u (dW [En x.B n_row (t2+0) (.str (S (rowL j)) (w j))])] 0 2 ?_
  intro Tb3 h3 N3 t3 Rp kk3
  refine pieces x (A.under _) hh (by show A.depth+0<490;exact zqdB hA) _ (rowL j) (rowL_par hj) (by rw[rowL_len hj];decide) (by intro z;have:=rowL_len hj;rw[z] at this;cases this) g.s _ _ _ _ _ _ _ _ _ Rp fun h3 N3 t3 pl ws n3 hws Rp=>?_
  show wpAny ..
  with_reducible refine seg_callD (by with_unfolding_all exact hh) Rp [] 13 (dA 0x0) [] (cB "str.join" [.str (S []) (t2+1),.ref pl]) [] [] 0 0 ?_
  intro Tb4 h4 N4 t4 Rp kk4
  refine s_joinL Rp 0 n3 ws pl rfl hws (jOk_nm hs hj) fun t4 v4=>?_
  rw[pcN_nm hs hj]
  with_reducible refine seg_callD (by with_unfolding_all exact hh) Rp [] 19 (dA 0x2cb24a) [] (cB "dict.__setitem__" [.ref nd,.str (S (rowL j)) (w j),.str (S (nm g.s j)) v4]) [] [.d] 0 0 ?_
  intro Tb5 h5 N5 t5 Rp kk5
  refine d_set hj Rp 4 v4 rfl rfl fun h5 Rp=>?_
  try dsimp only[setN] at Rp
  with_reducible refine seg_valD (by with_unfolding_all exact hh) Rp [] 11 (dA 0x0) [] (Fin.again (loopOf (stmtAt x.B 288 9) (.ref it) (lawE x F))) [] [] 0 0 ?_
  intro Tb6 h6 N6 t6 Rp
  exact⟨rfl,K _ _ _ _ _ _ Rp⟩
theorem nm_end(x:W2)(A:Around)(hh:A.handled=none)(R:Result→Shared→Prop)(F:Addr)(it T:Addr)(w:Nat→Nat)
 (N t:Nat) (h:Heap) (gl d os) (rest:Cells)
 (Rp:Rep x.B N h ((it,TupIt T ((5:Nat):Int))::(T,rowsT w)::rest) 0)
 (K:∀h' N' t',Rep x.B N' h' rest 0→R (.ok .next) ⟨h',gl,d,t',os⟩):
 codeAny (MB x.B) A (loopOf (stmtAt x.B 288 9) (.ref it) (lawE x F)) R ⟨h,gl,d,t,os⟩:=by
 refine code_tree ?_
 with_reducible refine seg_valD (by with_unfolding_all exact hh) Rp [] 27 (dA 0x60861c6186046) (dM 4) (Fin.again (.block [] (lawE x F))) [] [.u fun _=>oI "tuple_iterator" #[.none,.int 5 0]] 2 0 ?_
 intro Tb1 h1 N1 t1 Rp
 refine⟨rfl,code_tree ?_⟩
 with_reducible refine seg_valD (by with_unfolding_all exact hh) Rp [] 11 (dA 0x0) [] (Fin.done Flow.next) [] [.d,.d] 0 0 ?_
 intro Tb2 h2 N2 t2 Rp
 exact K _ _ _ Rp
theorem w3(bb:Bool)(x:W2)(A:Around)(hh:A.handled=none)(hA:A.depth<380)(Q:Flow→Shared→Prop)(F:Addr)(g:G)(hs:g.s<4)(sg:Addr)(k:Nat)
 (N t:Nat) (h:Heap) (gl d os) (rest:Cells)
 (Rp:Rep x.B N h ((F,g.fr bb x [En x.B n_strings k (.ref sg)])::(F+6,oC none)::rest) 0)
 (K:∀h' N' t' M ks us kr v,Rep x.B N' h' ((F,g.fr bb x [En x.B n_strings k (.ref sg),En x.B n_row kr v])::(F+6,oC (some (.ref (M+290))))::(M+290,namesO x.B g.s ks us 5)::rest) 0→wpAny (MB x.B) A (execsZ (bodyOf (fdOf x.B 288) |>.drop 10) (lawE x F)) Q (fun _ _=>False) ⟨h',gl,d,t',os⟩):
 wpAny (MB x.B) A (execsZ (bodyOf (fdOf x.B 288) |>.drop 8) (lawE x F)) Q (fun _ _=>False) ⟨h,gl,d,t,os⟩:=by
 let sb:=bb
 cases bb
 all_goals
  obtain⟨M,rfl⟩:=Nat.exists_eq_add_of_le' (show 290≤N from Rp.top)
  refine cut 1 ?_
  with_reducible refine seg_valD (by with_unfolding_all exact hh) Rp [] 19 (dA 0x108) (dM 3) Flow.next [(M+290+0,oD #[] 0)] [.k,.u fun _=>oC (some (.ref (M+290+0)))] 1 0 ?_
  intro Tb1 h1 N1 t1 Rp
  show wpAny _ _ (execsZ ..) ..
  refine cut 1 ?_
  with_reducible refine seg_callD (by with_unfolding_all exact hh) Rp [] 29 (dA 0x6181186) (dM 7) (loopOf (stmtAt x.B 288 9) (.ref (N1+1)) (lawE x F)) [(N1+1,oI "tuple_iterator" #[.ref (N1+0),.int 0 0]),(N1+0,oT #[.str (S [40,41,40,41,40,41]) (t1+0),.str (S [40,40,41,41,40,41]) (t1+1),.str (S [40,41,40,40,41,41]) (t1+2),.str (S [40,40,41,40,41,41]) (t1+3),.str (S [40,40,40,41,41,41]) (t1+4)])] [] 2 5 ?_
  intro Tb2 h2 N2 t2 Rp kk2
  refine nm_turn sb false x A hh hA _ F g hs _ _ (M+290) sg (fun i=>t1+i) (fun _=>0) (fun _=>0) 0 k 0 .none (by decide) _ _ _ _ _ _ _ (Rp.mov 2 4) fun h' N' t' kr ks us Rp=>?_
  refine nm_turn sb true x A hh hA _ F g hs _ _ (M+290) sg (fun i=>t1+i) ks us 1 k kr _ (by decide) _ _ _ _ _ _ _ Rp fun h' N' t' kr ks us Rp=>?_
  refine nm_turn sb true x A hh hA _ F g hs _ _ (M+290) sg (fun i=>t1+i) ks us 2 k kr _ (by decide) _ _ _ _ _ _ _ Rp fun h' N' t' kr ks us Rp=>?_
  refine nm_turn sb true x A hh hA _ F g hs _ _ (M+290) sg (fun i=>t1+i) ks us 3 k kr _ (by decide) _ _ _ _ _ _ _ Rp fun h' N' t' kr ks us Rp=>?_
  refine nm_turn sb true x A hh hA _ F g hs _ _ (M+290) sg (fun i=>t1+i) ks us 4 k kr _ (by decide) _ _ _ _ _ _ _ Rp fun h' N' t' kr ks us Rp=>?_
  refine nm_end x A hh _ F _ _ (fun i=>t1+i) _ _ _ _ _ _ _ Rp fun h' N' t' Rp=>?_
  show wpAny ..
  with_reducible refine seg_valD (by with_unfolding_all exact hh) Rp [] 11 (dA 0x0) [] Flow.next [] [] 0 0 ?_
  intro Tb3 h3 N3 t3 Rp
  exact K _ _ _ M _ _ _ _ Rp
theorem w4(bb:Bool)(x:W2)(A:Around)(hh:A.handled=none)(hA:A.depth<380)(Q:Flow→Shared→Prop)(F:Addr)(g:G)(hs:g.s<4)(k kr:Nat)(v:Value)(sg nd:Addr)(ks us:Nat→Nat)
 (N t:Nat) (h:Heap) (gl d os) (rest:Cells)
 (Rp:Rep x.B N h ((F,g.fr bb x [En x.B n_strings k (.ref sg),En x.B n_row kr v])::(F+6,oC (some (.ref nd)))::(nd,namesO x.B g.s ks us 5)::(F+7,oC none)::rest) 0)
 (K:∀h' N' t' o D l a tk tv kl,Rep x.B N' h' ((F,g.fr bb x [En x.B n_strings k (.ref sg),En x.B n_row kr v])::(F+6,oC (some (.ref nd)))::(nd,namesO x.B g.s ks us 5)::(F+7,oC (some (.ref o)))::(l,Lst (itemsOf [⟨a,tk,tv,0,false,[49]⟩]) 0)::(o,HdO D)::(D,HdD x kl l)::Ent.cell g.s ⟨a,tk,tv,0,false,[49]⟩::rest) 0→wpAny (MB x.B) A (execsZ (bodyOf (fdOf x.B 288) |>.drop 11) (lawE x F)) Q (fun _ _=>False) ⟨h',gl,d,t',os⟩):
 wpAny (MB x.B) A (execsZ (bodyOf (fdOf x.B 288) |>.drop 10) (lawE x F)) Q (fun _ _=>False) ⟨h,gl,d,t,os⟩:=by
 let sb:=bb
 cases bb
 all_goals
  refine cut 1 ?_
  with_reducible refine seg_callD (by with_unfolding_all exact hh) Rp [] 23 (dA 0x82081c1) [] (cB "dict.__getitem__" [.ref nd,.str (S [40,41,40,41,40,41]) (t+0)]) [] [] 0 1 ?_
  intro Tb1 h1 N1 t1 Rp kk1
  refine d_get (r:=0) (by decide) Rp 2 rfl ?_
  show wpAny ..
  with_reducible refine seg_callD (by with_unfolding_all exact hh) Rp [] 17 (dA 0x41) (dM 7) (cR 255 [.ref (N1+1)]) [(N1+1,oL #[.ref (N1+0)] 0),(N1+0,oT #[.str (S (nm g.s 0)) (us 0),.str (S [49]) (t1+1+0)])] [] 2 1 ?_
  intro Tb2 h2 N2 t2 Rp kk2
  refine mkH1 x A hh (by omega) _ _ _ (nm g.s 0) [49] (srchN x _ (nm_ok false hs (by decide)).1 (nm_ok false hs (by decide)).2) (srchV x _ (by decide) (by decide)) _ _ _ _ _ _ _ _ _ _ Rp fun h' N' t' o D kl Rp=>?_
  show wpAny ..
  with_reducible refine seg_valD (by with_unfolding_all exact hh) Rp [] 17 (dA 0x24d) [] Flow.next [] [.k,.k,.k,.k,.k,.k,.k,.u fun _=>oC (some (.ref o))] 0 0 ?_
  intro Tb3 h3 N3 t3 Rp
  exact K _ _ _ o D _ _ _ _ _ ((((Rp.mov 0 7).mov 0 7).mov 0 6).mov 0 6)
theorem IsCol.fl{K a b:Int}{r g bl:Value}(h:IsCol K a b r g bl):∃x y z u v w,r=.float x u∧g=.float y v∧bl=.float z w:=by
 obtain⟨j,f,u,v,w,_,_,_,_,_,e⟩:=h
 unfold rgbOf at e
 repeat' split at e
 all_goals (obtain⟨rfl,rfl,rfl⟩:=arr3 e;exact⟨_,_,_,_,_,_,rfl,rfl,rfl⟩)
theorem law_hue(x:W2)(A:Around)(hh:A.handled=none)(hA:A.depth<800)(R:Result→Shared→Prop)(kk k n w a b:Int)(h0:0≤kk)(h1:kk<2^20)(hK:kk*n=k*2^20)(k0:0≤k)(k1:k<1024)(n0:0<n)(n1:n≤1024)(w0:0≤w)(ha:Quart a)(hb:Quart b)
 (p:Addr) (r g bl:Value) (hc:IsCol kk a b r g bl) (tn tw:Nat) (N t:Nat) (h:Heap) (gl d os) (rest:Cells) (Rp:Rep x.B N h ((p,Tup3 r g bl)::rest) 0)
 (K:∀h' N' t' v,Rep x.B N' h' ((p,Tup3 r g bl)::rest) 0→R (.ok (.ret (.int k v))) ⟨h',gl,d,t',os⟩):
 codeAny (MB x.B) A (.call (.ref 283) ⟨[.ref p,.int n tn,.int w tw],[]⟩) R ⟨h,gl,d,t,os⟩:=by
 obtain⟨rx,gx,bx,ru,gu,bu,rfl,rfl,rfl⟩:=hc.fl
 have e1:16*kk*n=k*2^24:=by rw[Int.mul_assoc,hK];omega
 have e2:k*2^24/2^24=k:=by exact zqcc
 rcases(by exact zqdC:w%2=0∨w%2=1) with z|z
 ·refine enterD hh Rp (by exact zqdD hA) 26 (dA 0x86086086041) (bodyOf (fdOf x.B 283)) (envOf (fdOf x.B 283) 283 (N+0)) [(N+0,oF #[En x.B n_colour (t+0) (.ref p),En x.B n_size (t+1) (.int (n) tn),En x.B n_way (t+2) (.int (w) tw)] 3)] 1 3 (by rfl') ?_
  intro Tb2 h2 N2 t2 Rp
  refine seg_callD hh Rp [aI "int.__mod__" [.int (w) tw,.int 2 (t2+3)] (0)] 111 (dA 0x492490410891491491491821881861811821881861811821881861811821881861811861c11c71c6) (dM 8) (cR 115 [.float (rx) ru,.float (gx) gu,.float (bx) bu]) [] [.u (dU [] [En x.B n_red (t2+0) (.float (rx) ru),En x.B n_green (t2+1) (.float (gx) gu),En x.B n_blue (t2+2) (.float (bx) bu)] 6)] 3 5 ?_ (aC (fun _ _ _ _ _ _ _ K=>i_mod (B:=x.B) (i:=(w)) (j:=(2)) (c:=0) (by decide) (by rw[Int.fmod_eq_emod_of_nonneg _ (by decide)];exact zqdE z) K) aN)
  intro Tb3 h3 N3 t3 Rp kk3
  refine to_hsvC x (A.under _) hh (by show A.depth+1+0<900;exact zqdF hA) _ kk a b h0 h1 ha hb _ _ _ hc _ _ _ _ _ _ _ Rp fun hc1 Nc1 tc1 ac uc vc wc Rp=>?_
  refine seg_valD hh Rp [aF "float.__mul__" [.float (fl (16*kk)) uc,.int (n) tn] (k*2^24),aI "float.__int__" [.float (fl (k*2^24)) (tc1+2)] (k)] 54 (dA 0x430410871c10431c1186046186) [] (Flow.ret (.int (k) (tc1+3))) [] [.d,.d] 0 4 ?_ (aC (fun _ _ _ _ _ _ _ K=>f_mul_fi (B:=x.B) (a:=(16*kk)) (i:=(n)) (c:=(k*2^24)) rfl (by exact zqdG h0 h1) (by exact zqdH n0 n1) (by exact zqbx k0 k1) (by exact zqaF h0) (by exact zqam n0) (by exact zqdI e1) K) (aC (fun _ _ _ _ _ _ _ K=>f_dint (B:=x.B) (a:=(k*2^24)) (c:=k) rfl (by exact zqbx k0 k1) (by exact zqdJ k0) (by exact zqcc) K) aN))
  intro Tb4 h4 N4 t4 Rp
  exact K _ _ _ _ Rp
 ·refine enterD hh Rp (by exact zqdD hA) 26 (dA 0x86086086041) (bodyOf (fdOf x.B 283)) (envOf (fdOf x.B 283) 283 (N+0)) [(N+0,oF #[En x.B n_colour (t+0) (.ref p),En x.B n_size (t+1) (.int (n) tn),En x.B n_way (t+2) (.int (w) tw)] 3)] 1 3 (by rfl') ?_
  intro Tb2 h2 N2 t2 Rp
  refine seg_callD hh Rp [aI "int.__mod__" [.int (w) tw,.int 2 (t2+3)] (1)] 111 (dA 0x492490410891491491491821881861811821881861811821881861811821881861811861c11c71c6) (dM 8) (cR 108 [.float (rx) ru,.float (gx) gu,.float (bx) bu]) [] [.u (dU [] [En x.B n_red (t2+0) (.float (rx) ru),En x.B n_green (t2+1) (.float (gx) gu),En x.B n_blue (t2+2) (.float (bx) bu)] 6)] 3 5 ?_ (aC (fun _ _ _ _ _ _ _ K=>i_mod (B:=x.B) (i:=(w)) (j:=(2)) (c:=1) (by decide) (by rw[Int.fmod_eq_emod_of_nonneg _ (by decide)];exact zqdK z) K) aN)
  intro Tb3 h3 N3 t3 Rp kk3
  refine to_hlsC x (A.under _) hh (by show A.depth+1+0<900;exact zqdF hA) _ kk a b h0 h1 ha hb _ _ _ hc _ _ _ _ _ _ _ Rp fun hc1 Nc1 tc1 ac uc vc wc Rp=>?_
  refine seg_valD hh Rp [aF "float.__mul__" [.float (fl (16*kk)) uc,.int (n) tn] (k*2^24),aI "float.__int__" [.float (fl (k*2^24)) (tc1+2)] (k)] 54 (dA 0x430410871c10431c1186046186) [] (Flow.ret (.int (k) (tc1+3))) [] [.d,.d] 0 4 ?_ (aC (fun _ _ _ _ _ _ _ K=>f_mul_fi (B:=x.B) (a:=(16*kk)) (i:=(n)) (c:=(k*2^24)) rfl (by exact zqdG h0 h1) (by exact zqdH n0 n1) (by exact zqbx k0 k1) (by exact zqaF h0) (by exact zqam n0) (by exact zqdI e1) K) (aC (fun _ _ _ _ _ _ _ K=>f_dint (B:=x.B) (a:=(k*2^24)) (c:=k) rfl (by exact zqbx k0 k1) (by exact zqdJ k0) (by exact zqcc) K) aN))
  intro Tb4 h4 N4 t4 Rp
  exact K _ _ _ _ Rp
noncomputable def pS(x:W2):Stmt:=((forB (stmtAt x.B 288 11)).drop 1).headD default
noncomputable def tdE(x:W2):Expr:=compE ((forB (pS x)).headD default)
noncomputable abbrev tdEnv(x:W2)(F C:Addr):Env:=cenvOf (lawE x F) (tdE x) C [(n_size,F+2),(n_place,F+1),(n_painted,F+5),(n_cell,F+8)]
structure G.Pic (g:G) (P:Nat→Int) (cs:List Clr) (T:Cells):Prop where
 len:cs.length=6
 at':∀i,i<6→∃c,cs[i]? =some c∧g.Col (P i) c∧c.cell∈T
theorem G.Pic.get{g:G}{P:Nat→Int}{cs:List Clr}{T:Cells}(h:g.Pic P cs T){i:Nat}(hi:i<6):∃c T',cs[i]? =some c∧g.Col (P i) c∧T.Perm (c.cell::T'):=by
 obtain⟨c,h1,h2,h3⟩:=h.at' i hi
 obtain⟨T',h4⟩:=cell_perm h3
 exact⟨c,T',h1,h2,h4⟩
theorem refs_get{cs:List Clr}{i:Nat}{c:Clr}(h:cs[i]? =some c):(refsOf cs)[i]? =some (.ref c.p):=by
 unfold refsOf;simp[h]
theorem G.Wheel.kk{g:G}{w k:Int}(hw:g.Wheel w)(k0:0≤k)(k1:k<g.n):0≤k*(2^20/g.n)∧k*(2^20/g.n)<2^20∧k*(2^20/g.n)*g.n=k*2^20∧k<1024∧0<g.n:=by
 rw[hw.w1]
 have h1:=hw.n0
 have h2:=hw.n1
 have h3:=hw.w0
 have h4:=hw.nw
 have h5:=Int.mul_lt_mul_of_pos_right k1 h3
 rw[Int.mul_comm g.n w,h4] at h5
 exact⟨Int.mul_nonneg k0 (by exact zqam h3),h5,by rw[Int.mul_assoc,h4],by omega,by exact zqan h1⟩
theorem td_run(x:W2)(A:Around)(hh:A.handled=none)(hA:A.depth<390)(R:Result→Shared→Prop)(g:G)(w:Int)(hw:g.Wheel w)(ha:Quart g.a)(hv:Quart g.v)(F C acc it T pa:Addr)(P:Nat→Int)(cs:List Clr)(p up t0 t1 np:Nat)(hp:p<5)(ce:Int)(uc:Nat)(hce:0≤ce)(N t:Nat)(h:Heap)(gl d os)(rest:Cells)(hP:g.Pic P cs rest)
 (Rp:Rep x.B N h ((C,oD #[] 0)::(acc,Lst #[] 0)::(it,TupIt T ((0:Nat):Int))::(T,oT #[.int 0 t0,.int 1 t1])::(pa,Lst (refsOf cs) np)::(F+1,oC (some (.int (p:Int) up)))::(F+2,oC (some (.int g.n g.un)))::(F+5,oC (some (.ref pa)))::(F+8,oC (some (.int ce uc)))::rest) 0)
 (K:∀h' N' t' q1 v1 q2 v0 u1 n',Rep x.B N' h' ((C,oD #[En x.B n_end q1 v1] q2)::(acc,Lst #[.int (P p) v0,.int (P (p+1)) u1] n')::(T,oT #[.int 0 t0,.int 1 t1])::(pa,Lst (refsOf cs) np)::(F+1,oC (some (.int (p:Int) up)))::(F+2,oC (some (.int g.n g.un)))::(F+5,oC (some (.ref pa)))::(F+8,oC (some (.int ce uc)))::rest) 0→R (.ok .next) ⟨h',gl,d,t',os⟩):
 codeAny (MB x.B) A (.compLoop (tdE x) 0 (.ref it) (.ref acc) (tdEnv x F C)) R ⟨h,gl,d,t,os⟩:=by
 obtain⟨c0,T0,e0,f0,g0⟩:=hP.get (show p<6 by exact zqby hp)
 obtain⟨c1,T1,e1,f1,g1⟩:=hP.get (show p+1<6 by exact zqbz hp)
 refine code_tree ?_
 with_reducible refine seg_callD (by with_unfolding_all exact hh) Rp [] 46 (dA 0x28a28118b341086108248208048) [] (cB "list.__getitem__" [.ref pa,.int ((↑p:Int)+0) (t+1)]) [] [.u fun _=>oD #[En x.B n_end (t+0) (.int 0 t0)] 1,.k,.u fun _=>oI "tuple_iterator" #[.ref T,.int 1 0]] 0 2 ?_
 intro Tb2 h2 N2 t2 Rp kk2
 refine l_get Rp 4 rfl (by exact zqdL) (by exact zqdM hp) (show(refsOf cs)[((p:Int)+0).toNat]? =some (.ref c0.p) by rw[show((p:Int)+0).toNat=p by omega];exact refs_get e0) ?_
 with_reducible refine seg_callD (by with_unfolding_all exact hh) Rp [] 17 (dA 0x138c) [] (cR 283 [.ref (c0.p),.int (g.n) (g.un),.int (ce) uc]) [] [] 0 0 ?_
 intro Tb3 h3 N3 t3 Rp kk3
 have hh':∀B,(A.under B).handled=none:=fun _=>hh
 have b0:=hw.kk f0.1 f0.2.1
 have Rp:=(Rep.tail [_,_,_,_,_,_,_,_,_] Rp g0).mov 9 0
 refine law_hue x (A.under _) hh (by show A.depth+0<800;exact zqcd hA) _ _ (P p) g.n ce g.a g.v b0.1 b0.2.1 b0.2.2.1 f0.1 b0.2.2.2.1 b0.2.2.2.2 hw.n1 hce ha hv c0.p c0.r c0.g c0.b f0.2.2 _ _ _ _ _ _ _ _ _ Rp fun h4 N4 t4 v4 Rp=>?_
 have Rp:=Rep.tail [_,_,_,_,_,_,_,_,_] (Rp.mov 0 9) g0.symm
 show wpAny ..
 with_reducible refine seg_valD (by with_unfolding_all exact hh) Rp [] 19 (dA 0x70c71c1) [] (Fin.again (.compLoop (tdE x) 0 (.ref it) (.ref acc) (tdEnv x F C))) [] [.k,.u fun _=>oL #[.int (P p) v4] 1] 0 0 ?_
 intro Tb5 h5 N5 t5 Rp
 refine⟨rfl,code_tree ?_⟩
 with_reducible refine seg_callD (by with_unfolding_all exact hh) Rp [] 46 (dA 0x28a28118b341086108248208048) [] (cB "list.__getitem__" [.ref pa,.int ((↑p:Int)+1) (t5+1)]) [] [.u (dU [(0,.int 1 t1)] [] 1),.k,.u fun _=>oI "tuple_iterator" #[.ref T,.int 2 0]] 0 2 ?_
 intro Tb6 h6 N6 t6 Rp kk6
 refine l_get Rp 4 rfl (by exact zqce) (by exact zqcf hp) (show(refsOf cs)[((p:Int)+1).toNat]? =some (.ref c1.p) by rw[show((p:Int)+1).toNat=p+1 by omega];exact refs_get e1) ?_
 with_reducible refine seg_callD (by with_unfolding_all exact hh) Rp [] 17 (dA 0x138c) [] (cR 283 [.ref (c1.p),.int (g.n) (g.un),.int (ce) uc]) [] [] 0 0 ?_
 intro Tb7 h7 N7 t7 Rp kk7
 have b1:=hw.kk f1.1 f1.2.1
 have Rp:=(Rep.tail [_,_,_,_,_,_,_,_,_] Rp g1).mov 9 0
 refine law_hue x (A.under _) hh (by show A.depth+0<800;exact zqcd hA) _ _ (P (p+1)) g.n ce g.a g.v b1.1 b1.2.1 b1.2.2.1 f1.1 b1.2.2.2.1 b1.2.2.2.2 hw.n1 hce ha hv c1.p c1.r c1.g c1.b f1.2.2 _ _ _ _ _ _ _ _ _ Rp fun h6 N6 t6 v6 Rp=>?_
 have Rp:=Rep.tail [_,_,_,_,_,_,_,_,_] (Rp.mov 0 9) g1.symm
 show wpAny ..
 with_reducible refine seg_valD (by with_unfolding_all exact hh) Rp [] 19 (dA 0x70c71c1) [] (Fin.again (.compLoop (tdE x) 0 (.ref it) (.ref acc) (tdEnv x F C))) [] [.k,.u fun _=>oL #[.int (P p) v4,.int (P (p+1)) v6] 2] 0 0 ?_
 intro Tb8 h8 N8 t8 Rp
 refine⟨rfl,code_tree ?_⟩
 with_reducible refine seg_valD (by with_unfolding_all exact hh) Rp [] 27 (dA 0x6108248208048) (dM 4) (Fin.done Flow.next) [] [.k,.k,.d] 2 0 ?_
 intro Tb9 h9 N9 t9 Rp
 exact K _ _ _ _ _ _ _ _ _ Rp
end Mine
namespace Mine
open PySem
theorem and_high{U V s:Nat}(h:V<2^s):(2^s*U+V)&&&(2^s*U)=2^s*U:=by
 refine Nat.eq_of_testBit_eq fun j=>?_
 rw[Nat.testBit_and,Nat.testBit_two_pow_mul_add _ h,Nat.testBit_two_pow_mul]
 by_cases q:j<s
 ·rw[if_pos q,decide_eq_false (by exact oej q)];simp
 ·rw[if_neg q,decide_eq_true (by exact oek q)];simp
theorem or_high{U V s:Nat}(h:V<2^s):(2^s*U+V)|||(2^s*U)=2^s*U+V:=by
 refine Nat.eq_of_testBit_eq fun j=>?_
 rw[Nat.testBit_or,Nat.testBit_two_pow_mul_add _ h,Nat.testBit_two_pow_mul]
 by_cases q:j<s
 ·rw[if_pos q,decide_eq_false (by exact oej q)];simp
 ·rw[if_neg q,decide_eq_true (by exact oek q)];simp
theorem bitXor_high{X U s:Nat}(hU:X/2^s=U):Builtin.bitXor (X:Int) ((U:Int)*2^s)=((X%2^s:Nat):Int):=by
 have hX:X=2^s*U+X%2^s:=by rw[←hU];exact(Nat.div_add_mod X (2^s)).symm
 have hlt:X%2^s<2^s:=Nat.mod_lt _ (Nat.two_pow_pos s)
 have hW:(U:Int)*2^s=((2^s*U:Nat):Int):=by push_cast;exact Int.mul_comm _ _
 rw[hW]
 generalize hV:X%2^s=V at hX hlt
 generalize hY:2^s*U=Y
 have ha:X&&&Y=Y:=by rw[hX,←hY];exact and_high hlt
 have ho:X|||Y=X:=by rw[hX,←hY];exact or_high hlt
 have hXY:X=Y+V:=by rw[hX,←hY]
 have b1:Builtin.bitAnd (X:Int) (Y:Int)=((X&&&Y:Nat):Int):=by
  unfold Builtin.bitAnd
  rw[decide_eq_true (Int.natCast_nonneg X),decide_eq_true (Int.natCast_nonneg Y)]
  rfl
 have b2:Builtin.bitOr (X:Int) (Y:Int)=((X|||Y:Nat):Int):=by
  unfold Builtin.bitOr Builtin.bitAnd Builtin.bitNot
  rw[decide_eq_false (by exact oel),decide_eq_false (by exact oel)]
  show-(-(((- (-(X:Int)-1)-1).toNat|||(- (-(Y:Int)-1)-1).toNat:Nat):Int)-1)-1=_
  rw[show(- (-(X:Int)-1)-1).toNat=X by exact oem,show(- (-(Y:Int)-1)-1).toNat=Y by exact oem]
  exact zqfJ
 unfold Builtin.bitXor
 rw[b1,b2,ha,ho]
 exact zqfK hX hY
end Mine
namespace Mine
open PySem PySem.W PySem.W.X PyProof.Rows PySem.Spec PySem.Calls
noncomputable def fd54(x:W2)(cn ci cd tup:Addr)(cc:Addr):FuncData:=mkFd (fdOf x.B 80) (stmtAt x.B 80 1) (.str (S [108,97,119,95,116,97,48,49,49,54,95,48,49]) 677) [(n_n,cn),(n_inner,ci),(n_a_digits,cd)] (.ref cc) (.ref tup)
noncomputable def DigOk(items items':Array Value)(L M X n:Nat):Prop:=items'.size=items.size∧∀i,i<items.size→(L≤i∧i<M→∃u,items'[i]? =some (.int ((X/2^(n*(i-L))%2^n:Nat):Int) u))∧(¬(L≤i∧i<M)→items'[i]? =items[i]?)
theorem DigOk.one{items:Array Value}{L X n:Nat}{u:Nat}(hL:L<items.size)(hX:X<2^n):DigOk items (items.setIfInBounds ((L:Int).toNat) (.int (X:Int) u)) L (L+1) X n:=by
 refine⟨by rw[Array.size_setIfInBounds],fun i hi=>⟨fun q=>⟨u,?_⟩,fun q=>?_⟩⟩
 ·have:i=L:=by omega
  subst this
  rw[Int.toNat_natCast,Array.getElem?_setIfInBounds_self_of_lt hi,Nat.sub_self,Nat.mul_zero,Nat.pow_zero,Nat.div_one,Nat.mod_eq_of_lt hX]
 ·rw[Int.toNat_natCast,Array.getElem?_setIfInBounds_ne (by omega)]
theorem DigOk.join{items it1 it2:Array Value}{L mid M X U V n sh:Nat}(h1:L<mid)(h2:mid<M)(a:DigOk items it1 L mid V n)(b:DigOk it1 it2 mid M U n)(hs:n*(mid-L)=sh)(hU:X/2^sh=U)(hV:X%2^sh=V):DigOk items it2 L M X n:=by
 refine⟨b.1.trans a.1,fun i hi=>⟨fun q=>?_,fun q=>?_⟩⟩
 ·by_cases c:i<mid
  ·obtain⟨u,e⟩:=(a.2 i hi).1 ⟨q.1,c⟩
   refine⟨u,?_⟩
   rw[(b.2 i (by rw[a.1];exact hi)).2 (by exact zqfL c),e,←hV]
   have hr:n*(i-L)+n*(mid-i)=sh:=by rw[←Nat.mul_add,←hs];congr 1;omega
   have hd:2^n∣2^(n*(mid-i)):=Nat.pow_dvd_pow 2 (Nat.le_mul_of_pos_right n (by exact zqfM c))
   rw[←hr,Nat.pow_add,Nat.mod_mul_right_div_self,Nat.mod_mod_of_dvd _ hd]
  ·obtain⟨u,e⟩:=(b.2 i (by rw[a.1];exact hi)).1 ⟨by exact zqfN c,q.2⟩
   refine⟨u,?_⟩
   have hr:sh+n*(i-mid)=n*(i-L):=by rw[←hs,←Nat.mul_add];congr 1;omega
   rw[e,←hU,Nat.div_div_eq_div_mul,←Nat.pow_add,hr]
 ·rw[(b.2 i (by rw[a.1];exact hi)).2 (by omega),(a.2 i hi).2 (by omega)]
theorem inner54_1(x:W2)(cc:Addr)(v:Nat→Value)(tk:Nat)(A:Around)(hh:A.handled=none)(hA:A.depth<900)(R:Result→Shared→Prop)(n:Int)(X L M:Nat)(f cn ci cd dl tup:Addr)(items:Array Value)(n0:Nat)
 (ta tb tc tn:Nat) (N t:Nat) (h:Heap) (gl d os) (rest:Cells) (hL:L+1=M) (hM:M<4000) (hz:M≤items.size)
 (Rp:Rep (x.F54 cc v tk) N h ((f,⟨(.type "function"),none,.func (fd54 x cn ci cd tup cc),#[]⟩)::(dl,Lst items n0)::(ci,⟨.type "cell",none,.cell (some (.ref f)),#[]⟩)::(cd,⟨.type "cell",none,.cell (some (.ref dl)),#[]⟩)::(cn,⟨.type "cell",none,.cell (some (.int n tn)),#[]⟩)::rest) 0)
 (K:∀h' N' t',Rep (x.F54 cc v tk) N' h' ((f,⟨(.type "function"),none,.func (fd54 x cn ci cd tup cc),#[]⟩)::(dl,Lst (items.setIfInBounds ((L:Int).toNat) (.int (X:Int) ta)) n0)::(ci,⟨.type "cell",none,.cell (some (.ref f)),#[]⟩)::(cd,⟨.type "cell",none,.cell (some (.ref dl)),#[]⟩)::(cn,⟨.type "cell",none,.cell (some (.int n tn)),#[]⟩)::rest) 0→R (.ok (.ret .none)) ⟨h',gl,d,t',os⟩):
 codeAny (MB (x.F54 cc v tk)) A (.call (.ref f) ⟨[.int X ta,.int L tb,.int M tc],[]⟩) R ⟨h,gl,d,t,os⟩:=by
 refine enterD hh Rp (by exact oaF hA) 26 (dA 0x860860860c6) (bodyOf (fd54 x cn ci cd tup cc)) (envOf (fd54 x cn ci cd tup cc) f (N+0)) [(N+0,oF #[En (x.F54 cc v tk) n_x (t+0) (.int ((↑X:Int)) ta),En (x.F54 cc v tk) n_L (t+1) (.int ((↑L:Int)) tb),En (x.F54 cc v tk) n_R (t+2) (.int ((↑M:Int)) tc)] 3)] 1 3 (by rfl') ?_
 intro Tb1 h1 N1 t1 Rp
 refine cut 1 ?_
 with_reducible refine seg_callD (by with_unfolding_all exact hh) Rp [] 24 (dA 0x6046) [] (cB "int.__eq__" [.int ((↑L:Int)+1) (t1+1),.int ((↑M:Int)) tc]) [] [] 0 2 ?_
 intro Tb2 h2 N2 t2 Rp kk2
 refine i_eq (r:=true) (i:=((↑L:Int)+1)) (j:=((↑M:Int))) (decide_eq_true (by exact ofJ hL)) ?_
 with_reducible refine seg_callD (by with_unfolding_all exact hh) Rp [] 21 (dA 0x8206286) [] (cB "list.__setitem__" [.ref dl,.int ((↑L:Int)) tb,.int ((↑X:Int)) ta]) [] [] 0 0 ?_
 intro Tb3 h3 N3 t3 Rp kk3
 refine l_set Rp 2 rfl (by exact oaC) (by omega) (by omega) rfl fun h4 Rp=>?_
 try dsimp only[setN] at Rp
 with_reducible refine seg_valD (by with_unfolding_all exact hh) Rp [] 12 (dA 0x0) [] (Flow.ret .none) [] [.d] 0 0 ?_
 intro Tb5 h5 N5 t5 Rp
 exact K _ _ _ Rp
theorem perm6{a f b c d e:Addr×Obj}{rest:Cells}:(a::f::b::c::d::e::rest).Perm (f::b::c::d::e::a::rest):=(List.perm_middle (l₁:=[f,b,c,d,e])).symm
theorem inner54(x:W2)(cc:Addr)(v:Nat→Value)(tk:Nat)(n:Nat)(hn:0<n)(hn2:n<2000)(f cn ci cd dl tup:Addr)(n0:Nat)(tn:Nat):∀(D:Nat) (rest:Cells) (A:Around) (_:A.handled=none) (R:Result→Shared→Prop) (X L M:Nat) (items:Array Value)
 (ta tb tc:Nat) (N t:Nat) (h:Heap) (gl d os) (_:L<M) (_:M-L≤D) (_:A.depth+3*(M-L)<900) (_:M<4000) (_:M≤items.size) (_:X<2^(n*(M-L)))
 (_:Rep (x.F54 cc v tk) N h ((f,⟨(.type "function"),none,.func (fd54 x cn ci cd tup cc),#[]⟩)::(dl,Lst items n0)::(ci,⟨.type "cell",none,.cell (some (.ref f)),#[]⟩)::(cd,⟨.type "cell",none,.cell (some (.ref dl)),#[]⟩)::(cn,⟨.type "cell",none,.cell (some (.int n tn)),#[]⟩)::rest) 0)
 (_:∀h' N' t' items',DigOk items items' L M X n→Rep (x.F54 cc v tk) N' h' ((f,⟨(.type "function"),none,.func (fd54 x cn ci cd tup cc),#[]⟩)::(dl,Lst items' n0)::(ci,⟨.type "cell",none,.cell (some (.ref f)),#[]⟩)::(cd,⟨.type "cell",none,.cell (some (.ref dl)),#[]⟩)::(cn,⟨.type "cell",none,.cell (some (.int n tn)),#[]⟩)::rest) 0→R (.ok (.ret .none)) ⟨h',gl,d,t',os⟩),
 codeAny (MB (x.F54 cc v tk)) A (.call (.ref f) ⟨[.int X ta,.int L tb,.int M tc],[]⟩) R ⟨h,gl,d,t,os⟩:=by
 intro D
 induction D with
 |zero=>intro rest A hh R X L M items ta tb tc N t h gl d os hL hD;omega
 |succ D ih=>
 intro rest A hh R X L M items ta tb tc N t h gl d os hL hD hA hM hz hX Rp K
 by_cases hb:L+1=M
 ·refine inner54_1 x cc v tk A hh (by omega) R n X L M f cn ci cd dl tup items n0 ta tb tc tn N t h gl d os rest hb hM hz Rp fun h' N' t' Rp=>K _ _ _ _ ?_ Rp
  subst hb
  exact DigOk.one (by exact ofK hz) (by rwa[show L+1-L=1 by omega,Nat.mul_one] at hX)
 obtain⟨mid,hmid'⟩:∃mid,(L+M)/2=mid:=⟨_,rfl⟩
 obtain⟨sh,hsh'⟩:∃sh,(mid-L)*n=sh:=⟨_,rfl⟩
 obtain⟨U,hU'⟩:∃U,X/2^sh=U:=⟨_,rfl⟩
 obtain⟨V,hV'⟩:∃V,X%2^sh=V:=⟨_,rfl⟩
 have hm1:(L:Int)<mid:=by exact ofL hL hb hmid'
 have hm2:(mid:Int)<M:=by exact zqfO hL hmid'
 have hmid:((L:Int)+(M:Int)).fdiv (2^(1:Int).toNat)=(mid:Int):=by
  rw[show(2:Int)^(1:Int).toNat=2 from rfl,Int.fdiv_eq_ediv_of_nonneg _ (by decide)];exact ofM hmid'
 have hsh:((mid:Int)- (L:Int))*(n:Int)=(sh:Int):=by
  rw[←hsh',show(mid:Int)- (L:Int)=((mid-L:Nat):Int) by exact ofN hm1];push_cast;rfl
 have hU:(X:Int).fdiv (2^(sh:Int).toNat)=(U:Int):=by
  rw[Int.toNat_natCast,Int.fdiv_eq_ediv_of_nonneg _ (Int.le_of_lt (Int.pow_pos (by decide))),←hU'];push_cast;rfl
 have hW:(U:Int)*2^(sh:Int).toNat=(U:Int)*2^sh:=by rw[Int.toNat_natCast]
 have hV:Builtin.bitXor (X:Int) ((U:Int)*2^sh)=(V:Int):=by rw[bitXor_high hU',hV']
 have hsb:sh≤4000*2000:=by rw[←hsh'];exact Nat.mul_le_mul (by exact zqfP hM hmid') (by exact odb hn2)
 have hUb:(Builtin.Int.intBits (U:Int):Int)+(sh:Int)≤2^27:=by
  have hk:n*(M-L)≤2000*4000:=Nat.mul_le_mul (by exact odb hn2) (by exact zqfQ hA)
  have:Builtin.Int.intBits (U:Int)≤2000*4000:=intBits_le (Nat.lt_of_le_of_lt (by show(U:Int).natAbs≤X;rw[Int.natAbs_natCast,←hU'];exact Nat.div_le_self _ _) (Nat.lt_of_lt_of_le hX (Nat.pow_le_pow_right (by decide) hk)))
  exact ofO hsb this
 refine enterD hh Rp (by exact odM hA) 26 (dA 0x860860860c6) (bodyOf (fd54 x cn ci cd tup cc)) (envOf (fd54 x cn ci cd tup cc) f (N+0)) [(N+0,oF #[En (x.F54 cc v tk) n_x (t+0) (.int ((↑X:Int)) ta),En (x.F54 cc v tk) n_L (t+1) (.int ((↑L:Int)) tb),En (x.F54 cc v tk) n_R (t+2) (.int ((↑M:Int)) tc)] 3)] 1 3 (by rfl') ?_
 intro Tb1 h1 N1 t1 Rp
 refine cut 1 ?_
 with_reducible refine seg_callD (by with_unfolding_all exact hh) Rp [] 24 (dA 0x6046) [] (cB "int.__eq__" [.int ((↑L:Int)+1) (t1+1),.int ((↑M:Int)) tc]) [] [] 0 2 ?_
 intro Tb2 h2 N2 t2 Rp kk2
 refine i_eq (r:=false) (i:=((↑L:Int)+1)) (j:=((↑M:Int))) (decide_eq_false (by exact zqfR hmid' hm1)) ?_
 with_reducible refine seg_valD (by with_unfolding_all exact hh) Rp [] 11 (dA 0x0) [] Flow.next [] [] 0 0 ?_
 intro Tb3 h3 N3 t3 Rp
 refine cut 1 ?_
 with_reducible refine seg_callD (by with_unfolding_all exact hh) Rp [] 23 (dA 0x1186) [] (cB "int.__rshift__" [.int ((↑L:Int)+(↑M:Int)) (t3+0),.int 1 (t3+1)]) [] [] 0 2 ?_
 intro Tb4 h4 N4 t4 Rp kk4
 refine i_shr (i:=((↑L:Int)+(↑M:Int))) (j:=(1)) (c:=mid) (by decide) (by first|assumption|rfl) ?_
 with_reducible refine seg_valD (by with_unfolding_all exact hh) Rp [] 18 (dA 0x86) [] Flow.next [] [.u (dU [] [En (x.F54 cc v tk) n_mid (t4+1+0) (.int ((↑mid:Int)) t4)] 4)] 0 1 ?_
 intro Tb5 h5 N5 t5 Rp
 refine cut 1 ?_
 with_reducible refine seg_callD (by with_unfolding_all exact hh) Rp [] 24 (dA 0x2c1186) [] (cB "int.__mul__" [.int ((↑mid:Int)- (↑L:Int)) (t5+0),.int ((↑n:Int)) tn]) [] [] 0 1 ?_
 intro Tb6 h6 N6 t6 Rp kk6
 refine i_mul (i:=((↑mid:Int)- (↑L:Int))) (j:=((↑n:Int))) (c:=sh) (.inr (intBits_le_64 (by exact ofP) (by exact ofQ hn2))) (by exact ofR hsh) ?_
 with_reducible refine seg_valD (by with_unfolding_all exact hh) Rp [] 18 (dA 0x86) [] Flow.next [] [.u (dU [] [En (x.F54 cc v tk) n_shift (t6+1+0) (.int ((↑sh:Int)) t6)] 5)] 0 1 ?_
 intro Tb7 h7 N7 t7 Rp
 refine cut 1 ?_
 with_reducible refine seg_callD (by with_unfolding_all exact hh) Rp [] 17 (dA 0x186) [] (cB "int.__rshift__" [.int ((↑X:Int)) ta,.int ((↑sh:Int)) t6]) [] [] 0 0 ?_
 intro Tb8 h8 N8 t8 Rp kk8
 refine i_shr (i:=((↑X:Int))) (j:=((↑sh:Int))) (c:=U) (by exact oaC) (by first|assumption|rfl) ?_
 with_reducible refine seg_valD (by with_unfolding_all exact hh) Rp [] 18 (dA 0x86) [] Flow.next [] [.u (dU [] [En (x.F54 cc v tk) n_upper (t8+1+0) (.int ((↑U:Int)) t8)] 6)] 0 1 ?_
 intro Tb9 h9 N9 t9 Rp
 refine cut 1 ?_
 with_reducible refine seg_callD (by with_unfolding_all exact hh) Rp [] 19 (dA 0x6186) [] (cB "int.__lshift__" [.int ((↑U:Int)) t8,.int ((↑sh:Int)) t6]) [] [] 0 0 ?_
 intro Tb10 h10 N10 t10 Rp kk10
 refine i_shl (i:=((↑U:Int))) (j:=((↑sh:Int))) (c:=((U:Int)*2^sh)) (by exact oaC) (by first|assumption|omega) (by first|assumption|rfl) ?_
 with_reducible refine seg_callD (by with_unfolding_all exact hh) Rp [] 12 (dA 0x0) [] (cB "int.__xor__" [.int ((↑X:Int)) ta,.int ((↑U:Int)*2^sh) t10]) [] [] 0 0 ?_
 intro Tb11 h11 N11 t11 Rp kk11
 refine i_xor (i:=((↑X:Int))) (j:=((↑U:Int)*2^sh)) (c:=V) (by first|assumption|rfl) ?_
 with_reducible refine seg_valD (by with_unfolding_all exact hh) Rp [] 18 (dA 0x86) [] Flow.next [] [.u (dU [] [En (x.F54 cc v tk) n_lower (t11+1+0) (.int ((↑V:Int)) t11)] 7)] 0 1 ?_
 intro Tb12 h12 N12 t12 Rp
 refine cut 1 ?_
 with_reducible refine seg_callD (by with_unfolding_all exact hh) Rp [] 22 (dA 0x7186189) [] (cR f [.int ((↑V:Int)) t11,.int ((↑L:Int)) tb,.int ((↑mid:Int)) t4]) [] [] 0 0 ?_
 intro Tb13 h13 N13 t13 Rp kk13
 have hVlt:V<2^(n*(mid-L)):=by rw[←hV',Nat.mul_comm,hsh'];exact Nat.mod_lt _ (Nat.two_pow_pos _)
 refine ih _ (A.under _) hh _ V L mid items _ _ _ _ _ _ _ _ _ (by exact obp hm1) (by exact ofS hD hm2) (by show A.depth+1+3*(mid-L)<900;exact ofT hA hm1 hm2) (by exact zqfS hM hm2) (by exact ofU hz hm2) hVlt (Rp.perm perm6) fun hr1 Nr1 tr1 it1 hd1 Rp=>?_
 with_reducible refine seg_valD (by with_unfolding_all exact hh) Rp [] 12 (dA 0x0) [] Flow.next [] [] 0 0 ?_
 intro Tb14 h14 N14 t14 Rp
 refine cut 1 ?_
 with_reducible refine seg_callD (by with_unfolding_all exact hh) Rp [] 22 (dA 0x62cb2c8) [] (cR f [.int ((↑U:Int)) t8,.int ((↑mid:Int)) t4,.int ((↑M:Int)) tc]) [] [] 0 0 ?_
 intro Tb15 h15 N15 t15 Rp kk15
 have hUlt:U<2^(n*(M-mid)):=by
  rw[←hU']
  refine(Nat.div_lt_iff_lt_mul (Nat.two_pow_pos _)).mpr ?_
  rw[←Nat.pow_add,←hsh',Nat.mul_comm (mid-L) n,←Nat.mul_add,show M-mid+(mid-L)=M-L by omega]
  exact hX
 refine ih _ (A.under _) hh _ U mid M it1 _ _ _ _ _ _ _ _ _ (by exact obp hm2) (by exact ofV hD hm1) (by show A.depth+1+3*(M-mid)<900;exact ofW hA hm1 hm2) (by exact zqfT hM) (by rw[hd1.1];exact ofX hz) hUlt Rp fun hr2 Nr2 tr2 it2 hd2' Rp=>?_
 with_reducible refine seg_valD (by with_unfolding_all exact hh) Rp [] 12 (dA 0x0) [] Flow.next [] [.k,.k,.k,.k,.k,.d] 0 0 ?_
 intro Tb16 h16 N16 t16 Rp
 show wpAny _ _ (execsZ ..) ..
 with_reducible refine seg_valD (by with_unfolding_all exact hh) Rp [] 11 (dA 0x0) [] Flow.next [] [] 0 0 ?_
 intro Tb17 h17 N17 t17 Rp
 refine K _ _ _ it2 ?_ Rp
 exact DigOk.join (by exact obp hm1) (by exact obp hm2) hd1 hd2' (by rw[Nat.mul_comm];exact hsh') hU' hV'
noncomputable def DigsOf(items:Array Value)(X n k:Nat):Prop:=items.size=k∧∀i,i<k→∃u,items[i]? =some (.int ((X/2^(n*i)%2^n:Nat):Int) u)
theorem i2d(x:W2)(A:Around)(hh:A.handled=none)(hA:A.depth<600)(R:Result→Shared→Prop)(X n c k:Nat)(hc:((Builtin.Int.intBits (X:Int):Nat):Int)=(c:Int))(hn:0<n)(hn2:n<2000)(hc1:c<2000)
 (hk:(c+n-1)/n=k) (hk1:k<60) (hp:Builtin.divisionGoesByPylong ((c:Int)+(n:Int)-1) (n:Int)=false) (hX:X<2^(n*k)) (hX0:0<X→0<k)
 (ta tb:Nat) (N t:Nat) (h:Heap) (gl d os) (rest:Cells) (Rp:Rep x.B N h rest 0)
 (K:∀h' N' t' dl items,DigsOf items X n k→Rep x.B N' h' ((dl,Lst items 0)::rest) 0→R (.ok (.ret (.ref dl))) ⟨h',gl,d,t',os⟩):
 codeAny (MB x.B) A (.call (.ref 80) ⟨[.int X ta,.int n tb],[]⟩) R ⟨h,gl,d,t,os⟩:=by
 have hk':((c:Int)+(n:Int)-1).fdiv (n:Int)=(k:Int):=by
  rw[Int.fdiv_eq_ediv_of_nonneg _ (by exact oaC),←hk]
  rw[show(c:Int)+(n:Int)-1=((c+n-1:Nat):Int) by exact zqfU hn];rfl
 refine enter hh Rp (by first|assumption|(simp only[Around.under,Code.weight,recursionLimit] at*;omega)) 23 [0,0,8,4,7,3] [] (bodyOf (fdOf x.B 80)) (envC (envOf (fdOf x.B 80) 80 (N+0)) [(n_inner,N+3),(n_a_digits,N+2),(n_n,N+1)]) ((N+3,⟨.type "cell",none,.cell none,#[]⟩)::(N+2,⟨.type "cell",none,.cell none,#[]⟩)::(N+1,⟨.type "cell",none,.cell (some (.int ((↑n:Int)) tb)),#[]⟩)::(N+0,⟨.type "frame",none,.dict #[En x.B n_a (t+0) (.int ((↑X:Int)) ta)] 1,#[]⟩)::rest) 4 1 (by rfl') fun h1 N1 t1 Rp=>?_
 refine cut 1 ?_
 refine seg_call hh Rp 20 [9] [true,true,true,true,true] (.call (.builtin "int.bit_length") ⟨[.int ((↑X:Int)) ta],[]⟩) ((N1+0,⟨.type "list",none,.seq #[.int 0 (t1+0)] 0,#[]⟩)::(N+3,⟨.type "cell",none,.cell none,#[]⟩)::(N+2,⟨.type "cell",none,.cell none,#[]⟩)::(N+1,⟨.type "cell",none,.cell (some (.int ((↑n:Int)) tb)),#[]⟩)::(N+0,⟨.type "frame",none,.dict #[En x.B n_a (t+0) (.int ((↑X:Int)) ta)] 1,#[]⟩)::rest) 1 1 (by rfl') fun h2 N2 t2 Rp=>?_
 refine i_bits (i:=((↑X:Int))) (c:=(c:Int)) (by first|assumption|rfl) ?_
 refine seg_call hh Rp 28 [8,0,0,8] [true,true,true,true,true] (.call (.builtin "int.__floordiv__") ⟨[.int ((↑c:Int)+(↑n:Int)-1) (t2+1+2),.int ((↑n:Int)) tb],[]⟩) ((N1+0,⟨.type "list",none,.seq #[.int 0 (t1+0)] 0,#[]⟩)::(N+3,⟨.type "cell",none,.cell none,#[]⟩)::(N+2,⟨.type "cell",none,.cell none,#[]⟩)::(N+1,⟨.type "cell",none,.cell (some (.int ((↑n:Int)) tb)),#[]⟩)::(N+0,⟨.type "frame",none,.dict #[En x.B n_a (t+0) (.int ((↑X:Int)) ta)] 1,#[]⟩)::rest) 0 3 (by rfl') fun h3 N3 t3 Rp=>?_
 refine i_fdiv (i:=((↑c:Int)+(↑n:Int)-1)) (j:=((↑n:Int))) (c:=(k:Int)) (by exact zqfV hn) (by first|assumption|decide|rfl) (by first|assumption|(rw[Int.fdiv_eq_ediv_of_nonneg _ (by omega)];omega)) ?_
 refine seg_call hh Rp 20 [5,0,5,5] [true,true,true,true,true] (.call (.builtin "list.__mul__") ⟨[.ref (N1+0),.int ((↑k:Int)) t3],[]⟩) ((N1+0,⟨.type "list",none,.seq #[.int 0 (t1+0)] 0,#[]⟩)::(N+3,⟨.type "cell",none,.cell none,#[]⟩)::(N+2,⟨.type "cell",none,.cell none,#[]⟩)::(N+1,⟨.type "cell",none,.cell (some (.int ((↑n:Int)) tb)),#[]⟩)::(N+0,⟨.type "frame",none,.dict #[En x.B n_a (t+0) (.int ((↑X:Int)) ta)] 1,#[]⟩)::rest) 0 0 (by rfl') fun h4 N4 t4 Rp=>?_
 refine l_mul Rp 0 rfl (by exact oaC) (by exact zqfW hk1) fun h5 N5 a5 Rp=>?_
 refine seg_val hh Rp 16 [8,4] [true,true,true,true,true,true] Flow.next ((a5,⟨.type "list",none,.seq (Array.replicate (↑k:Int).toNat (Value.int 0 (t1+0))) 0,#[]⟩)::(N1+0,⟨.type "list",none,.seq #[.int 0 (t1+0)] 0,#[]⟩)::(N+3,⟨.type "cell",none,.cell none,#[]⟩)::(N+2,⟨.type "cell",none,.cell (some (.ref a5)),#[]⟩)::(N+1,⟨.type "cell",none,.cell (some (.int ((↑n:Int)) tb)),#[]⟩)::(N+0,⟨.type "frame",none,.dict #[En x.B n_a (t+0) (.int ((↑X:Int)) ta)] 1,#[]⟩)::rest) 0 0 (by rfl') fun h6 N6 t6 Rp=>?_
 refine cutTo 1 (fun s=>∃cc vv tk tup N' t' h' f,Rep (x.F54 cc vv tk) N' h' ((f,⟨.type "function",none,.func (fd54 x (N+1) (N+3) (N+2) tup cc),#[]⟩)::(a5,Lst (Array.replicate k (.int 0 (t1+0))) 0)::(N+3,⟨.type "cell",none,.cell (some (.ref f)),#[]⟩)::(N+2,⟨.type "cell",none,.cell (some (.ref a5)),#[]⟩)::(N+1,⟨.type "cell",none,.cell (some (.int (n:Int) tb)),#[]⟩)::(N+0,⟨.type "frame",none,.dict #[En x.B n_a (t+0) (.int (X:Int) ta)] 1,#[]⟩)::rest) 0∧s=⟨h',gl,d,t',os⟩) ?_ ?_
 ·rcases x.open54 Rp with Rp|⟨cc,vv,tk,Rp⟩
  ·show wpAny (MB x.E54) _ (execsZ _ _) _ _ _
   refine seg_upd hh Rp 37 [0,1,1] [true,false,false,false,false,false,false,true,false,true,true,true,true] 75 ((N6+6,⟨.type "code",none,.fields #[.str n_inner (t6+0),.str (S [95,105,110,116,50,100,105,103,105,116,115,46,60,108,111,99,97,108,115,62,46,105,110,110,101,114]) (t6+1),.str (S [47,99,108,97,105,109,47,99,117,116,46,112,121]) (t6+2),.int 79 0,.int 3 0,.int 0 0,.int 0 0,.int 19 0,.ref (N6+1),.bool true,.int 276 0,.ref (N6+2),.none,.ref (N6+3),.ref (N6+4),.ref (N6+5),.int ((↑(t6+13):Int)) 0,.int 79 0,.str (S [47,99,108,97,105,109,47,99,117,116,46,112,121]) (t6+14)],#[]⟩)::(a5,⟨.type "list",none,.seq (Array.replicate (↑k:Int).toNat (Value.int 0 (t1+0))) 0,#[]⟩)::(N+3,⟨.type "cell",none,.cell none,#[]⟩)::(N+2,⟨.type "cell",none,.cell (some (.ref a5)),#[]⟩)::(N+1,⟨.type "cell",none,.cell (some (.int ((↑n:Int)) tb)),#[]⟩)::(N+0,⟨.type "frame",none,.dict #[En x.E54 n_a (t+0) (.int ((↑X:Int)) ta)] 1,#[]⟩)::rest) 7 15 (by rfl') fun h7 N7 t7 Rp=>?_
   obtain⟨vv,Rp⟩:=Rp.code
   refine x.upd54 Rp (by rfl') fun hg Rp=>?_
   refine seg_val hh Rp 21 [1,0,0,0,7,3] [true,true,true,true,true,true] Flow.next ((N7+0,⟨.type "function",none,.func (mkFd (fdOf x.B 80) (stmtAt x.B 80 1) (.str (S [108,97,119,95,116,97,48,49,49,54,95,48,49]) 677) [(n_n,N+1),(n_inner,N+3),(n_a_digits,N+2)] (.ref (N6+6)) (.ref (N6+0))),#[]⟩)::(a5,⟨.type "list",none,.seq (Array.replicate (↑k:Int).toNat (Value.int 0 (t1+0))) 0,#[]⟩)::(N+3,⟨.type "cell",none,.cell (some (.ref (N7+0))),#[]⟩)::(N+2,⟨.type "cell",none,.cell (some (.ref a5)),#[]⟩)::(N+1,⟨.type "cell",none,.cell (some (.int ((↑n:Int)) tb)),#[]⟩)::(N+0,⟨.type "frame",none,.dict #[En (x.F54 (N6+6) vv (t6+1)) n_a (t+0) (.int ((↑X:Int)) ta)] 1,#[]⟩)::rest) 1 0 (by rfl') fun h8 N8 t8 Rp=>?_
   exact⟨_,_,_,_,_,_,_,_,Rp,rfl⟩
  ·show wpAny (MB (x.F54 cc vv tk)) _ (execsZ _ _) _ _ _
   refine seg_val hh Rp 24 [0,1,0,0,0,9,5] [true,true,true,false,true,true,true,true] Flow.next ((N6+1,⟨.type "function",none,.func (mkFd (fdOf x.B 80) (stmtAt x.B 80 1) (.str (S [108,97,119,95,116,97,48,49,49,54,95,48,49]) 677) [(n_n,N+1),(n_inner,N+3),(n_a_digits,N+2)] (.ref cc) (.ref (N6+0))),#[]⟩)::(N6+0,⟨.type "tuple",none,.seq #[.ref (N+2),.ref (N+3),.ref (N+1)] 0,#[]⟩)::(a5,⟨.type "list",none,.seq (Array.replicate (↑k:Int).toNat (Value.int 0 (t1+0))) 0,#[]⟩)::(N+3,⟨.type "cell",none,.cell (some (.ref (N6+1))),#[]⟩)::(N+2,⟨.type "cell",none,.cell (some (.ref a5)),#[]⟩)::(N+1,⟨.type "cell",none,.cell (some (.int ((↑n:Int)) tb)),#[]⟩)::(N+0,⟨.type "frame",none,.dict #[En (x.F54 cc vv tk) n_a (t+0) (.int ((↑X:Int)) ta)] 1,#[]⟩)::rest) 2 0 (by rfl') fun h7 N7 t7 Rp=>?_
   exact⟨_,_,_,_,_,_,_,_,Rp.sub (.cons_cons _ (.cons _ (.refl _))),rfl⟩
 ·rintro _ ⟨cc,vv,tk,tup,N',t',h',f,Rp,rfl⟩
  show wpAny (MB (x.F54 cc vv tk)) _ (execsZ _ _) _ _ _
  rcases X with _|X
  ·have hk0:k=0:=by
    rcases Nat.eq_zero_or_pos k with z|z
    ·exact z
    ·exfalso
     have hc0:c=0:=by
      have:Builtin.Int.intBits ((0:Nat):Int)=0:=by decide+kernel
      omega
     subst hc0
     have:(0+n-1)/n=0:=Nat.div_eq_of_lt (by exact ofG hn)
     exact zqfX z hk this
   refine seg_val hh Rp 21 [10,0,8] [false,true,false,false,false,false] (Flow.ret (.ref a5)) ((a5,⟨.type "list",none,.seq (Array.replicate k (Value.int 0 (t1+0))) 0,#[]⟩)::rest) 0 0 (by rfl') fun h7 N7 t7 Rp=>?_
   refine K _ _ _ _ _ ⟨?_,fun i hi=>?_⟩ Rp.ofExt
   ·simp
   ·omega
  ·refine cut 1 ?_
   refine seg_call hh Rp 30 [10,0,7,10,0,0,8] [true,true,true,true,true,true] (.call (.builtin "len") ⟨[.ref a5],[]⟩) ((f,⟨.type "function",none,.func (mkFd (fdOf x.B 80) (stmtAt x.B 80 1) (.str (S [108,97,119,95,116,97,48,49,49,54,95,48,49]) 677) [(n_n,N+1),(n_inner,N+3),(n_a_digits,N+2)] (.ref cc) (.ref tup)),#[]⟩)::(a5,⟨.type "list",none,.seq (Array.replicate k (Value.int 0 (t1+0))) 0,#[]⟩)::(N+3,⟨.type "cell",none,.cell (some (.ref f)),#[]⟩)::(N+2,⟨.type "cell",none,.cell (some (.ref a5)),#[]⟩)::(N+1,⟨.type "cell",none,.cell (some (.int ((↑n:Int)) tb)),#[]⟩)::(N+0,⟨.type "frame",none,.dict #[En (x.F54 cc vv tk) n_a (t+0) (.int ((↑(X+1):Int)) ta)] 1,#[]⟩)::rest) 0 1 (by rfl') fun h7 N7 t7 Rp=>?_
   refine l_lenF hh Rp 1 rfl (k:=k) (by simp) (by exact zqfY hk1) fun hl Nl tl ul Rp=>?_
   refine seg_call hh Rp 14 [5] [true,true,true,true,true,true] (.call (.ref f) ⟨[.int ((↑(X+1):Int)) ta,.int 0 (t'+0),.int ((↑k:Int)) ul],[]⟩) ((f,⟨.type "function",none,.func (mkFd (fdOf x.B 80) (stmtAt x.B 80 1) (.str (S [108,97,119,95,116,97,48,49,49,54,95,48,49]) 677) [(n_n,N+1),(n_inner,N+3),(n_a_digits,N+2)] (.ref cc) (.ref tup)),#[]⟩)::(a5,⟨.type "list",none,.seq (Array.replicate k (Value.int 0 (t1+0))) 0,#[]⟩)::(N+3,⟨.type "cell",none,.cell (some (.ref f)),#[]⟩)::(N+2,⟨.type "cell",none,.cell (some (.ref a5)),#[]⟩)::(N+1,⟨.type "cell",none,.cell (some (.int ((↑n:Int)) tb)),#[]⟩)::(N+0,⟨.type "frame",none,.dict #[En (x.F54 cc vv tk) n_a (t+0) (.int ((↑(X+1):Int)) ta)] 1,#[]⟩)::rest) 0 0 (by rfl') fun h8 N8 t8 Rp=>?_
   refine inner54 x cc vv tk n hn hn2 f (N+1) (N+3) (N+2) a5 tup 0 tb k _ (A.under _) hh _ (X+1) 0 k _ _ _ _ _ _ _ _ _ _ (hX0 (by exact odD)) (by exact ohO) (by show A.depth+1+3*(k-0)<900;exact zqfZ hA hk1) (by exact zqga hk1) (by simp) (by simpa using hX) Rp fun hr Nr tr items hd Rp=>?_
   refine seg_val hh Rp 12 [] [true,true,true,true,true,true] Flow.next ((f,⟨.type "function",none,.func (mkFd (fdOf x.B 80) (stmtAt x.B 80 1) (.str (S [108,97,119,95,116,97,48,49,49,54,95,48,49]) 677) [(n_n,N+1),(n_inner,N+3),(n_a_digits,N+2)] (.ref cc) (.ref tup)),#[]⟩)::(a5,⟨.type "list",none,.seq items 0,#[]⟩)::(N+3,⟨.type "cell",none,.cell (some (.ref f)),#[]⟩)::(N+2,⟨.type "cell",none,.cell (some (.ref a5)),#[]⟩)::(N+1,⟨.type "cell",none,.cell (some (.int ((↑n:Int)) tb)),#[]⟩)::(N+0,⟨.type "frame",none,.dict #[En (x.F54 cc vv tk) n_a (t+0) (.int ((↑(X+1):Int)) ta)] 1,#[]⟩)::rest) 0 0 (by rfl') fun h9 N9 t9 Rp=>?_
   show wpAny (MB (x.F54 cc vv tk)) _ (execsZ _ _) _ _ _
   refine seg_val hh Rp 14 [8] [false,true,false,false,false,false] (Flow.ret (.ref a5)) ((a5,⟨.type "list",none,.seq items 0,#[]⟩)::rest) 0 0 (by rfl') fun h10 N10 t10 Rp=>?_
   refine K _ _ _ _ _ ⟨?_,fun i hi=>?_⟩ Rp.ofExt
   ·rw[hd.1];simp
   ·obtain⟨u,hu⟩:=(hd.2 i (by simpa using hi)).1 ⟨by exact zqgb,hi⟩
    exact⟨u,by simpa using hu⟩
noncomputable def fd61(x:W2)(cd cn ci tup:Addr)(cc:Addr):FuncData:=mkFd (fdOf x.B 87) (stmtAt x.B 87 0) (.str (S [108,97,119,95,116,97,48,49,49,54,95,48,49]) 677) [(n_n,cn),(n_inner,ci),(n_digits,cd)] (.ref cc) (.ref tup)
theorem inner61(x:W2)(cc:Addr)(v:Nat→Value)(tk:Nat)(n:Nat)(hn:0<n)(hn2:n<2000)(f cn ci cd dl tup:Addr)(n0:Nat)(tn:Nat)(items:Array Value)(Q k:Nat)(hk:k<4000)(hdg:DigsOf items Q n k):∀(D:Nat) (rest:Cells) (A:Around) (_:A.handled=none) (R:Result→Shared→Prop) (L M:Nat)
 (tb tc:Nat) (N t:Nat) (h:Heap) (gl d os) (_:L<M) (_:M-L≤D) (_:A.depth+3*(M-L)<900) (_:M≤k)
 (_:Rep (x.F61 cc v tk) N h ((f,⟨(.type "function"),none,.func (fd61 x cd cn ci tup cc),#[]⟩)::(ci,⟨.type "cell",none,.cell (some (.ref f)),#[]⟩)::(cn,⟨.type "cell",none,.cell (some (.int n tn)),#[]⟩)::(cd,⟨.type "cell",none,.cell (some (.ref dl)),#[]⟩)::(dl,Lst items n0)::rest) 0)
 (_:∀h' N' t' u,Rep (x.F61 cc v tk) N' h' ((f,⟨(.type "function"),none,.func (fd61 x cd cn ci tup cc),#[]⟩)::(ci,⟨.type "cell",none,.cell (some (.ref f)),#[]⟩)::(cn,⟨.type "cell",none,.cell (some (.int n tn)),#[]⟩)::(cd,⟨.type "cell",none,.cell (some (.ref dl)),#[]⟩)::(dl,Lst items n0)::rest) 0→R (.ok (.ret (.int ((Q/2^(n*L)%2^(n*(M-L)):Nat):Int) u))) ⟨h',gl,d,t',os⟩),
 codeAny (MB (x.F61 cc v tk)) A (.call (.ref f) ⟨[.int L tb,.int M tc],[]⟩) R ⟨h,gl,d,t,os⟩:=by
 intro D
 induction D with
 |zero=>intro rest A hh R L M tb tc N t h gl d os hL hD;omega
 |succ D ih=>
 intro rest A hh R L M tb tc N t h gl d os hL hD hA hM Rp K
 obtain⟨Z,hZ⟩:∃Z,Q/2^(n*L)%2^(n*(M-L))=Z:=⟨_,rfl⟩
 rw[hZ] at K
 by_cases hb:L+1=M
 ·obtain⟨u0,hu0⟩:=hdg.2 L (by omega)
  rw[show n*(M-L)=n by rw[show M-L=1 by omega,Nat.mul_one]] at hZ
  rw[hZ] at hu0
  refine enterD hh Rp (by exact odM hA) 22 (dA 0x860860c6) (bodyOf (fd61 x cd cn ci tup cc)) (envOf (fd61 x cd cn ci tup cc) f (N+0)) [(N+0,oF #[En (x.F61 cc v tk) n_L (t+0) (.int ((↑L:Int)) tb),En (x.F61 cc v tk) n_R (t+1) (.int ((↑M:Int)) tc)] 2)] 1 2 (by rfl') ?_
  intro Tb1 h1 N1 t1 Rp
  refine cut 1 ?_
  with_reducible refine seg_callD (by with_unfolding_all exact hh) Rp [] 24 (dA 0x6046) [] (cB "int.__eq__" [.int ((↑L:Int)+1) (t1+1),.int ((↑M:Int)) tc]) [] [] 0 2 ?_
  intro Tb2 h2 N2 t2 Rp kk2
  refine i_eq (r:=true) (i:=((↑L:Int)+1)) (j:=((↑M:Int))) (decide_eq_true (by exact ofJ hb)) ?_
  with_reducible refine seg_callD (by with_unfolding_all exact hh) Rp [] 20 (dA 0xb2cb18a) [] (cB "list.__getitem__" [.ref dl,.int ((↑L:Int)) tb]) [] [] 0 0 ?_
  intro Tb3 h3 N3 t3 Rp kk3
  refine l_get Rp 5 rfl (by exact oaC) (by omega) hu0 ?_
  with_reducible refine seg_valD (by with_unfolding_all exact hh) Rp [] 11 (dA 0x0) [] (Flow.ret (.int ((↑Z:Int)) u0)) [] [.d] 0 0 ?_
  intro Tb4 h4 N4 t4 Rp
  exact K _ _ _ _ Rp
 obtain⟨mid,hmid'⟩:∃mid,(L+M)/2=mid:=⟨_,rfl⟩
 obtain⟨sh,hsh'⟩:∃sh,(mid-L)*n=sh:=⟨_,rfl⟩
 have hm1:(L:Int)<mid:=by exact ofL hL hb hmid'
 have hm2:(mid:Int)<M:=by exact zqgc hmid' hm1
 obtain⟨U,hU'⟩:∃U,Q/2^(n*mid)%2^(n*(M-mid))=U:=⟨_,rfl⟩
 obtain⟨V,hV'⟩:∃V,Q/2^(n*L)%2^(n*(mid-L))=V:=⟨_,rfl⟩
 obtain⟨P,hP'⟩:∃P,U*2^sh=P:=⟨_,rfl⟩
 have hPZ:P+V=Z:=by
  have e1:n*(M-L)=sh+n*(M-mid):=by rw[←hsh',Nat.mul_comm _ n,←Nat.mul_add];congr 1;omega
  have e2:n*mid=n*L+sh:=by rw[←hsh',Nat.mul_comm _ n,←Nat.mul_add];congr 1;exact zqgd hm1
  rw[←hZ,←hP',←hV',←hU',e1,e2,Nat.pow_add 2 sh,Nat.mod_mul,Nat.pow_add,←Nat.div_div_eq_div_mul,show n*(mid-L)=sh by rw[Nat.mul_comm,hsh']]
  rw[Nat.mul_comm (2^sh),Nat.add_comm]
 have hmid:((L:Int)+(M:Int)).fdiv (2^(1:Int).toNat)=(mid:Int):=by
  rw[show(2:Int)^(1:Int).toNat=2 from rfl,Int.fdiv_eq_ediv_of_nonneg _ (by decide)];exact ofM hmid'
 have hsh:((mid:Int)- (L:Int))*(n:Int)=(sh:Int):=by
  rw[←hsh',show(mid:Int)- (L:Int)=((mid-L:Nat):Int) by exact ofN hm1];push_cast;rfl
 have hP:(U:Int)*2^(sh:Int).toNat=(P:Int):=by rw[Int.toNat_natCast,←hP'];push_cast;rfl
 have hsb:sh≤4000*2000:=by rw[←hsh'];exact Nat.mul_le_mul (by exact zqge hk hM hmid') (by exact odb hn2)
 have hUb:(Builtin.Int.intBits (U:Int):Int)+(sh:Int)≤2^27:=by
  have hk:n*(M-mid)≤2000*4000:=Nat.mul_le_mul (by exact odb hn2) (by exact ohR hk hM)
  have:Builtin.Int.intBits (U:Int)≤2000*4000:=intBits_le (Nat.lt_of_lt_of_le (by show(U:Int).natAbs<2^(n*(M-mid));rw[Int.natAbs_natCast,←hU'];exact Nat.mod_lt _ (Nat.two_pow_pos _)) (Nat.pow_le_pow_right (by decide) hk))
  exact ofO hsb this
 refine enterD hh Rp (by exact odM hA) 22 (dA 0x860860c6) (bodyOf (fd61 x cd cn ci tup cc)) (envOf (fd61 x cd cn ci tup cc) f (N+0)) [(N+0,oF #[En (x.F61 cc v tk) n_L (t+0) (.int ((↑L:Int)) tb),En (x.F61 cc v tk) n_R (t+1) (.int ((↑M:Int)) tc)] 2)] 1 2 (by rfl') ?_
 intro Tb1 h1 N1 t1 Rp
 refine cut 1 ?_
 with_reducible refine seg_callD (by with_unfolding_all exact hh) Rp [] 24 (dA 0x6046) [] (cB "int.__eq__" [.int ((↑L:Int)+1) (t1+1),.int ((↑M:Int)) tc]) [] [] 0 2 ?_
 intro Tb2 h2 N2 t2 Rp kk2
 refine i_eq (r:=false) (i:=((↑L:Int)+1)) (j:=((↑M:Int))) (decide_eq_false (by exact zqgf hm1 hm2)) ?_
 with_reducible refine seg_valD (by with_unfolding_all exact hh) Rp [] 11 (dA 0x0) [] Flow.next [] [] 0 0 ?_
 intro Tb3 h3 N3 t3 Rp
 refine cut 1 ?_
 with_reducible refine seg_callD (by with_unfolding_all exact hh) Rp [] 23 (dA 0x1186) [] (cB "int.__rshift__" [.int ((↑L:Int)+(↑M:Int)) (t3+0),.int 1 (t3+1)]) [] [] 0 2 ?_
 intro Tb4 h4 N4 t4 Rp kk4
 refine i_shr (i:=((↑L:Int)+(↑M:Int))) (j:=(1)) (c:=mid) (by decide) (by first|assumption|rfl) ?_
 with_reducible refine seg_valD (by with_unfolding_all exact hh) Rp [] 18 (dA 0x86) [] Flow.next [] [.u (dU [] [En (x.F61 cc v tk) n_mid (t4+1+0) (.int ((↑mid:Int)) t4)] 3)] 0 1 ?_
 intro Tb5 h5 N5 t5 Rp
 refine cut 1 ?_
 with_reducible refine seg_callD (by with_unfolding_all exact hh) Rp [] 24 (dA 0x241186) [] (cB "int.__mul__" [.int ((↑mid:Int)- (↑L:Int)) (t5+0),.int ((↑n:Int)) tn]) [] [] 0 1 ?_
 intro Tb6 h6 N6 t6 Rp kk6
 refine i_mul (i:=((↑mid:Int)- (↑L:Int))) (j:=((↑n:Int))) (c:=sh) (.inr (intBits_le_64 (by exact ofP) (by exact ofQ hn2))) (by exact ofR hsh) ?_
 with_reducible refine seg_valD (by with_unfolding_all exact hh) Rp [] 18 (dA 0x86) [] Flow.next [] [.u (dU [] [En (x.F61 cc v tk) n_shift (t6+1+0) (.int ((↑sh:Int)) t6)] 4)] 0 1 ?_
 intro Tb7 h7 N7 t7 Rp
 refine cut 1 ?_
 with_reducible refine seg_callD (by with_unfolding_all exact hh) Rp [] 20 (dA 0x1c6188) [] (cR f [.int ((↑mid:Int)) t4,.int ((↑M:Int)) tc]) [] [] 0 0 ?_
 intro Tb8 h8 N8 t8 Rp kk8
 refine ih _ (A.under _) hh _ mid M _ _ _ _ _ _ _ _ (by exact obp hm2) (by exact ofV hD hm1) (by show A.depth+1+3*(M-mid)<900;exact ofW hA hm1 hm2) (by exact ofX hM) (Rp.perm perm6) fun hr1 Nr1 tr1 ur1 Rp=>?_
 rw[hU']
 with_reducible refine seg_callD (by with_unfolding_all exact hh) Rp [] 15 (dA 0xb) [] (cB "int.__lshift__" [.int ((↑U:Int)) ur1,.int ((↑sh:Int)) t6]) [] [] 0 0 ?_
 intro Tb9 h9 N9 t9 Rp kk9
 refine i_shl (i:=((↑U:Int))) (j:=((↑sh:Int))) (c:=(P:Int)) (by exact oaC) (by first|assumption|omega) (by first|assumption|rfl) ?_
 with_reducible refine seg_callD (by with_unfolding_all exact hh) Rp [] 19 (dA 0x18b2c7) [] (cR f [.int ((↑L:Int)) tb,.int ((↑mid:Int)) t4]) [] [] 0 0 ?_
 intro Tb10 h10 N10 t10 Rp kk10
 refine ih _ (A.under _) hh _ L mid _ _ _ _ _ _ _ _ (by exact obp hm1) (by exact ofS hD hm2) (by show A.depth+1+3*(mid-L)<900;exact ofT hA hm1 hm2) (by exact ofU hM hm2) Rp fun hr2 Nr2 tr2 ur2 Rp=>?_
 rw[hV']
 with_reducible refine seg_callD (by with_unfolding_all exact hh) Rp [] 13 (dA 0x0) [] (cB "int.__add__" [.int ((↑P:Int)) t9,.int ((↑V:Int)) ur2]) [] [.k,.k,.k,.k,.k,.d] 0 0 ?_
 intro Tb11 h11 N11 t11 Rp kk11
 refine i_add (i:=((↑P:Int))) (j:=((↑V:Int))) (c:=(Z:Int)) (by exact zqgg hPZ) ?_
 with_reducible refine seg_valD (by with_unfolding_all exact hh) Rp [] 11 (dA 0x0) [] (Flow.ret (.int ((↑Z:Int)) t11)) [] [] 0 0 ?_
 intro Tb12 h12 N12 t12 Rp
 exact K _ _ _ _ Rp
theorem d2i(x:W2)(A:Around)(hh:A.handled=none)(hA:A.depth<600)(R:Result→Shared→Prop)(Q n k:Nat)(hn:0<n)(hn2:n<2000)
 (hk1:k<60) (hQ:Q<2^(n*k))
 (ta tb:Nat) (N t:Nat) (h:Heap) (gl d os) (rest:Cells) (dl:Addr) (items:Array Value) (n0:Nat) (hd:DigsOf items Q n k) (Rp:Rep x.B N h ((dl,Lst items n0)::rest) 0)
 (K:∀h' N' t' u,Rep x.B N' h' rest 0→R (.ok (.ret (.int Q u))) ⟨h',gl,d,t',os⟩):
 codeAny (MB x.B) A (.call (.ref 87) ⟨[.ref dl,.int n tb],[]⟩) R ⟨h,gl,d,t,os⟩:=by
 refine enter hh Rp (by first|assumption|(simp only[Around.under,Code.weight,recursionLimit] at*;omega)) 21 [0,0,7,3,6,2] [] (bodyOf (fdOf x.B 87)) (envC (envOf (fdOf x.B 87) 87 (N+0)) [(n_inner,N+3),(n_n,N+2),(n_digits,N+1)]) ((N+3,⟨.type "cell",none,.cell none,#[]⟩)::(N+2,⟨.type "cell",none,.cell (some (.int ((↑n:Int)) tb)),#[]⟩)::(N+1,⟨.type "cell",none,.cell (some (.ref dl)),#[]⟩)::(N+0,⟨.type "frame",none,.dict #[] 0,#[]⟩)::(dl,⟨.type "list",none,.seq items n0,#[]⟩)::rest) 4 0 (by rfl') fun h1 N1 t1 Rp=>?_
 refine cutTo 1 (fun s=>∃cc vv tk tup N' t' h' f,Rep (x.F61 cc vv tk) N' h' ((f,⟨.type "function",none,.func (fd61 x (N+1) (N+2) (N+3) tup cc),#[]⟩)::(N+3,⟨.type "cell",none,.cell (some (.ref f)),#[]⟩)::(N+2,⟨.type "cell",none,.cell (some (.int (n:Int) tb)),#[]⟩)::(N+1,⟨.type "cell",none,.cell (some (.ref dl)),#[]⟩)::(dl,Lst items n0)::(N+0,⟨.type "frame",none,.dict #[] 0,#[]⟩)::rest) 0∧s=⟨h',gl,d,t',os⟩) ?_ ?_
 ·rcases x.open61 Rp with Rp|⟨cc,vv,tk,Rp⟩
  ·show wpAny (MB x.E61) _ (execsZ _ _) _ _ _
   refine seg_upd hh Rp 34 [0,1,1] [true,false,false,false,false,false,false,true,true,true,true,true] 82 ((N1+6,⟨.type "code",none,.fields #[.str n_inner (t1+0),.str (S [95,100,105,103,105,116,115,50,105,110,116,46,60,108,111,99,97,108,115,62,46,105,110,110,101,114]) (t1+1),.str (S [47,99,108,97,105,109,47,99,117,116,46,112,121]) (t1+2),.int 94 0,.int 2 0,.int 0 0,.int 0 0,.int 19 0,.ref (N1+1),.bool true,.int 276 0,.ref (N1+2),.none,.ref (N1+3),.ref (N1+4),.ref (N1+5),.int ((↑(t1+10):Int)) 0,.int 94 0,.str (S [47,99,108,97,105,109,47,99,117,116,46,112,121]) (t1+11)],#[]⟩)::(N+3,⟨.type "cell",none,.cell none,#[]⟩)::(N+2,⟨.type "cell",none,.cell (some (.int ((↑n:Int)) tb)),#[]⟩)::(N+1,⟨.type "cell",none,.cell (some (.ref dl)),#[]⟩)::(N+0,⟨.type "frame",none,.dict #[] 0,#[]⟩)::(dl,⟨.type "list",none,.seq items n0,#[]⟩)::rest) 7 12 (by rfl') fun h2 N2 t2 Rp=>?_
   obtain⟨vv,Rp⟩:=Rp.code
   refine x.upd61 Rp (by rfl') fun hg Rp=>?_
   refine seg_val hh Rp 21 [1,0,0,0,6,2] [true,true,true,true,true,true] Flow.next ((N2+0,⟨.type "function",none,.func (mkFd (fdOf x.B 87) (stmtAt x.B 87 0) (.str (S [108,97,119,95,116,97,48,49,49,54,95,48,49]) 677) [(n_n,N+2),(n_inner,N+3),(n_digits,N+1)] (.ref (N1+6)) (.ref (N1+0))),#[]⟩)::(N+3,⟨.type "cell",none,.cell (some (.ref (N2+0))),#[]⟩)::(N+2,⟨.type "cell",none,.cell (some (.int ((↑n:Int)) tb)),#[]⟩)::(N+1,⟨.type "cell",none,.cell (some (.ref dl)),#[]⟩)::(N+0,⟨.type "frame",none,.dict #[] 0,#[]⟩)::(dl,⟨.type "list",none,.seq items n0,#[]⟩)::rest) 1 0 (by rfl') fun h3 N3 t3 Rp=>?_
   exact⟨_,_,_,_,_,_,_,_,Rp.perm (.cons _ (.cons _ (.cons _ (.cons _ (.swap _ _ _))))),rfl⟩
  ·show wpAny (MB (x.F61 cc vv tk)) _ (execsZ _ _) _ _ _
   refine seg_val hh Rp 24 [0,1,0,0,0,7,3] [true,true,true,true,true,true,true] Flow.next ((N1+1,⟨.type "function",none,.func (mkFd (fdOf x.B 87) (stmtAt x.B 87 0) (.str (S [108,97,119,95,116,97,48,49,49,54,95,48,49]) 677) [(n_n,N+2),(n_inner,N+3),(n_digits,N+1)] (.ref cc) (.ref (N1+0))),#[]⟩)::(N1+0,⟨.type "tuple",none,.seq #[.ref (N+1),.ref (N+3),.ref (N+2)] 0,#[]⟩)::(N+3,⟨.type "cell",none,.cell (some (.ref (N1+1))),#[]⟩)::(N+2,⟨.type "cell",none,.cell (some (.int ((↑n:Int)) tb)),#[]⟩)::(N+1,⟨.type "cell",none,.cell (some (.ref dl)),#[]⟩)::(N+0,⟨.type "frame",none,.dict #[] 0,#[]⟩)::(dl,⟨.type "list",none,.seq items n0,#[]⟩)::rest) 2 0 (by rfl') fun h2 N2 t2 Rp=>?_
   exact⟨_,_,_,_,_,_,_,_,(Rp.sub (.cons_cons _ (.cons _ (.refl _)))).perm (.cons _ (.cons _ (.cons _ (.cons _ (.swap _ _ _))))),rfl⟩
 ·rintro _ ⟨cc,vv,tk,tup,N',t',h',f,Rp,rfl⟩
  show wpAny (MB (x.F61 cc vv tk)) _ (execsZ _ _) _ _ _
  rcases k with _|k
  ·have hQ0:Q=0:=by simpa using hQ
   subst hQ0
   refine seg_call hh Rp 17 [8,9,9] [true,true,true,true,true,true] (.builtin "len" ⟨[.ref dl],[]⟩) ((f,⟨.type "function",none,.func (mkFd (fdOf x.B 87) (stmtAt x.B 87 0) (.str (S [108,97,119,95,116,97,48,49,49,54,95,48,49]) 677) [(n_n,N+2),(n_inner,N+3),(n_digits,N+1)] (.ref cc) (.ref tup)),#[]⟩)::(N+3,⟨.type "cell",none,.cell (some (.ref f)),#[]⟩)::(N+2,⟨.type "cell",none,.cell (some (.int ((↑n:Int)) tb)),#[]⟩)::(N+1,⟨.type "cell",none,.cell (some (.ref dl)),#[]⟩)::(dl,⟨.type "list",none,.seq items n0,#[]⟩)::(N+0,⟨.type "frame",none,.dict #[] 0,#[]⟩)::rest) 0 0 (by rfl') fun h2 N2 t2 Rp=>?_
   refine l_lenB Rp 4 rfl (k:=0) hd.1 (by decide) ?_
   refine seg_val hh Rp 12 [] [false,false,false,false,false,false] (Flow.ret (.int 0 (t2+2+0))) (rest) 0 1 (by rfl') fun h3 N3 t3 Rp=>?_
   exact K _ _ _ _ Rp.ofExt
  ·refine seg_call hh Rp 17 [8,9,9] [true,true,true,true,true,true] (.builtin "len" ⟨[.ref dl],[]⟩) ((f,⟨.type "function",none,.func (mkFd (fdOf x.B 87) (stmtAt x.B 87 0) (.str (S [108,97,119,95,116,97,48,49,49,54,95,48,49]) 677) [(n_n,N+2),(n_inner,N+3),(n_digits,N+1)] (.ref cc) (.ref tup)),#[]⟩)::(N+3,⟨.type "cell",none,.cell (some (.ref f)),#[]⟩)::(N+2,⟨.type "cell",none,.cell (some (.int ((↑n:Int)) tb)),#[]⟩)::(N+1,⟨.type "cell",none,.cell (some (.ref dl)),#[]⟩)::(dl,⟨.type "list",none,.seq items n0,#[]⟩)::(N+0,⟨.type "frame",none,.dict #[] 0,#[]⟩)::rest) 0 0 (by rfl') fun h2 N2 t2 Rp=>?_
   refine l_lenB Rp 4 rfl (k:=k+1) hd.1 (by exact oeJ hk1) ?_
   refine seg_call hh Rp 20 [6,0,0,8] [true,true,true,true,true,true] (.call (.builtin "len") ⟨[.ref dl],[]⟩) ((f,⟨.type "function",none,.func (mkFd (fdOf x.B 87) (stmtAt x.B 87 0) (.str (S [108,97,119,95,116,97,48,49,49,54,95,48,49]) 677) [(n_n,N+2),(n_inner,N+3),(n_digits,N+1)] (.ref cc) (.ref tup)),#[]⟩)::(N+3,⟨.type "cell",none,.cell (some (.ref f)),#[]⟩)::(N+2,⟨.type "cell",none,.cell (some (.int ((↑n:Int)) tb)),#[]⟩)::(N+1,⟨.type "cell",none,.cell (some (.ref dl)),#[]⟩)::(dl,⟨.type "list",none,.seq items n0,#[]⟩)::(N+0,⟨.type "frame",none,.dict #[] 0,#[]⟩)::rest) 0 1 (by rfl') fun h3 N3 t3 Rp=>?_
   refine l_lenF hh Rp 4 rfl (k:=k+1) hd.1 (by exact oeJ hk1) fun hl Nl tl ul Rp=>?_
   refine seg_call hh Rp 14 [5] [true,true,true,true,true,true] (.call (.ref f) ⟨[.int 0 ((mkV (x.F61 cc vv tk) N2 (t2+2)).t₀+0),.int ((↑(k+1):Int)) ul],[]⟩) ((f,⟨.type "function",none,.func (mkFd (fdOf x.B 87) (stmtAt x.B 87 0) (.str (S [108,97,119,95,116,97,48,49,49,54,95,48,49]) 677) [(n_n,N+2),(n_inner,N+3),(n_digits,N+1)] (.ref cc) (.ref tup)),#[]⟩)::(N+3,⟨.type "cell",none,.cell (some (.ref f)),#[]⟩)::(N+2,⟨.type "cell",none,.cell (some (.int ((↑n:Int)) tb)),#[]⟩)::(N+1,⟨.type "cell",none,.cell (some (.ref dl)),#[]⟩)::(dl,⟨.type "list",none,.seq items n0,#[]⟩)::(N+0,⟨.type "frame",none,.dict #[] 0,#[]⟩)::rest) 0 0 (by rfl') fun h4 N4 t4 Rp=>?_
   refine inner61 x cc vv tk n hn hn2 f (N+2) (N+3) (N+1) dl tup n0 tb items Q (k+1) (by omega) hd (k+1) _ (A.under _) hh _ 0 (k+1) _ _ _ _ _ _ _ _ (by exact odD) (by exact zqgh) (by show A.depth+1+3*(k+1-0)<900;omega) (by omega) Rp fun hr Nr tr ur Rp=>?_
   have e:Q/2^(n*0)%2^(n*(k+1-0))=Q:=by simpa using Nat.mod_eq_of_lt hQ
   rw[e]
   refine seg_val hh Rp 12 [] [false,false,false,false,false,false] (Flow.ret (.int ((↑Q:Int)) ur)) (rest) 0 0 (by rfl') fun h5 N5 t5 Rp=>?_
   exact K _ _ _ _ Rp.ofExt
theorem div2n1n(x:W2)(A:Around)(hh:A.handled=none)(hA:A.depth<900)(R:Result→Shared→Prop)(a b n c q r:Int)(hc:(Builtin.Int.intBits a:Int)=c)(hn:c-n≤4000)
 (hb:0<b) (hp:Builtin.divisionGoesByPylong a b=false) (hq:a.fdiv b=q) (hr:a.fmod b=r)
 (ta tb tc:Nat) (N t:Nat) (h:Heap) (gl d os) (rest:Cells) (Rp:Rep x.B N h rest 0)
 (K:∀h' N' t' a u v,Rep x.B N' h' ((a,⟨.type "tuple",none,.seq #[.int q u,.int r v] 0,#[]⟩)::rest) 0→R (.ok (.ret (.ref a))) ⟨h',gl,d,t',os⟩):
 codeAny (MB x.B) A (.call (.ref 66) ⟨[.int a ta,.int b tb,.int n tc],[]⟩) R ⟨h,gl,d,t,os⟩:=by
 refine enter hh Rp (by first|assumption|(simp only[Around.under,Code.weight,recursionLimit] at*;omega)) 26 [0,0,5,1,5,1,5,1] [] (bodyOf (fdOf x.B 66)) (envOf (fdOf x.B 66) 66 (N+0)) ((N+0,⟨.type "frame",none,.dict #[En x.B n_a (t+0) (.int (a) ta),En x.B n_b (t+1) (.int (b) tb),En x.B n_n (t+2) (.int (n) tc)] 3,#[]⟩)::rest) 1 3 (by rfl') fun h1 N1 t1 Rp=>?_
 refine cut 1 ?_
 refine seg_call hh Rp 17 [5] [true] (.call (.builtin "int.bit_length") ⟨[.int (a) ta],[]⟩) ((N+0,⟨.type "frame",none,.dict #[En x.B n_a (t+0) (.int (a) ta),En x.B n_b (t+1) (.int (b) tb),En x.B n_n (t+2) (.int (n) tc)] 3,#[]⟩)::rest) 0 0 (by rfl') fun h2 N2 t2 Rp=>?_
 refine i_bits (i:=(a)) (c:=c) (by first|assumption|rfl) ?_
 refine seg_call hh Rp 23 [5,0,0] [true] (.call (.builtin "int.__le__") ⟨[.int (c-n) (t2+1+0),.int 4000 325],[]⟩) ((N+0,⟨.type "frame",none,.dict #[En x.B n_a (t+0) (.int (a) ta),En x.B n_b (t+1) (.int (b) tb),En x.B n_n (t+2) (.int (n) tc)] 3,#[]⟩)::rest) 0 1 (by rfl') fun h3 N3 t3 Rp=>?_
 refine i_le (r:=true) (i:=(c-n)) (j:=(4000)) (decide_eq_true (by omega)) ?_
 refine seg_call hh Rp 20 [0,0,5,5] [true] (.call (.builtin "divmod") ⟨[.int (a) ta,.int (b) tb],[]⟩) ((N+0,⟨.type "frame",none,.dict #[En x.B n_a (t+0) (.int (a) ta),En x.B n_b (t+1) (.int (b) tb),En x.B n_n (t+2) (.int (n) tc)] 3,#[]⟩)::rest) 0 0 (by rfl') fun h4 N4 t4 Rp=>?_
 refine f_divmod hh Rp (i:=(a)) (j:=(b)) (q:=q) (r:=r) (by exact oeK hb) (by assumption) (by assumption) (by assumption) fun h5 N5 t5 a5 u5 v5 Rp=>?_
 refine seg_val hh Rp 12 [] [true,false] (Flow.ret (.ref a5)) ((a5,⟨.type "tuple",none,.seq #[.int (q) u5,.int (r) v5] 0,#[]⟩)::rest) 0 0 (by rfl') fun h6 N6 t6 Rp=>?_
 exact K _ _ _ _ _ _ Rp
theorem noPyl{x y:Int}(h:y.natAbs<2^64):Builtin.divisionGoesByPylong x y=false:=by
 have hl:y.natAbs.log2<64∨y=0:=by
  by_cases z:y=0
  ·exact .inr z
  ·exact .inl ((Nat.log2_lt (by omega)).mpr h)
 unfold Builtin.divisionGoesByPylong
 rcases hl with hl|rfl
 ·simp only[Bool.and_eq_false_iff,decide_eq_false_iff_not]
  left
  split
  ·decide
  ·omega
 ·rfl
theorem dturn1(x:W2)(A:Around)(hh:A.handled=none)(hA:A.depth<600)(R:Result→Shared→Prop)(X b n dg r q r':Nat)(hb0:0<b)(hb30:b<2^64)(hbn2:b<2^n)(hn:0<n)(hn2:n<200)
 (hr:r<b) (hdg:dg<2^n) (hq:(r*2^n+dg)/b=q) (hr':(r*2^n+dg)%b=r') (j:Nat) (items qs:Array Value) (ud:Nat) (hit:items[j]? =some (.int (dg:Int) ud)) (hqs:qs.size<60) (nq:Nat)
 (F it ql dl:Addr) (k0 k1 k2 k3 k4 k5 k6 k7 ta tb tn tr t6 t7:Nat) (v6 v7:Int) (n0:Nat)
 (N t:Nat) (h:Heap) (gl d os) (rest:Cells)
 (Rp:Rep x.B N h ((it,RevIt dl (j:Int))::(ql,Lst qs nq)::(dl,Lst items n0)::(F,⟨(.type "frame"),none,(.dict #[En x.B n_a k0 (.int (X:Int) ta),En x.B n_b k1 (.int (b:Int) tb),En x.B n_n k2 (.int (n:Int) tn),En x.B n_a_digits k3 (.ref dl),En x.B n_r k4 (.int (r:Int) tr),En x.B n_q_digits k5 (.ref ql),En x.B n_a_digit k6 (.int v6 t6),En x.B n_q_digit k7 (.int v7 t7)] 8),#[]⟩)::rest) 0)
 (K:∀h' N' t' tr t6 t7 u,Rep x.B N' h' ((it,RevIt dl ((j:Int)-1))::(ql,Lst (qs.push (.int (q:Int) u)) (nq+1))::(dl,Lst items n0)::(F,⟨(.type "frame"),none,(.dict #[En x.B n_a k0 (.int (X:Int) ta),En x.B n_b k1 (.int (b:Int) tb),En x.B n_n k2 (.int (n:Int) tn),En x.B n_a_digits k3 (.ref dl),En x.B n_r k4 (.int (r':Int) tr),En x.B n_q_digits k5 (.ref ql),En x.B n_a_digit k6 (.int (dg:Int) t6),En x.B n_q_digit k7 (.int (q:Int) t7)] 8),#[]⟩)::rest) 0→codeAny (MB x.B) A (loopOf (stmtAt x.B 94 4) (.ref it) (envOf (fdOf x.B 94) 94 F)) R ⟨h',gl,d,t',os⟩):
 codeAny (MB x.B) A (loopOf (stmtAt x.B 94 4) (.ref it) (envOf (fdOf x.B 94) 94 F)) R ⟨h,gl,d,t,os⟩:=by
 have hPb:r*2^n+dg<2^(n+n):=by
  have h1:r*2^n+dg< (r+1)*2^n:=by rw[Nat.succ_mul];exact ohh hdg
  refine Nat.lt_of_lt_of_le h1 ?_
  rw[Nat.pow_add]
  exact Nat.mul_le_mul_right _ (by exact ohi hbn2 hr)
 obtain⟨P0,hP0⟩:∃P0,r*2^n=P0:=⟨_,rfl⟩
 rw[hP0] at hPb hq hr'
 have hs:(r:Int)*2^(n:Int).toNat=(P0:Int):=by rw[Int.toNat_natCast,←hP0];push_cast;rfl
 have hbits:Builtin.Int.intBits ((P0:Int)+(dg:Int))≤n+n:=intBits_le (by rw[show(P0:Int)+(dg:Int)=((P0+dg:Nat):Int) by push_cast;rfl,Int.natAbs_natCast];exact hPb)
 have hrb:(Builtin.Int.intBits (r:Int):Int)+(n:Int)≤2^27:=by
  have:Builtin.Int.intBits (r:Int)≤n:=intBits_le (by rw[Int.natAbs_natCast];exact ohj hbn2 hr)
  exact zqdN hn2 this
 refine code_tree ?_
 with_reducible refine seg_callD (by with_unfolding_all exact hh) Rp [] 13 (dA 0x6) [] (cB "list_reverseiterator.__next__" [.ref it]) [] [] 0 0 ?_
 intro Tb1 h1 N1 t1 Rp kk1
 refine r_next Rp 0 2 rfl rfl hit rfl fun hn1 Rp=>?_
 try dsimp only[setN] at Rp
 with_reducible refine seg_callD (by with_unfolding_all exact hh) Rp [] 26 (dA 0x9241149) [] (cB "int.__lshift__" [.int ((↑r:Int)) tr,.int ((↑n:Int)) tn]) [] [.k,.k,.k,.u (dU [(6,.int ((↑dg:Int)) ud)] [] 8)] 0 1 ?_
 intro Tb2 h2 N2 t2 Rp kk2
 refine i_shl (i:=((↑r:Int))) (j:=((↑n:Int))) (c:=(P0:Int)) (by exact oaC) (by first|assumption|omega) (by first|assumption|rfl) ?_
 with_reducible refine seg_callD (by with_unfolding_all exact hh) Rp [] 24 (dA 0x1249049) [] (cR 66 [.int ((↑P0:Int)+(↑dg:Int)) (t2+1+0),.int ((↑b:Int)) tb,.int ((↑n:Int)) tn]) [] [] 0 1 ?_
 intro Tb3 h3 N3 t3 Rp kk3
 refine div2n1n x (A.under _) hh (by show A.depth+0<900;exact ohl hA) _ ((P0:Int)+(dg:Int)) b n _ q r' rfl (by exact zqdO hn2 hbits) (by exact ohn hb0) (noPyl (by rw[Int.natAbs_natCast];exact hb30)) (by rw[Int.fdiv_eq_ediv_of_nonneg _ (by exact oaC),←hq];push_cast;rfl) (by rw[Int.fmod_eq_emod_of_nonneg _ (by exact oaC),←hr'];push_cast;rfl) _ _ _ _ _ _ _ _ _ _ Rp fun hd1 Nd1 td1 ad1 ud1 vd1 Rp=>?_
 with_reducible refine seg_callD (by with_unfolding_all exact hh) Rp [] 84 (dA 0xd2cb2cb3493493460861c61860460861c61860460861c6186046186046186) (dM 8) (cB "list.append" [.ref ql,.int ((↑q:Int)) ud1]) [] [.k,.k,.k,.k,.u (dU [(4,.int ((↑r':Int)) vd1),(7,.int ((↑q:Int)) ud1)] [] 8)] 3 2 ?_
 intro Tb4 h4 N4 t4 Rp kk4
 refine l_append Rp 2 rfl (by exact oan hqs) rfl fun ha1 Rp=>?_
 try dsimp only[setN] at Rp
 with_reducible refine seg_valD (by with_unfolding_all exact hh) Rp [] 12 (dA 0x0) [] (Fin.again (loopOf (stmtAt x.B 94 4) (.ref it) (envOf (fdOf x.B 94) 94 F))) [] [.d] 0 0 ?_
 intro Tb5 h5 N5 t5 Rp
 exact⟨rfl,K _ _ _ _ _ _ _ Rp⟩
theorem dturn0(x:W2)(A:Around)(hh:A.handled=none)(hA:A.depth<600)(R:Result→Shared→Prop)(X b n dg r q r':Nat)(hb0:0<b)(hb30:b<2^64)(hbn2:b<2^n)(hn:0<n)(hn2:n<200)
 (hr:r<b) (hdg:dg<2^n) (hq:(r*2^n+dg)/b=q) (hr':(r*2^n+dg)%b=r') (j:Nat) (items qs:Array Value) (ud:Nat) (hit:items[j]? =some (.int (dg:Int) ud)) (hqs:qs.size<60) (nq:Nat)
 (F it ql dl:Addr) (k0 k1 k2 k3 k4 k5 ta tb tn tr:Nat) (n0:Nat)
 (N t:Nat) (h:Heap) (gl d os) (rest:Cells)
 (Rp:Rep x.B N h ((it,RevIt dl (j:Int))::(ql,Lst qs nq)::(dl,Lst items n0)::(F,⟨(.type "frame"),none,(.dict #[En x.B n_a k0 (.int (X:Int) ta),En x.B n_b k1 (.int (b:Int) tb),En x.B n_n k2 (.int (n:Int) tn),En x.B n_a_digits k3 (.ref dl),En x.B n_r k4 (.int (r:Int) tr),En x.B n_q_digits k5 (.ref ql)] 6),#[]⟩)::rest) 0)
 (K:∀h' N' t' k6 k7 tr t6 t7 u,Rep x.B N' h' ((it,RevIt dl ((j:Int)-1))::(ql,Lst (qs.push (.int (q:Int) u)) (nq+1))::(dl,Lst items n0)::(F,⟨(.type "frame"),none,(.dict #[En x.B n_a k0 (.int (X:Int) ta),En x.B n_b k1 (.int (b:Int) tb),En x.B n_n k2 (.int (n:Int) tn),En x.B n_a_digits k3 (.ref dl),En x.B n_r k4 (.int (r':Int) tr),En x.B n_q_digits k5 (.ref ql),En x.B n_a_digit k6 (.int (dg:Int) t6),En x.B n_q_digit k7 (.int (q:Int) t7)] 8),#[]⟩)::rest) 0→codeAny (MB x.B) A (loopOf (stmtAt x.B 94 4) (.ref it) (envOf (fdOf x.B 94) 94 F)) R ⟨h',gl,d,t',os⟩):
 codeAny (MB x.B) A (loopOf (stmtAt x.B 94 4) (.ref it) (envOf (fdOf x.B 94) 94 F)) R ⟨h,gl,d,t,os⟩:=by
 have hPb:r*2^n+dg<2^(n+n):=by
  have h1:r*2^n+dg< (r+1)*2^n:=by rw[Nat.succ_mul];exact ohh hdg
  refine Nat.lt_of_lt_of_le h1 ?_
  rw[Nat.pow_add]
  exact Nat.mul_le_mul_right _ (by exact ohi hbn2 hr)
 obtain⟨P0,hP0⟩:∃P0,r*2^n=P0:=⟨_,rfl⟩
 rw[hP0] at hPb hq hr'
 have hs:(r:Int)*2^(n:Int).toNat=(P0:Int):=by rw[Int.toNat_natCast,←hP0];push_cast;rfl
 have hbits:Builtin.Int.intBits ((P0:Int)+(dg:Int))≤n+n:=intBits_le (by rw[show(P0:Int)+(dg:Int)=((P0+dg:Nat):Int) by push_cast;rfl,Int.natAbs_natCast];exact hPb)
 have hrb:(Builtin.Int.intBits (r:Int):Int)+(n:Int)≤2^27:=by
  have:Builtin.Int.intBits (r:Int)≤n:=intBits_le (by rw[Int.natAbs_natCast];exact ohj hbn2 hr)
  exact zqdN hn2 this
 refine code_tree ?_
 with_reducible refine seg_callD (by with_unfolding_all exact hh) Rp [] 13 (dA 0x6) [] (cB "list_reverseiterator.__next__" [.ref it]) [] [] 0 0 ?_
 intro Tb1 h1 N1 t1 Rp kk1
 refine r_next Rp 0 2 rfl rfl hit rfl fun hn1 Rp=>?_
 try dsimp only[setN] at Rp
 with_reducible refine seg_callD (by with_unfolding_all exact hh) Rp [] 26 (dA 0x9241149) [] (cB "int.__lshift__" [.int ((↑r:Int)) tr,.int ((↑n:Int)) tn]) [] [.k,.k,.k,.u (dU [] [En x.B n_a_digit (t1+0) (.int ((↑dg:Int)) ud)] 7)] 0 1 ?_
 intro Tb2 h2 N2 t2 Rp kk2
 refine i_shl (i:=((↑r:Int))) (j:=((↑n:Int))) (c:=(P0:Int)) (by exact oaC) (by first|assumption|omega) (by first|assumption|rfl) ?_
 with_reducible refine seg_callD (by with_unfolding_all exact hh) Rp [] 24 (dA 0x1249049) [] (cR 66 [.int ((↑P0:Int)+(↑dg:Int)) (t2+1+0),.int ((↑b:Int)) tb,.int ((↑n:Int)) tn]) [] [] 0 1 ?_
 intro Tb3 h3 N3 t3 Rp kk3
 refine div2n1n x (A.under _) hh (by show A.depth+0<900;exact ohl hA) _ ((P0:Int)+(dg:Int)) b n _ q r' rfl (by exact zqdO hn2 hbits) (by exact ohn hb0) (noPyl (by rw[Int.natAbs_natCast];exact hb30)) (by rw[Int.fdiv_eq_ediv_of_nonneg _ (by exact oaC),←hq];push_cast;rfl) (by rw[Int.fmod_eq_emod_of_nonneg _ (by exact oaC),←hr'];push_cast;rfl) _ _ _ _ _ _ _ _ _ _ Rp fun hd1 Nd1 td1 ad1 ud1 vd1 Rp=>?_
 with_reducible refine seg_callD (by with_unfolding_all exact hh) Rp [] 84 (dA 0xd2cb2cb3493493460861c61860460861c61860460861c6186046186046186) (dM 8) (cB "list.append" [.ref ql,.int ((↑q:Int)) ud1]) [] [.k,.k,.k,.k,.u (dU [(4,.int ((↑r':Int)) vd1)] [En x.B n_q_digit (td1+0) (.int ((↑q:Int)) ud1)] 8)] 3 2 ?_
 intro Tb4 h4 N4 t4 Rp kk4
 refine l_append Rp 2 rfl (by exact oan hqs) rfl fun ha1 Rp=>?_
 try dsimp only[setN] at Rp
 with_reducible refine seg_valD (by with_unfolding_all exact hh) Rp [] 12 (dA 0x0) [] (Fin.again (loopOf (stmtAt x.B 94 4) (.ref it) (envOf (fdOf x.B 94) 94 F))) [] [.d] 0 0 ?_
 intro Tb5 h5 N5 t5 Rp
 exact⟨rfl,K _ _ _ _ _ _ _ _ _ Rp⟩
theorem dend(x:W2)(A:Around)(hh:A.handled=none)(R:Result→Shared→Prop)(F it dl:Addr)(N t:Nat)(h:Heap)(gl d os)(rest:Cells)
 (Rp:Rep x.B N h ((it,RevIt dl (((0:Nat):Int)-1))::rest) 0)
 (K:∀h' N' t',Rep x.B N' h' rest 0→R (.ok .next) ⟨h',gl,d,t',os⟩):
 codeAny (MB x.B) A (loopOf (stmtAt x.B 94 4) (.ref it) (envOf (fdOf x.B 94) 94 F)) R ⟨h,gl,d,t,os⟩:=by
 refine code_tree ?_
 with_reducible refine seg_valD (by with_unfolding_all exact hh) Rp [] 23 (dA 0x6186046) (dM 4) (Fin.again (.block [] (envOf (fdOf x.B 94) 94 F))) [] [.d] 2 0 ?_
 intro Tb1 h1 N1 t1 Rp
 refine⟨rfl,code_tree ?_⟩
 with_reducible refine seg_valD (by with_unfolding_all exact hh) Rp [] 11 (dA 0x0) [] (Fin.done Flow.next) [] [] 0 0 ?_
 intro Tb2 h2 N2 t2 Rp
 exact K _ _ _ Rp
theorem dig_step(X b n j r dg q r':Nat)(hb:0<b)(hbn2:b<2^n)(hr:X/2^(n*(j+1))%b=r)(hdg:X/2^(n*j)%2^n=dg)(hq:X/2^(n*j)/b%2^n=q)(hr':X/2^(n*j)%b=r'):
 (r*2^n+dg)/b=q∧(r*2^n+dg)%b=r':=by
 obtain⟨Y,hY⟩:∃Y,X/2^(n*j)=Y:=⟨_,rfl⟩
 have hP:X/2^(n*(j+1))=Y/2^n:=by rw[←hY,Nat.div_div_eq_div_mul,←Nat.pow_add];rfl
 rw[hP] at hr
 rw[hY] at hdg hq hr'
 obtain⟨P,hPe⟩:∃P,Y/2^n=P:=⟨_,rfl⟩
 rw[hPe] at hr
 have hpos:0<2^n:=Nat.two_pow_pos n
 have hYe:Y=P*2^n+dg:=by rw[←hPe,←hdg,Nat.mul_comm];exact(Nat.div_add_mod _ _).symm
 have hPb:P=b*(P/b)+r:=by rw[←hr];exact(Nat.div_add_mod _ _).symm
 have hYb:Y=(r*2^n+dg)+b*(P/b*2^n):=by
  conv=>lhs;rw[hYe,hPb]
  rw[Nat.add_mul,Nat.mul_assoc];exact zqgi
 have hrb:r<b:=by rw[←hr];exact Nat.mod_lt _ hb
 have hdgl:dg<2^n:=by rw[←hdg];exact Nat.mod_lt _ hpos
 have hlt:(r*2^n+dg)/b<2^n:=by
  refine(Nat.div_lt_iff_lt_mul hb).mpr ?_
  have h1:r*2^n+dg< (r+1)*2^n:=by rw[Nat.succ_mul];exact ohT hdg
  refine Nat.lt_of_lt_of_le h1 ?_
  rw[Nat.mul_comm (2^n)]
  exact Nat.mul_le_mul_right _ (by exact ohU hrb)
 constructor
 ·rw[←hq]
  conv=>rhs;rw[hYb]
  rw[Nat.add_mul_div_left _ _ hb,Nat.add_mul_mod_self_right,Nat.mod_eq_of_lt hlt]
 ·rw[←hr']
  conv=>rhs;rw[hYb]
  rw[Nat.add_mul_mod_self_left]
noncomputable def QsOk(qs:Array Value)(X b n k j:Nat):Prop:=qs.size+j=k∧∀i,i<qs.size→∃u,qs[i]? =some (.int ((X/2^(n*(k-1-i))/b%2^n:Nat):Int) u)
theorem QsOk.push{qs:Array Value}{X b n k j q u:Nat}(a:QsOk qs X b n k (j+1))(hq:X/2^(n*j)/b%2^n=q):QsOk (qs.push (.int (q:Int) u)) X b n k j:=by
 refine⟨by rw[Array.size_push];have:=a.1;omega,fun i hi=>?_⟩
 rw[Array.size_push] at hi
 by_cases c:i<qs.size
 ·obtain⟨v,e⟩:=a.2 i c
  exact⟨v,by rw[Array.getElem?_push_lt c,←Array.getElem?_eq_getElem c];exact e⟩
 ·have:i=qs.size:=by omega
  subst this
  refine⟨u,?_⟩
  rw[Array.getElem?_push_size,show k-1-qs.size=j by have:=a.1;omega,hq]
theorem QsOk.digs{qs:Array Value}{X b n k:Nat}(a:QsOk qs X b n k 0):DigsOf qs.reverse (X/b) n k:=by
 have hs:qs.size=k:=a.1
 refine⟨by rw[Array.size_reverse,hs],fun i hi=>?_⟩
 obtain⟨u,e⟩:=a.2 (k-1-i) (by omega)
 refine⟨u,?_⟩
 rw[Array.getElem?_reverse (by omega),hs,e,show k-1- (k-1-i)=i by omega,Nat.div_div_eq_div_mul,Nat.div_div_eq_div_mul,Nat.mul_comm b]
theorem dloop1(x:W2)(X b n k:Nat)(hb0:0<b)(hb30:b<2^64)(hbn2:b<2^n)(hn:0<n)(hn2:n<200)(hk:k<60)(items:Array Value)(hdg:DigsOf items X n k)
 (F it ql dl:Addr) (k0 k1 k2 k3 k4 k5 ta tb tn:Nat) (n0:Nat) (A:Around) (hh:A.handled=none) (hA:A.depth<600) (R:Result→Shared→Prop) (gl d os) (rest:Cells):∀(j:Nat) (qs:Array Value) (nq r k6 k7 tr t6 t7:Nat) (v6 v7:Int)
 (N t:Nat) (h:Heap) (_:j≤k) (_:QsOk qs X b n k j) (_:X/2^(n*j)%b=r)
 (_:Rep x.B N h ((it,RevIt dl ((j:Int)-1))::(ql,Lst qs nq)::(dl,Lst items n0)::(F,⟨(.type "frame"),none,(.dict #[En x.B n_a k0 (.int (X:Int) ta),En x.B n_b k1 (.int (b:Int) tb),En x.B n_n k2 (.int (n:Int) tn),En x.B n_a_digits k3 (.ref dl),En x.B n_r k4 (.int (r:Int) tr),En x.B n_q_digits k5 (.ref ql),En x.B n_a_digit k6 (.int v6 t6),En x.B n_q_digit k7 (.int v7 t7)] 8),#[]⟩)::rest) 0)
 (_:∀h' N' t' qs' nq k6 k7 tr t6 t7 v6 v7,QsOk qs' X b n k 0→Rep x.B N' h' ((ql,Lst qs' nq)::(dl,Lst items n0)::(F,⟨(.type "frame"),none,(.dict #[En x.B n_a k0 (.int (X:Int) ta),En x.B n_b k1 (.int (b:Int) tb),En x.B n_n k2 (.int (n:Int) tn),En x.B n_a_digits k3 (.ref dl),En x.B n_r k4 (.int ((X%b:Nat):Int) tr),En x.B n_q_digits k5 (.ref ql),En x.B n_a_digit k6 (.int v6 t6),En x.B n_q_digit k7 (.int v7 t7)] 8),#[]⟩)::rest) 0→R (.ok .next) ⟨h',gl,d,t',os⟩),
 codeAny (MB x.B) A (loopOf (stmtAt x.B 94 4) (.ref it) (envOf (fdOf x.B 94) 94 F)) R ⟨h,gl,d,t,os⟩:=by
 intro j
 induction j with
 |zero=>
  intro qs nq r k6 k7 tr t6 t7 v6 v7 N t h hj hqs hr Rp K
  have e:X%b=r:=by simpa using hr
  refine dend x A hh R F it dl N t h gl d os _ Rp fun h' N' t' Rp=>K _ _ _ _ _ _ _ _ _ _ _ _ hqs (e▸Rp)
 |succ j ih=>
  intro qs nq r k6 k7 tr t6 t7 v6 v7 N t h hj hqs hr Rp K
  rw[show((j+1:Nat):Int)-1=(j:Int) by exact oeO] at Rp
  obtain⟨u,hu⟩:=hdg.2 j (by exact ofK hj)
  obtain⟨s1,s2⟩:=dig_step X b n j r _ _ _ hb0 hbn2 hr rfl rfl rfl
  refine dturn1 x A hh hA R X b n _ r _ _ hb0 hb30 hbn2 hn hn2 (by rw[←hr];exact Nat.mod_lt _ hb0) (Nat.mod_lt _ (Nat.two_pow_pos _)) s1 s2 j items qs u hu (by have:=hqs.1;exact zqgj hk this) nq F it ql dl k0 k1 k2 k3 k4 k5 k6 k7 ta tb tn tr t6 t7 v6 v7 n0 N t h gl d os rest Rp fun h' N' t' tr t6 t7 u Rp=>?_
  exact ih _ _ _ _ _ _ _ _ _ _ _ _ _ (by exact zqgk hj) (hqs.push rfl) rfl Rp K
theorem dtail1(x:W2)(A:Around)(hh:A.handled=none)(hA:A.depth<550)(X b n k r:Nat)(hr:X%b=r)(hn:0<n)(hn2:n<200)(hk1:k<60)(hX:X<2^(n*k))(qs:Array Value)(hqs:QsOk qs X b n k 0)
 (F ql:Addr) (k0 k1 k2 k3 k4 k5 k6 k7 ta tb tn tr t6 t7:Nat) (v6 v7:Int) (n0 nq:Nat) (dl:Addr) (items:Array Value)
 (N t:Nat) (h:Heap) (gl d os) (rest:Cells) (Q:Flow→Shared→Prop)
 (Rp:Rep x.B N h ((ql,Lst qs nq)::(dl,Lst items n0)::(F,⟨(.type "frame"),none,(.dict #[En x.B n_a k0 (.int (X:Int) ta),En x.B n_b k1 (.int (b:Int) tb),En x.B n_n k2 (.int (n:Int) tn),En x.B n_a_digits k3 (.ref dl),En x.B n_r k4 (.int (r:Int) tr),En x.B n_q_digits k5 (.ref ql),En x.B n_a_digit k6 (.int v6 t6),En x.B n_q_digit k7 (.int v7 t7)] 8),#[]⟩)::rest) 0)
 (K:∀h' N' t' a u v,Rep x.B N' h' ((a,⟨.type "tuple",none,.seq #[.int (X/b:Nat) u,.int (X%b:Nat) v] 0,#[]⟩)::rest) 0→Q (.ret (.ref a)) ⟨h',gl,d,t',os⟩):
 wpAny (MB x.B) A (execsZ ((bodyOf (fdOf x.B 94)).drop 5) (envOf (fdOf x.B 94) 94 F)) Q (fun _ _=>False) ⟨h,gl,d,t,os⟩:=by
 subst hr
 have hXb:X/b<2^(n*k):=Nat.lt_of_le_of_lt (Nat.div_le_self _ _) hX
 refine cut 1 ?_
 with_reducible refine seg_callD (by with_unfolding_all exact hh) Rp [] 21 (dA 0x6186188) [] (cB "list.reverse" [.ref ql]) [] [] 0 0 ?_
 intro Tb1 h1 N1 t1 Rp kk1
 refine l_reverse Rp 0 rfl (by have:=hqs.1;exact oeL hk1 this) rfl fun ha1 Rp=>?_
 try dsimp only[setN] at Rp
 with_reducible refine seg_valD (by with_unfolding_all exact hh) Rp [] 12 (dA 0x0) [] Flow.next [] [] 0 0 ?_
 intro Tb2 h2 N2 t2 Rp
 show wpAny _ _ (execsZ ..) ..
 refine cut 1 ?_
 with_reducible refine seg_callD (by with_unfolding_all exact hh) Rp [] 20 (dA 0x48201) [] (cR 87 [.ref ql,.int ((↑n:Int)) tn]) [] [] 0 0 ?_
 intro Tb3 h3 N3 t3 Rp kk3
 refine d2i x A hh (by exact oeM hA) _ (X/b) n k hn (by exact zqbA hn2) hk1 hXb 0 _ _ _ _ _ _ _ _ _ _ _ hqs.digs Rp fun h' N' t' u Rp=>?_
 with_reducible refine seg_valD (by with_unfolding_all exact hh) Rp [] 19 (dA 0xc7) [] Flow.next [] [.k,.u (dU [] [En x.B n_q (t'+0) (.int ((↑(X/b):Int)) u)] 9)] 0 1 ?_
 intro Tb4 h4 N4 t4 Rp
 show wpAny _ _ (execsZ ..) ..
 with_reducible refine seg_valD (by with_unfolding_all exact hh) Rp [] 18 (dA 0x1c7) (dM 3) (Flow.ret (.ref (N4+0))) [(N4+0,oT #[.int ((↑(X/b):Int)) u,.int ((↑(X%b):Int)) tr])] [.d,.d] 1 0 ?_
 intro Tb5 h5 N5 t5 Rp
 exact K _ _ _ _ _ _ Rp
theorem dtail0(x:W2)(A:Around)(hh:A.handled=none)(hA:A.depth<550)(X b n k r:Nat)(hr:X%b=r)(hn:0<n)(hn2:n<200)(hk1:k<60)(hX:X<2^(n*k))(qs:Array Value)(hqs:QsOk qs X b n k 0)
 (F ql:Addr) (k0 k1 k2 k3 k4 k5 ta tb tn tr:Nat) (n0 nq:Nat) (dl:Addr) (items:Array Value)
 (N t:Nat) (h:Heap) (gl d os) (rest:Cells) (Q:Flow→Shared→Prop)
 (Rp:Rep x.B N h ((ql,Lst qs nq)::(dl,Lst items n0)::(F,⟨(.type "frame"),none,(.dict #[En x.B n_a k0 (.int (X:Int) ta),En x.B n_b k1 (.int (b:Int) tb),En x.B n_n k2 (.int (n:Int) tn),En x.B n_a_digits k3 (.ref dl),En x.B n_r k4 (.int (r:Int) tr),En x.B n_q_digits k5 (.ref ql)] 6),#[]⟩)::rest) 0)
 (K:∀h' N' t' a u v,Rep x.B N' h' ((a,⟨.type "tuple",none,.seq #[.int (X/b:Nat) u,.int (X%b:Nat) v] 0,#[]⟩)::rest) 0→Q (.ret (.ref a)) ⟨h',gl,d,t',os⟩):
 wpAny (MB x.B) A (execsZ ((bodyOf (fdOf x.B 94)).drop 5) (envOf (fdOf x.B 94) 94 F)) Q (fun _ _=>False) ⟨h,gl,d,t,os⟩:=by
 subst hr
 have hXb:X/b<2^(n*k):=Nat.lt_of_le_of_lt (Nat.div_le_self _ _) hX
 refine cut 1 ?_
 with_reducible refine seg_callD (by with_unfolding_all exact hh) Rp [] 21 (dA 0x6186188) [] (cB "list.reverse" [.ref ql]) [] [] 0 0 ?_
 intro Tb1 h1 N1 t1 Rp kk1
 refine l_reverse Rp 0 rfl (by have:=hqs.1;exact oeL hk1 this) rfl fun ha1 Rp=>?_
 try dsimp only[setN] at Rp
 with_reducible refine seg_valD (by with_unfolding_all exact hh) Rp [] 12 (dA 0x0) [] Flow.next [] [] 0 0 ?_
 intro Tb2 h2 N2 t2 Rp
 show wpAny _ _ (execsZ ..) ..
 refine cut 1 ?_
 with_reducible refine seg_callD (by with_unfolding_all exact hh) Rp [] 20 (dA 0x48201) [] (cR 87 [.ref ql,.int ((↑n:Int)) tn]) [] [] 0 0 ?_
 intro Tb3 h3 N3 t3 Rp kk3
 refine d2i x A hh (by exact oeM hA) _ (X/b) n k hn (by exact zqbA hn2) hk1 hXb 0 _ _ _ _ _ _ _ _ _ _ _ hqs.digs Rp fun h' N' t' u Rp=>?_
 with_reducible refine seg_valD (by with_unfolding_all exact hh) Rp [] 19 (dA 0xc7) [] Flow.next [] [.k,.u (dU [] [En x.B n_q (t'+0) (.int ((↑(X/b):Int)) u)] 7)] 0 1 ?_
 intro Tb4 h4 N4 t4 Rp
 show wpAny _ _ (execsZ ..) ..
 with_reducible refine seg_valD (by with_unfolding_all exact hh) Rp [] 18 (dA 0x1c7) (dM 3) (Flow.ret (.ref (N4+0))) [(N4+0,oT #[.int ((↑(X/b):Int)) u,.int ((↑(X%b):Int)) tr])] [.d,.d] 1 0 ?_
 intro Tb5 h5 N5 t5 Rp
 exact K _ _ _ _ _ _ Rp
theorem dpos(x:W2)(A:Around)(hh:A.handled=none)(hA:A.depth<500)(R:Result→Shared→Prop)(X b n c k:Nat)(hb0:0<b)(hb30:b<2^64)(hc:((Builtin.Int.intBits (X:Int):Nat):Int)=(c:Int))(hbn:((Builtin.Int.intBits (b:Int):Nat):Int)=(n:Int))(hbn2:b<2^n)(hn:0<n)(hn2:n<200)(hc1:c<200)
 (hk:(c+n-1)/n=k) (hk1:k<60) (hp:Builtin.divisionGoesByPylong ((c:Int)+(n:Int)-1) (n:Int)=false) (hX:X<2^(n*k)) (hX0:0<X→0<k)
 (ta tb:Nat) (N t:Nat) (h:Heap) (gl d os) (rest:Cells) (Rp:Rep x.B N h rest 0)
 (K:∀h' N' t' a u v,Rep x.B N' h' ((a,⟨.type "tuple",none,.seq #[.int (X/b:Nat) u,.int (X%b:Nat) v] 0,#[]⟩)::rest) 0→R (.ok (.ret (.ref a))) ⟨h',gl,d,t',os⟩):
 codeAny (MB x.B) A (.call (.ref 94) ⟨[.int X ta,.int b tb],[]⟩) R ⟨h,gl,d,t,os⟩:=by
 refine enterD hh Rp (by exact obd hA) 22 (dA 0x86086041) (bodyOf (fdOf x.B 94)) (envOf (fdOf x.B 94) 94 (N+0)) [(N+0,oF #[En x.B n_a (t+0) (.int ((↑X:Int)) ta),En x.B n_b (t+1) (.int ((↑b:Int)) tb)] 2)] 1 2 (by rfl') ?_
 intro Tb1 h1 N1 t1 Rp
 refine cut 1 ?_
 with_reducible refine seg_callD (by with_unfolding_all exact hh) Rp [] 17 (dA 0x6) [] (cB "int.bit_length" [.int ((↑b:Int)) tb]) [] [] 0 0 ?_
 intro Tb2 h2 N2 t2 Rp kk2
 refine i_bits (i:=((↑b:Int))) (c:=(n:Int)) (by first|assumption|rfl) ?_
 with_reducible refine seg_valD (by with_unfolding_all exact hh) Rp [] 19 (dA 0x86) [] Flow.next [] [.u (dU [] [En x.B n_n (t2+1+0) (.int ((↑n:Int)) t2)] 3)] 0 1 ?_
 intro Tb3 h3 N3 t3 Rp
 refine cut 1 ?_
 with_reducible refine seg_callD (by with_unfolding_all exact hh) Rp [] 20 (dA 0x46181) [] (cR 80 [.int ((↑X:Int)) ta,.int ((↑n:Int)) t2]) [] [] 0 0 ?_
 intro Tb4 h4 N4 t4 Rp kk4
 refine i2d x (A.under _) hh (by show A.depth+1<600;exact oaG hA) _ X n c k hc hn (by exact zqbA hn2) (by exact zqbA hc1) hk hk1 hp hX hX0 _ _ _ _ _ _ _ _ _ Rp fun hr1 Nr1 tr1 dl items hdg Rp=>?_
 with_reducible refine seg_valD (by with_unfolding_all exact hh) Rp [] 19 (dA 0xc7) [] Flow.next [] [.k,.u (dU [] [En x.B n_a_digits (tr1+0) (.ref dl)] 4)] 0 1 ?_
 intro Tb5 h5 N5 t5 Rp
 refine cut 1 ?_
 with_reducible refine seg_valD (by with_unfolding_all exact hh) Rp [] 20 (dA 0xc7) [] Flow.next [] [.k,.u (dU [] [En x.B n_r (t5+1) (.int 0 (t5+0))] 5)] 0 2 ?_
 intro Tb6 h6 N6 t6 Rp
 refine cut 1 ?_
 with_reducible refine seg_valD (by with_unfolding_all exact hh) Rp [] 21 (dA 0x108) (dM 3) Flow.next [(N6+0,oL #[] 0)] [.k,.u (dU [] [En x.B n_q_digits (t6+0) (.ref (N6+0))] 6)] 1 1 ?_
 intro Tb7 h7 N7 t7 Rp
 refine cut 1 ?_
 with_reducible refine seg_callD (by with_unfolding_all exact hh) Rp [] 44 (dA 0x61811861871c11c1048041) (dM 3) (loopOf (stmtAt x.B 94 4) (.ref (N7+0)) (envOf (fdOf x.B 94) 94 (N+0))) [(N7+0,oI "list_reverseiterator" #[.ref dl,.int ((↑items.size:Int)-1) 0])] [] 1 0 ?_
 intro Tb8 h8 N8 t8 Rp kk8
 dsimp only[Tb8] at Rp;rw[hdg.1] at Rp
 rcases k with _|k
 ·have hX00:X=0:=by simpa using hX
  refine dend x (A.under _) hh _ (N+0) _ dl _ _ _ _ _ _ _ Rp fun h' N' t' Rp=>?_
  with_reducible refine seg_valD (by with_unfolding_all exact hh) Rp [] 11 (dA 0x0) [] Flow.next [] [] 0 0 ?_
  intro Tb9 h9 N9 t9 Rp
  show wpAny _ _ (execsZ ..) ..
  exact dtail0 x (A.under _) hh (by show A.depth+1<550;exact oeN hA) X b n 0 0 (by rw[hX00];simp) hn hn2 hk1 hX #[] ⟨rfl,fun i hi=>absurd hi (by simp)⟩ (N+0) _ _ _ _ _ _ _ _ _ _ _ 0 0 dl items _ _ _ _ _ _ _ _ Rp fun h' N' t' a u v Rp=>K _ _ _ _ _ _ Rp
 ·rw[show((k+1:Nat):Int)-1=(k:Int) by exact oeO] at Rp
  obtain⟨u,hu⟩:=hdg.2 k (by omega)
  have h00:X/2^(n*(k+1))%b=0:=by rw[Nat.div_eq_of_lt hX];simp
  obtain⟨s1,s2⟩:=dig_step X b n k 0 _ _ _ hb0 hbn2 h00 rfl rfl rfl
  refine dturn0 x (A.under _) hh (by show A.depth+1<600;exact oaG hA) _ X b n _ 0 _ _ hb0 hb30 hbn2 hn hn2 hb0 (Nat.mod_lt _ (Nat.two_pow_pos _)) s1 s2 k items #[] u hu (by simp) 0 (N+0) _ _ dl _ _ _ _ _ _ _ _ _ _ 0 _ _ _ _ _ _ rest Rp fun h' N' t' k6 k7 tr s6 s7 u Rp=>?_
  refine dloop1 x X b n (k+1) hb0 hb30 hbn2 hn hn2 hk1 items hdg (N+0) _ _ dl _ _ _ _ _ _ _ _ _ 0 (A.under _) hh (by show A.depth+1<600;exact oaG hA) _ _ _ _ rest k _ _ _ _ _ _ _ _ _ _ _ _ _ (by exact zqdP) (QsOk.push (qs:=#[]) ⟨by simp,fun i hi=>absurd hi (by simp)⟩ rfl) rfl Rp fun h' N' t' qs' nq k6 k7 tr s6 s7 v6 v7 hqs Rp=>?_
  with_reducible refine seg_valD (by with_unfolding_all exact hh) Rp [] 11 (dA 0x0) [] Flow.next [] [] 0 0 ?_
  intro Tb9 h9 N9 t9 Rp
  show wpAny _ _ (execsZ ..) ..
  exact dtail1 x (A.under _) hh (by show A.depth+1<550;exact oeN hA) X b n (k+1) _ rfl hn hn2 hk1 hX qs' hqs (N+0) _ _ _ _ _ _ _ _ _ _ _ _ _ _ _ _ _ 0 nq dl items _ _ _ _ _ _ _ _ Rp fun h' N' t' a u v Rp=>K _ _ _ _ _ _ Rp
theorem bits_lt(n:Nat):n<2^Builtin.Int.intBits (n:Int):=by
 unfold Builtin.Int.intBits
 by_cases h:(n:Int)==0
 ·rw[if_pos h]
  have:(n:Int)=0:=by simpa using h
  have:n=0:=by omega
  subst this;decide
 ·rw[if_neg h,Int.natAbs_natCast]
  exact Nat.lt_log2_self
theorem bits_pos{n:Nat}(h:0<n):0<Builtin.Int.intBits (n:Int):=by
 rcases Nat.eq_zero_or_pos (Builtin.Int.intBits (n:Int)) with z|z
 ·have:=bits_lt n
  rw[z] at this;simp at this;omega
 ·exact z
theorem dposN(x:W2)(A:Around)(hh:A.handled=none)(hA:A.depth<500)(R:Result→Shared→Prop)(X b:Nat)(hb0:8≤b)(hb30:b<2^64)(hX58:X<2^128)
 (ta tb:Nat) (N t:Nat) (h:Heap) (gl d os) (rest:Cells) (Rp:Rep x.B N h rest 0)
 (K:∀h' N' t' a u v,Rep x.B N' h' ((a,⟨.type "tuple",none,.seq #[.int (X/b:Nat) u,.int (X%b:Nat) v] 0,#[]⟩)::rest) 0→R (.ok (.ret (.ref a))) ⟨h',gl,d,t',os⟩):
 codeAny (MB x.B) A (.call (.ref 94) ⟨[.int X ta,.int b tb],[]⟩) R ⟨h,gl,d,t,os⟩:=by
 have hn:=bits_pos (show 0<b by exact zqdQ hb0)
 have hbn:=bits_lt b
 have hXc:=bits_lt X
 have hn2:Builtin.Int.intBits (b:Int)≤64:=intBits_le (by rw[Int.natAbs_natCast];exact hb30)
 have hc2:Builtin.Int.intBits (X:Int)≤128:=intBits_le (by rw[Int.natAbs_natCast];exact hX58)
 generalize hcn:Builtin.Int.intBits (X:Int)=c at*
 generalize hnn:Builtin.Int.intBits (b:Int)=n at*
 have hkc:c≤n*((c+n-1)/n):=by
  have h1:=Nat.div_add_mod (c+n-1) n
  have h2:=Nat.mod_lt (c+n-1) hn
  exact ohP h1 h2
 have hn4:4≤n:=by
  rcases Nat.lt_or_ge n 4 with z|z
  ·have:=Nat.pow_le_pow_right (show 0<2 by decide) (show n≤3 by exact zqgl z)
   exact zqgm hb0 hbn this
  ·exact z
 have hk60:(c+n-1)/n<60:=(Nat.div_lt_iff_lt_mul hn).mpr (by exact zqgn hc2 hn4)
 refine dpos x A hh hA R X b n c _ (by exact zqdQ hb0) hb30 (by rw[hcn]) (by rw[hnn]) hbn hn (by exact zqgo hn2) (by exact zqgp hc2) rfl hk60 (noPyl (by rw[Int.natAbs_natCast];exact zqgq hn2)) (Nat.lt_of_lt_of_le hXc (Nat.pow_le_pow_right (by decide) hkc)) (fun h0=>?_) ta tb N t h gl d os rest Rp K
 rcases Nat.eq_zero_or_pos ((c+n-1)/n) with z|z
 ·rw[z] at hkc
  have hz:c=0:=by exact ohQ hkc
  rw[hz] at hXc;simp at hXc;exact zqgr h0 hXc
 ·exact z
theorem idm_pp(x:W2)(A:Around)(hh:A.handled=none)(hA:A.depth<480)(R:Result→Shared→Prop)(a b q r:Int)(ha:0≤a)(ha58:a<2^128)(hb0:8≤b)(hb30:b<2^64)(hq:a.fdiv b=q)(hr:a.fmod b=r)
 (ta tb:Nat) (N t:Nat) (h:Heap) (gl d os) (rest:Cells) (Rp:Rep x.B N h rest 0)
 (K:∀h' N' t' a u v,Rep x.B N' h' ((a,⟨.type "tuple",none,.seq #[.int q u,.int r v] 0,#[]⟩)::rest) 0→R (.ok (.ret (.ref a))) ⟨h',gl,d,t',os⟩):
 codeAny (MB x.B) A (.call (.ref 101) ⟨[.int a ta,.int b tb],[]⟩) R ⟨h,gl,d,t,os⟩:=by
 obtain⟨X,rfl⟩:=Int.eq_ofNat_of_zero_le ha
 obtain⟨Y,rfl⟩:=Int.eq_ofNat_of_zero_le (show 0≤b by exact zqcg hb0)
 have hq':((X/Y:Nat):Int)=q:=by rw[←hq,Int.fdiv_eq_ediv_of_nonneg _ (by exact oaC)];rfl
 have hr':((X%Y:Nat):Int)=r:=by rw[←hr,Int.fmod_eq_emod_of_nonneg _ (by exact oaC)];rfl
 subst hq' hr'
 refine enterD hh Rp (by exact zqch hA) 22 (dA 0x86086041) (bodyOf (fdOf x.B 101)) (envOf (fdOf x.B 101) 101 (N+0)) [(N+0,oF #[En x.B n_a (t+0) (.int ((↑X:Int)) ta),En x.B n_b (t+1) (.int ((↑Y:Int)) tb)] 2)] 1 2 (by rfl') ?_
 intro Tb1 h1 N1 t1 Rp
 with_reducible refine seg_callD (by with_unfolding_all exact hh) Rp [] 17 (dA 0x6) [] (cB "int.__eq__" [.int ((↑Y:Int)) tb,.int 0 (t1+0)]) [] [] 0 1 ?_
 intro Tb2 h2 N2 t2 Rp kk2
 refine i_eq (r:=false) (i:=((↑Y:Int))) (j:=(0)) (decide_eq_false (by exact zqgs hb0)) ?_
 with_reducible refine seg_callD (by with_unfolding_all exact hh) Rp [] 17 (dA 0x6) [] (cB "int.__lt__" [.int ((↑Y:Int)) tb,.int 0 (t2+0)]) [] [] 0 1 ?_
 intro Tb3 h3 N3 t3 Rp kk3
 refine i_lt (r:=false) (i:=((↑Y:Int))) (j:=(0)) (decide_eq_false (by exact oda)) ?_
 with_reducible refine seg_callD (by with_unfolding_all exact hh) Rp [] 17 (dA 0x6) [] (cB "int.__lt__" [.int ((↑X:Int)) ta,.int 0 (t3+0)]) [] [] 0 1 ?_
 intro Tb4 h4 N4 t4 Rp kk4
 refine i_lt (r:=false) (i:=((↑X:Int))) (j:=(0)) (decide_eq_false (by exact oda)) ?_
 with_reducible refine seg_callD (by with_unfolding_all exact hh) Rp [] 20 (dA 0x46181) [] (cR 94 [.int ((↑X:Int)) ta,.int ((↑Y:Int)) tb]) [] [] 0 0 ?_
 intro Tb5 h5 N5 t5 Rp kk5
 refine dposN x (A.under _) hh (by show A.depth+1<500;omega) _ X Y (by exact zqgt hb0) (by omega) (by omega) _ _ _ _ _ _ _ _ _ Rp fun hd1 Nd1 td1 a u v Rp=>?_
 with_reducible refine seg_valD (by with_unfolding_all exact hh) Rp [] 12 (dA 0x0) [] (Flow.ret (.ref a)) [] [.k,.d] 0 0 ?_
 intro Tb6 h6 N6 t6 Rp
 exact K _ _ _ _ _ _ Rp
theorem not_div(a b:Int)(hb:0<b):Builtin.bitNot ((-a-1).fdiv b)=a.fdiv b∧b+Builtin.bitNot ((-a-1).fmod b)=a.fmod b:=by
 rw[Int.fdiv_eq_ediv_of_nonneg _ (by exact obb hb),Int.fdiv_eq_ediv_of_nonneg _ (by exact obb hb),Int.fmod_eq_emod_of_nonneg _ (by exact obb hb),Int.fmod_eq_emod_of_nonneg _ (by exact obb hb)]
 have h0:=Int.emod_nonneg a (show b≠0 by exact oeK hb)
 have h1:=Int.emod_lt_of_pos a hb
 have h2:=Int.emod_add_mul_ediv a b
 have key:=(Int.ediv_emod_unique (a:=-a-1) (r:=b-1-a%b) (q:=-(a/b)-1) hb).mpr ⟨by rw[Int.mul_sub,Int.mul_neg,Int.mul_one];omega,by exact zqgu h1,by exact zqgv h0⟩
 rw[key.1,key.2]
 have hn:∀z:Int,Builtin.bitNot z= -z-1:=fun z=>rfl
 rw[hn,hn]
 omega
theorem idm_np(x:W2)(A:Around)(hh:A.handled=none)(hA:A.depth<470)(R:Result→Shared→Prop)(a b q r:Int)(ha:a<0)(ha58:-(2^128)<a)(hb0:8≤b)(hb30:b<2^64)(hq:a.fdiv b=q)(hr:a.fmod b=r)
 (ta tb:Nat) (N t:Nat) (h:Heap) (gl d os) (rest:Cells) (Rp:Rep x.B N h rest 0)
 (K:∀h' N' t' a u v,Rep x.B N' h' ((a,⟨.type "tuple",none,.seq #[.int q u,.int r v] 0,#[]⟩)::rest) 0→R (.ok (.ret (.ref a))) ⟨h',gl,d,t',os⟩):
 codeAny (MB x.B) A (.call (.ref 101) ⟨[.int a ta,.int b tb],[]⟩) R ⟨h,gl,d,t,os⟩:=by
 refine enterD hh Rp (by omega) 22 (dA 0x86086041) (bodyOf (fdOf x.B 101)) (envOf (fdOf x.B 101) 101 (N+0)) [(N+0,oF #[En x.B n_a (t+0) (.int (a) ta),En x.B n_b (t+1) (.int (b) tb)] 2)] 1 2 (by rfl') ?_
 intro Tb1 h1 N1 t1 Rp
 with_reducible refine seg_callD (by with_unfolding_all exact hh) Rp [] 17 (dA 0x6) [] (cB "int.__eq__" [.int (b) tb,.int 0 (t1+0)]) [] [] 0 1 ?_
 intro Tb2 h2 N2 t2 Rp kk2
 refine i_eq (r:=false) (i:=(b)) (j:=(0)) (decide_eq_false (by exact zqgw hb0)) ?_
 with_reducible refine seg_callD (by with_unfolding_all exact hh) Rp [] 17 (dA 0x6) [] (cB "int.__lt__" [.int (b) tb,.int 0 (t2+0)]) [] [] 0 1 ?_
 intro Tb3 h3 N3 t3 Rp kk3
 refine i_lt (r:=false) (i:=(b)) (j:=(0)) (decide_eq_false (by exact zqgx hb0)) ?_
 with_reducible refine seg_callD (by with_unfolding_all exact hh) Rp [] 17 (dA 0x6) [] (cB "int.__lt__" [.int (a) ta,.int 0 (t3+0)]) [] [] 0 1 ?_
 intro Tb4 h4 N4 t4 Rp kk4
 refine i_lt (r:=true) (i:=(a)) (j:=(0)) (decide_eq_true (by exact ofI ha)) ?_
 with_reducible refine seg_callD (by with_unfolding_all exact hh) Rp [] 25 (dA 0x1181181) [] (cR 101 [.int (Builtin.bitNot a) (t4+0),.int (b) tb]) [] [] 0 1 ?_
 intro Tb5 h5 N5 t5 Rp kk5
 refine idm_pp x (A.under _) hh (by show A.depth+1<480;omega) _ (-a-1) b _ _ (by exact zqgy ha) (by exact zqgz ha58) (by exact zqci hb0) (by exact zqdR hb30) rfl rfl _ _ _ _ _ _ _ _ _ Rp fun hd1 Nd1 td1 ad ud vd Rp=>?_
 with_reducible refine seg_valD (by with_unfolding_all exact hh) Rp [] 96 (dA 0x104a2812862862860861c61860460861c61860460861c6186046186046186) (dM 17) (Flow.ret (.ref (Nd1+3))) [(Nd1+3,oT #[.int (Builtin.bitNot ((-a-1).fdiv b)) (td1+2),.int (b+Builtin.bitNot ((-a-1).fmod b)) (td1+4)])] [.d,.d] 4 5 ?_
 intro Tb6 h6 N6 t6 Rp
 obtain⟨e1,e2⟩:=not_div a b (by exact zqan hb0)
 dsimp only[Tb6] at Rp;rw[e1,e2,hq,hr] at Rp
 exact K _ _ _ _ _ _ Rp
theorem idm_any(x:W2)(A:Around)(hh:A.handled=none)(hA:A.depth<470)(R:Result→Shared→Prop)(a b q r:Int)(ha:-(2^128)<a)(ha58:a<2^128)(hb0:8≤b)(hb30:b<2^64)(hq:a.fdiv b=q)(hr:a.fmod b=r)
 (ta tb:Nat) (N t:Nat) (h:Heap) (gl d os) (rest:Cells) (Rp:Rep x.B N h rest 0)
 (K:∀h' N' t' a u v,Rep x.B N' h' ((a,⟨.type "tuple",none,.seq #[.int q u,.int r v] 0,#[]⟩)::rest) 0→R (.ok (.ret (.ref a))) ⟨h',gl,d,t',os⟩):
 codeAny (MB x.B) A (.call (.ref 101) ⟨[.int a ta,.int b tb],[]⟩) R ⟨h,gl,d,t,os⟩:=by
 rcases Int.lt_or_le a 0 with c|c
 ·exact idm_np x A hh hA R a b q r c ha hb0 hb30 hq hr ta tb N t h gl d os rest Rp K
 ·exact idm_pp x A hh (by omega) R a b q r c ha58 hb0 hb30 hq hr ta tb N t h gl d os rest Rp K
theorem idm_xn(x:W2)(A:Around)(hh:A.handled=none)(hA:A.depth<460)(R:Result→Shared→Prop)(a b q r:Int)(ha:-(2^128)<a)(ha58:a<2^128)(hb0:b≤-8)(hb30:-(2^64)<b)(hq:a.fdiv b=q)(hr:a.fmod b=r)
 (ta tb:Nat) (N t:Nat) (h:Heap) (gl d os) (rest:Cells) (Rp:Rep x.B N h rest 0)
 (K:∀h' N' t' a u v,Rep x.B N' h' ((a,⟨.type "tuple",none,.seq #[.int q u,.int r v] 0,#[]⟩)::rest) 0→R (.ok (.ret (.ref a))) ⟨h',gl,d,t',os⟩):
 codeAny (MB x.B) A (.call (.ref 101) ⟨[.int a ta,.int b tb],[]⟩) R ⟨h,gl,d,t,os⟩:=by
 refine enterD hh Rp (by omega) 22 (dA 0x86086041) (bodyOf (fdOf x.B 101)) (envOf (fdOf x.B 101) 101 (N+0)) [(N+0,oF #[En x.B n_a (t+0) (.int (a) ta),En x.B n_b (t+1) (.int (b) tb)] 2)] 1 2 (by rfl') ?_
 intro Tb1 h1 N1 t1 Rp
 with_reducible refine seg_callD (by with_unfolding_all exact hh) Rp [] 17 (dA 0x6) [] (cB "int.__eq__" [.int (b) tb,.int 0 (t1+0)]) [] [] 0 1 ?_
 intro Tb2 h2 N2 t2 Rp kk2
 refine i_eq (r:=false) (i:=(b)) (j:=(0)) (decide_eq_false (by exact zqgA hb0)) ?_
 with_reducible refine seg_callD (by with_unfolding_all exact hh) Rp [] 17 (dA 0x6) [] (cB "int.__lt__" [.int (b) tb,.int 0 (t2+0)]) [] [] 0 1 ?_
 intro Tb3 h3 N3 t3 Rp kk3
 refine i_lt (r:=true) (i:=(b)) (j:=(0)) (decide_eq_true (by exact zqgB hb0)) ?_
 with_reducible refine seg_callD (by with_unfolding_all exact hh) Rp [] 30 (dA 0x41181181) [] (cR 101 [.int (-a) (t3+0),.int (-b) (t3+1)]) [] [] 0 2 ?_
 intro Tb4 h4 N4 t4 Rp kk4
 refine idm_any x (A.under _) hh (by show A.depth+1<470;omega) _ (-a) (-b) _ _ (by omega) (by omega) (by exact zqgC hb0) (by omega) rfl rfl _ _ _ _ _ _ _ _ _ Rp fun hd1 Nd1 td1 ad ud vd Rp=>?_
 with_reducible refine seg_valD (by with_unfolding_all exact hh) Rp [] 84 (dA 0x4a2862862860861c61860460861c61860460861c6186046186046186) (dM 17) (Flow.ret (.ref (Nd1+3))) [(Nd1+3,oT #[.int ((-a).fdiv (-b)) ud,.int (-(-a).fmod (-b)) (td1+2)])] [.d,.d] 4 3 ?_
 intro Tb5 h5 N5 t5 Rp
 have e1:(-a).fdiv (-b)=q:=by rw[←hq,Int.neg_fdiv_neg]
 have e2:-((-a).fmod (-b))=r:=by rw[←hr,Int.neg_fmod_neg,Int.neg_neg]
 dsimp only[Tb5] at Rp;rw[e1,e2] at Rp
 exact K _ _ _ _ _ _ Rp
end Mine
namespace Mine
structure Six where
 x0:Int
 x1:Int
 x2:Int
 x3:Int
 x4:Int
structure Five where
 w0:Int
 w1:Int
 w2:Int
 w3:Int
 w4:Int
noncomputable def Six.tw(p:Nat)(k:Int)(x:Six):Six:=match p with
 |0=>{x with x1:=x.x1+k*x.x0}
 |1=>{x with x0:=x.x0-k*x.x1,x2:=x.x2+k*x.x1}
 |2=>{x with x1:=x.x1-k*x.x2,x3:=x.x3+k*x.x2}
 |3=>{x with x2:=x.x2-k*x.x3,x4:=x.x4+k*x.x3}
 |_=>{x with x3:=x.x3-k*x.x4}
noncomputable def Five.tw(p:Nat)(k:Int)(w:Five):Five:=match p with
 |0=>{w with w0:=w.w0+k*w.w1+k*w.w4,w2:=w.w2+ -k*w.w3}
 |1=>{w with w1:=w.w1+ -k*w.w0,w3:=w.w3+k*w.w2+k*w.w4}
 |2=>{w with w0:=w.w0+k*w.w1+k*w.w2,w4:=w.w4+ -k*w.w3}
 |3=>{w with w2:=w.w2+ -k*w.w0,w3:=w.w3+k*w.w1+k*w.w4}
 |_=>{w with w0:=w.w0+k*w.w2+k*w.w4,w1:=w.w1+ -k*w.w3}
structure Bal (x y:Six) (w:Five):Prop where
 sx:x.x0+x.x2+x.x4=0
 sy:y.x0+y.x2+y.x4=0
 m01:x.x0*y.x1-y.x0*x.x1=w.w4
 m02:x.x0*y.x2-y.x0*x.x2=w.w3
 m03:x.x0*y.x3-y.x0*x.x3= -w.w1-w.w4
 m12:x.x1*y.x2-y.x1*x.x2= -w.w2
 m13:x.x1*y.x3-y.x1*x.x3= -w.w0
 m23:x.x2*y.x3-y.x2*x.x3=w.w1
theorem Bal.tw{x y:Six}{w:Five}(h:Bal x y w)(p:Nat)(hp:p<5)(k:Int):Bal (x.tw p k) (y.tw p k) (w.tw p k):=by
 obtain⟨x0,x1,x2,x3,x4⟩:=x
 obtain⟨y0,y1,y2,y3,y4⟩:=y
 obtain⟨w0,w1,w2,w3,w4⟩:=w
 obtain⟨sx,sy,m01,m02,m03,m12,m13,m23⟩:=h
 dsimp only at*
 rcases(by exact zqae hp:p=0∨p=1∨p=2∨p=3∨p=4) with rfl|rfl|rfl|rfl|rfl<;>
 refine⟨?_,?_,?_,?_,?_,?_,?_,?_⟩<;>dsimp only[Six.tw,Five.tw]<;>grind
end Mine
namespace Mine
open PySem PySem.W PySem.W.X PyProof.Rows PySem.Spec PySem.Calls
section
variable {B:Base} {A:Around} {R:Result→Shared→Prop} {h:Heap} {gl:Array GenState} {d:Drawn} {t:Nat} {os:OsState} {N u v:Nat} {tab:Cells} {a b:Int}
theorem i_min2{m:Int}(e:min a b=m)(hh:A.handled=none)(Rp:Rep B N h tab 0)(K:∀h' N' t' w,Rep B N' h' tab 0→R (.ok (.ret (.int m w))) ⟨h',gl,d,t',os⟩):
 codeAny (MB B) A (.call (.builtin "min") ⟨[.int a u,.int b v],[]⟩) R ⟨h,gl,d,t,os⟩:=by
 by_cases c:b<a
 ·obtain rfl:b=m:=by omega
  refine code_tree ?_
  with_reducible refine seg_valD (by with_unfolding_all exact hh) Rp [] 11 (dA 0x0) [] (Fin.again (.builtin "min" ⟨[.int (a) u,.int (b) v],[]⟩)) [] [] 0 0 ?_
  intro Tb1 h1 N1 t1 Rp
  refine⟨Code.quiet_builtin _ (by decide+kernel),code_tree ?_⟩
  with_reducible refine seg_valD (by with_unfolding_all exact hh) Rp [] 22 (dA 0x6181186) (dM 15) (Fin.again (.builtin "min.loop" ⟨[.ref (N1+1),.none,.ref (N1+2)],[]⟩)) [(N1+2,oL #[] 0),(N1+1,oI "tuple_iterator" #[.ref (N1+0),.int 0 0]),(N1+0,oT #[.int (a) u,.int (b) v])] [] 3 0 ?_
  intro Tb2 h2 N2 t2 Rp
  refine⟨Code.quiet_builtin _ (by decide+kernel),code_tree ?_⟩
  with_reducible refine seg_valD (by with_unfolding_all exact hh) Rp [] 25 (dA 0x1821831c81c71c11c6) [] (Fin.again (.builtin "min.loop" ⟨[.ref (N1+1),.none,.ref (N1+2)],[]⟩)) [] [.u fun _=>oL #[.int (a) u,.int (a) u] 1,.u fun _=>oI "tuple_iterator" #[.ref (N1+0),.int 1 0]] 0 0 ?_
  intro Tb3 h3 N3 t3 Rp
  refine⟨Code.quiet_builtin _ (by decide+kernel),code_tree ?_⟩
  refine seg_valD hh Rp [aB "int.__lt__" [.int (b) v,.int (a) u] true] 30 (dA 0x60860831c81c71c11c6) [] (Fin.again (.builtin "min.loop" ⟨[.ref (N1+1),.none,.ref (N1+2)],[]⟩)) [] [.u fun _=>oL #[.int (b) v,.int (b) v] 1,.u fun _=>oI "tuple_iterator" #[.ref (N1+0),.int 2 0]] 0 0 ?_ (aC (fun _ _ _ _ _ _ _ K=>i_lt (B:=B) (r:=true) (i:=(b)) (j:=(a)) (decide_eq_true (by exact zqau c)) K) aN)
  intro Tb4 h4 N4 t4 Rp
  refine⟨Code.quiet_builtin _ (by decide+kernel),code_tree ?_⟩
  with_reducible refine seg_valD (by with_unfolding_all exact hh) Rp [] 31 (dA 0x81081831c81c71c11c6) (dM 4) (Fin.done (Flow.ret (.int (b) v))) [] [.d,.d,.d] 2 0 ?_
  intro Tb5 h5 N5 t5 Rp
  exact K _ _ _ _ Rp
 ·obtain rfl:a=m:=by omega
  refine code_tree ?_
  with_reducible refine seg_valD (by with_unfolding_all exact hh) Rp [] 11 (dA 0x0) [] (Fin.again (.builtin "min" ⟨[.int (a) u,.int (b) v],[]⟩)) [] [] 0 0 ?_
  intro Tb1 h1 N1 t1 Rp
  refine⟨Code.quiet_builtin _ (by decide+kernel),code_tree ?_⟩
  with_reducible refine seg_valD (by with_unfolding_all exact hh) Rp [] 22 (dA 0x6181186) (dM 15) (Fin.again (.builtin "min.loop" ⟨[.ref (N1+1),.none,.ref (N1+2)],[]⟩)) [(N1+2,oL #[] 0),(N1+1,oI "tuple_iterator" #[.ref (N1+0),.int 0 0]),(N1+0,oT #[.int (a) u,.int (b) v])] [] 3 0 ?_
  intro Tb2 h2 N2 t2 Rp
  refine⟨Code.quiet_builtin _ (by decide+kernel),code_tree ?_⟩
  with_reducible refine seg_valD (by with_unfolding_all exact hh) Rp [] 25 (dA 0x1821831c81c71c11c6) [] (Fin.again (.builtin "min.loop" ⟨[.ref (N1+1),.none,.ref (N1+2)],[]⟩)) [] [.u fun _=>oL #[.int (a) u,.int (a) u] 1,.u fun _=>oI "tuple_iterator" #[.ref (N1+0),.int 1 0]] 0 0 ?_
  intro Tb3 h3 N3 t3 Rp
  refine⟨Code.quiet_builtin _ (by decide+kernel),code_tree ?_⟩
  refine seg_valD hh Rp [aB "int.__lt__" [.int (b) v,.int (a) u] false] 27 (dA 0x831c81c71c11c6) [] (Fin.again (.builtin "min.loop" ⟨[.ref (N1+1),.none,.ref (N1+2)],[]⟩)) [] [.k,.u fun _=>oI "tuple_iterator" #[.ref (N1+0),.int 2 0]] 0 0 ?_ (aC (fun _ _ _ _ _ _ _ K=>i_lt (B:=B) (r:=false) (i:=(b)) (j:=(a)) (decide_eq_false (by omega)) K) aN)
  intro Tb4 h4 N4 t4 Rp
  refine⟨Code.quiet_builtin _ (by decide+kernel),code_tree ?_⟩
  with_reducible refine seg_valD (by with_unfolding_all exact hh) Rp [] 31 (dA 0x81081831c81c71c11c6) (dM 4) (Fin.done (Flow.ret (.int (a) u))) [] [.d,.d,.d] 2 0 ?_
  intro Tb5 h5 N5 t5 Rp
  exact K _ _ _ _ Rp
theorem i_max2{m:Int}(e:max a b=m)(hh:A.handled=none)(Rp:Rep B N h tab 0)(K:∀h' N' t' w,Rep B N' h' tab 0→R (.ok (.ret (.int m w))) ⟨h',gl,d,t',os⟩):
 codeAny (MB B) A (.call (.builtin "max") ⟨[.int a u,.int b v],[]⟩) R ⟨h,gl,d,t,os⟩:=by
 by_cases c:b>a
 ·obtain rfl:b=m:=by omega
  refine code_tree ?_
  with_reducible refine seg_valD (by with_unfolding_all exact hh) Rp [] 11 (dA 0x0) [] (Fin.again (.builtin "max" ⟨[.int (a) u,.int (b) v],[]⟩)) [] [] 0 0 ?_
  intro Tb1 h1 N1 t1 Rp
  refine⟨Code.quiet_builtin _ (by decide+kernel),code_tree ?_⟩
  with_reducible refine seg_valD (by with_unfolding_all exact hh) Rp [] 22 (dA 0x6181186) (dM 15) (Fin.again (.builtin "max.loop" ⟨[.ref (N1+1),.none,.ref (N1+2)],[]⟩)) [(N1+2,oL #[] 0),(N1+1,oI "tuple_iterator" #[.ref (N1+0),.int 0 0]),(N1+0,oT #[.int (a) u,.int (b) v])] [] 3 0 ?_
  intro Tb2 h2 N2 t2 Rp
  refine⟨Code.quiet_builtin _ (by decide+kernel),code_tree ?_⟩
  with_reducible refine seg_valD (by with_unfolding_all exact hh) Rp [] 25 (dA 0x1821831c81c71c11c6) [] (Fin.again (.builtin "max.loop" ⟨[.ref (N1+1),.none,.ref (N1+2)],[]⟩)) [] [.u fun _=>oL #[.int (a) u,.int (a) u] 1,.u fun _=>oI "tuple_iterator" #[.ref (N1+0),.int 1 0]] 0 0 ?_
  intro Tb3 h3 N3 t3 Rp
  refine⟨Code.quiet_builtin _ (by decide+kernel),code_tree ?_⟩
  refine seg_valD hh Rp [aB "int.__gt__" [.int (b) v,.int (a) u] true] 30 (dA 0x60860831c81c71c11c6) [] (Fin.again (.builtin "max.loop" ⟨[.ref (N1+1),.none,.ref (N1+2)],[]⟩)) [] [.u fun _=>oL #[.int (b) v,.int (b) v] 1,.u fun _=>oI "tuple_iterator" #[.ref (N1+0),.int 2 0]] 0 0 ?_ (aC (fun _ _ _ _ _ _ _ K=>i_gt (B:=B) (r:=true) (i:=(b)) (j:=(a)) (decide_eq_true (by omega)) K) aN)
  intro Tb4 h4 N4 t4 Rp
  refine⟨Code.quiet_builtin _ (by decide+kernel),code_tree ?_⟩
  with_reducible refine seg_valD (by with_unfolding_all exact hh) Rp [] 31 (dA 0x81081831c81c71c11c6) (dM 4) (Fin.done (Flow.ret (.int (b) v))) [] [.d,.d,.d] 2 0 ?_
  intro Tb5 h5 N5 t5 Rp
  exact K _ _ _ _ Rp
 ·obtain rfl:a=m:=by omega
  refine code_tree ?_
  with_reducible refine seg_valD (by with_unfolding_all exact hh) Rp [] 11 (dA 0x0) [] (Fin.again (.builtin "max" ⟨[.int (a) u,.int (b) v],[]⟩)) [] [] 0 0 ?_
  intro Tb1 h1 N1 t1 Rp
  refine⟨Code.quiet_builtin _ (by decide+kernel),code_tree ?_⟩
  with_reducible refine seg_valD (by with_unfolding_all exact hh) Rp [] 22 (dA 0x6181186) (dM 15) (Fin.again (.builtin "max.loop" ⟨[.ref (N1+1),.none,.ref (N1+2)],[]⟩)) [(N1+2,oL #[] 0),(N1+1,oI "tuple_iterator" #[.ref (N1+0),.int 0 0]),(N1+0,oT #[.int (a) u,.int (b) v])] [] 3 0 ?_
  intro Tb2 h2 N2 t2 Rp
  refine⟨Code.quiet_builtin _ (by decide+kernel),code_tree ?_⟩
  with_reducible refine seg_valD (by with_unfolding_all exact hh) Rp [] 25 (dA 0x1821831c81c71c11c6) [] (Fin.again (.builtin "max.loop" ⟨[.ref (N1+1),.none,.ref (N1+2)],[]⟩)) [] [.u fun _=>oL #[.int (a) u,.int (a) u] 1,.u fun _=>oI "tuple_iterator" #[.ref (N1+0),.int 1 0]] 0 0 ?_
  intro Tb3 h3 N3 t3 Rp
  refine⟨Code.quiet_builtin _ (by decide+kernel),code_tree ?_⟩
  refine seg_valD hh Rp [aB "int.__gt__" [.int (b) v,.int (a) u] false] 27 (dA 0x831c81c71c11c6) [] (Fin.again (.builtin "max.loop" ⟨[.ref (N1+1),.none,.ref (N1+2)],[]⟩)) [] [.k,.u fun _=>oI "tuple_iterator" #[.ref (N1+0),.int 2 0]] 0 0 ?_ (aC (fun _ _ _ _ _ _ _ K=>i_gt (B:=B) (r:=false) (i:=(b)) (j:=(a)) (decide_eq_false (by omega)) K) aN)
  intro Tb4 h4 N4 t4 Rp
  refine⟨Code.quiet_builtin _ (by decide+kernel),code_tree ?_⟩
  with_reducible refine seg_valD (by with_unfolding_all exact hh) Rp [] 31 (dA 0x81081831c81c71c11c6) (dM 4) (Fin.done (Flow.ret (.int (a) u))) [] [.d,.d,.d] 2 0 ?_
  intro Tb5 h5 N5 t5 Rp
  exact K _ _ _ _ Rp
end
end Mine
namespace Mine
open PySem PySem.W PySem.W.X PyProof.Rows PySem.Calls
noncomputable def forI:Stmt→Expr
 | .For _ i _ _ _=>i
 |_=>default
noncomputable def binL:Expr→Expr
 | .BinOp l _ _ _=>l
 |_=>default
noncomputable def binR:Expr→Expr
 | .BinOp _ _ r _=>r
 |_=>default
noncomputable abbrev RgS(k l c:Int):Obj:=⟨.type "range_iterator",none,.fields #[.int k 0,.int l 0,.int c 0],#[]⟩
section
variable {B:Base} {A:Around} {it acc:Value} {env:Env} {e:Expr} {R:Result→Shared→Prop}
theorem comp_startR(he:plain1 e=true){N m:Nat}{h:Heap}{tab:Cells}{gl:Array GenState}{d:Drawn}{t:Nat}{os:OsState}{a:Addr}{k l c:Int}(Rp:Rep B N h tab m)(i:Nat)(hx:nth tab i=some (a,RgS k l c))
 (K:codeAny (MB B) A (.compLoop e 0 (.ref a) acc env) R ⟨h,gl,d,t,os⟩):codeAny (MB B) A (.compStart e 0 (.ref a) acc env) R ⟨h,gl,d,t,os⟩:=by
 obtain⟨iter,scope,pos,q⟩:=plain1_eq he
 generalize tgtE e=tg at*
 generalize eltE e=el at*
 subst q
 refine codeAny_compStart_list K ?_
 have hT:(⟨h,gl,d,t,os⟩:Shared).TypeIs (.ref a) "range_iterator":=⟨_,Rp.at hx,rfl⟩
 refine wpAny_pyIter_slot hT PySem.F.slot_range_iterator_iter (wpAny_call_entry PySem.F.slot_range_iterator_iter hT PySem.F.entry_range_iterator_iter ?_ (PySem.F.args_range_iterator_iter_1 _))
 show wpAny _ _ (ret (.ref a)) _ _ _
 exact wpAny_pure ⟨_,rfl,"range_iterator",_,hT,PySem.F.slot_range_iterator_next.lookup,K⟩
end
end Mine
namespace Mine
open PySem PySem.W PySem.W.X PyProof.Rows PySem.Spec PySem.Calls
noncomputable abbrev mtL(x:W2)(F it:Addr):Code:=loopOf (stmtAt x.B 269 0) (.ref it) (envOf (fdOf x.B 269) 269 F)
section
variable (x:W2) (A:Around) (hh:A.handled=none) (hA:A.depth<550) (R:Result→Shared→Prop) (it F fl l:Addr) (fi:Array Value) (j p f up uf nf n k0 k1:Nat) (ws:List (List Nat×Nat)) (hw:ws.length=6) (hj:fi[j]? =some (.int (f:Int) uf)) (hp:p<6) (hf:f<6) (sl:List (List Nat)) (hsl:((ws.map (·.1)).drop (min p f)).take (max p f+1-min p f)=sl) (hok:(okC (joinL sl)&&jOk sl)=true) (gl:Array GenState) (hgb:AllBare gl) (d:Drawn) (os:OsState) (rest:Cells)
include hh hA hw hj hp hf hsl hok hgb
theorem mt_t0(N t:Nat)(h:Heap)
 (Rp:Rep x.B N h ((it,ListIt fl (j:Int))::(F,oF #[En x.B n_pieces k0 (.ref l),En x.B n_place k1 (.int (p:Int) up)] 2)::(fl,Lst fi nf)::(l,Lst (strA ws) n)::rest) 0)
 (K1:checkP (joinL sl)=true→∀h' N' t' gl',AllBare gl'→Rep x.B N' h' ((fl,Lst fi nf)::(l,Lst (strA ws) n)::rest) 0→R (.ok (.ret (.int (f:Int) uf))) ⟨h',gl',d,t',os⟩)
 (K2:checkP (joinL sl)=false→∀h' N' t' gl' k2 k3,AllBare gl'→Rep x.B N' h' ((it,ListIt fl ((j+1:Nat):Int))::(F,oF #[En x.B n_pieces k0 (.ref l),En x.B n_place k1 (.int (p:Int) up),En x.B n_far k2 (.int (f:Int) uf),En x.B n_taken k3 (.bool false)] 4)::(fl,Lst fi nf)::(l,Lst (strA ws) n)::rest) 0→codeAny (MB x.B) A (mtL x F it) R ⟨h',gl',d,t',os⟩):
 codeAny (MB x.B) A (mtL x F it) R ⟨h,gl,d,t,os⟩:=by
 simp only[Bool.and_eq_true] at hok
 refine code_tree ?_
 with_reducible refine seg_callD (by with_unfolding_all exact hh) Rp [] 13 (dA 0x6) [] (cB "list_iterator.__next__" [.ref it]) [] [] 0 0 ?_
 intro Tb1 h1 N1 t1 Rp kk1
 refine li_next Rp 0 2 rfl rfl hj rfl fun hn1 Rp=>?_
 try dsimp only[setN] at Rp
 with_reducible refine seg_callD (by with_unfolding_all exact hh) Rp [] 34 (dA 0x1c70411c10c7) [] (cB "min" [.int (↑p) up,.int (↑f) uf]) [] [.k,.u (dU [] [En x.B n_far (t1+0) (.int (↑f) uf)] 3)] 0 2 ?_
 intro Tb2 h2 N2 t2 Rp kk2
 refine i_min2 (m:=((min p f:Nat):Int)) (by exact zqcj) hh Rp fun h3 N3 t3 w3 Rp=>?_
 with_reducible refine seg_callD (by with_unfolding_all exact hh) Rp [] 20 (dA 0x1c7041) [] (cB "max" [.int (↑p) up,.int (↑f) uf]) [] [] 0 0 ?_
 intro Tb4 h4 N4 t4 Rp kk4
 refine i_max2 (m:=((max p f:Nat):Int)) (by exact zqck) hh Rp fun h4 N4 t4 w4 Rp=>?_
 with_reducible refine seg_callD (by with_unfolding_all exact hh) Rp [] 23 (dA 0x28a281) (dM 3) (cB "list.__getitem__" [.ref l,.ref (N4+0)]) [(N4+0,oI "slice" #[.int (↑(min p f)) w3,.int (↑(max p f)+1) (t4+1),.none])] [] 1 2 ?_
 intro Tb5 h5 N5 t5 Rp kk5
 refine l_slice Rp 4 0 rfl rfl (.int _ _) (.int _ _) .none (by simp) (by rw[strA_size];exact zqdS hw) (slice6 hw (lo:=min p f) (hi:=max p f) (by exact zqdT) (by exact zqcl hp hf)) fun h5 N5 a5 Rp=>?_
 with_reducible refine seg_callD (by with_unfolding_all exact hh) Rp [] 13 (dA 0x0) [] (cB "str.join" [.str (S []) (t1+1),.ref a5]) [] [.k,.d] 0 0 ?_
 intro Tb6 h6 N6 t6 Rp kk6
 refine s_joinL Rp 0 _ _ _ rfl (by rw[List.map_take,List.map_drop,hsl]) hok.2 fun t6 v6=>?_
 with_reducible refine seg_callD (by with_unfolding_all exact hh) Rp [] 14 (dA 0x1) [] (cR 59 [.str (S (joinL sl)) v6]) [] [.d] 0 0 ?_
 intro Tb7 h7 N7 t7 Rp kk7
 refine check x (A.under _) hh (by show A.depth<600;exact zqdU hA) _ (joinL sl) hok.1 (checkP (joinL sl)) rfl _ _ _ _ gl d os hgb _ Rp fun h7 N7 t7 gl7 hgb Rp=>?_
 show wpAny ..
 cases c:checkP (joinL sl)
 ·with_reducible refine seg_valD (by with_unfolding_all exact hh) Rp [] 23 (dA 0x70c7) [] (Fin.again (loopOf (stmtAt x.B 269 0) (.ref it) (envOf (fdOf x.B 269) 269 F))) [] [.k,.u (dU [] [En x.B n_taken (t7+0) (.bool false)] 4)] 0 1 ?_
  intro Tb8 h8 N8 t8 Rp
  exact⟨rfl,K2 c _ _ _ _ _ _ hgb Rp⟩
 ·with_reducible refine seg_valD (by with_unfolding_all exact hh) Rp [] 29 (dA 0x71c70c7) [] (Fin.done (Flow.ret (.int (↑f) uf))) [] [.d,.d] 0 1 ?_
  intro Tb8 h8 N8 t8 Rp
  exact K1 c _ _ _ _ hgb Rp
theorem mt_t1(k2 k3:Nat)(v2 v3:Value)(N t:Nat)(h:Heap)
 (Rp:Rep x.B N h ((it,ListIt fl (j:Int))::(F,oF #[En x.B n_pieces k0 (.ref l),En x.B n_place k1 (.int (p:Int) up),En x.B n_far k2 v2,En x.B n_taken k3 v3] 4)::(fl,Lst fi nf)::(l,Lst (strA ws) n)::rest) 0)
 (K1:checkP (joinL sl)=true→∀h' N' t' gl',AllBare gl'→Rep x.B N' h' ((fl,Lst fi nf)::(l,Lst (strA ws) n)::rest) 0→R (.ok (.ret (.int (f:Int) uf))) ⟨h',gl',d,t',os⟩)
 (K2:checkP (joinL sl)=false→∀h' N' t' gl' k2,AllBare gl'→Rep x.B N' h' ((it,ListIt fl ((j+1:Nat):Int))::(F,oF #[En x.B n_pieces k0 (.ref l),En x.B n_place k1 (.int (p:Int) up),En x.B n_far k2 (.int (f:Int) uf),En x.B n_taken k3 (.bool false)] 4)::(fl,Lst fi nf)::(l,Lst (strA ws) n)::rest) 0→codeAny (MB x.B) A (mtL x F it) R ⟨h',gl',d,t',os⟩):
 codeAny (MB x.B) A (mtL x F it) R ⟨h,gl,d,t,os⟩:=by
 simp only[Bool.and_eq_true] at hok
 refine code_tree ?_
 with_reducible refine seg_callD (by with_unfolding_all exact hh) Rp [] 13 (dA 0x6) [] (cB "list_iterator.__next__" [.ref it]) [] [] 0 0 ?_
 intro Tb1 h1 N1 t1 Rp kk1
 refine li_next Rp 0 2 rfl rfl hj rfl fun hn1 Rp=>?_
 try dsimp only[setN] at Rp
 with_reducible refine seg_callD (by with_unfolding_all exact hh) Rp [] 34 (dA 0x1c70411c10c7) [] (cB "min" [.int (↑p) up,.int (↑f) uf]) [] [.k,.u (dU [(2,.int (↑f) uf)] [] 4)] 0 2 ?_
 intro Tb2 h2 N2 t2 Rp kk2
 refine i_min2 (m:=((min p f:Nat):Int)) (by exact zqcj) hh Rp fun h3 N3 t3 w3 Rp=>?_
 with_reducible refine seg_callD (by with_unfolding_all exact hh) Rp [] 20 (dA 0x1c7041) [] (cB "max" [.int (↑p) up,.int (↑f) uf]) [] [] 0 0 ?_
 intro Tb4 h4 N4 t4 Rp kk4
 refine i_max2 (m:=((max p f:Nat):Int)) (by exact zqck) hh Rp fun h4 N4 t4 w4 Rp=>?_
 with_reducible refine seg_callD (by with_unfolding_all exact hh) Rp [] 23 (dA 0x28a281) (dM 3) (cB "list.__getitem__" [.ref l,.ref (N4+0)]) [(N4+0,oI "slice" #[.int (↑(min p f)) w3,.int (↑(max p f)+1) (t4+1),.none])] [] 1 2 ?_
 intro Tb5 h5 N5 t5 Rp kk5
 refine l_slice Rp 4 0 rfl rfl (.int _ _) (.int _ _) .none (by simp) (by rw[strA_size];exact zqdS hw) (slice6 hw (lo:=min p f) (hi:=max p f) (by exact zqdT) (by exact zqcl hp hf)) fun h5 N5 a5 Rp=>?_
 with_reducible refine seg_callD (by with_unfolding_all exact hh) Rp [] 13 (dA 0x0) [] (cB "str.join" [.str (S []) (t1+1),.ref a5]) [] [.k,.d] 0 0 ?_
 intro Tb6 h6 N6 t6 Rp kk6
 refine s_joinL Rp 0 _ _ _ rfl (by rw[List.map_take,List.map_drop,hsl]) hok.2 fun t6 v6=>?_
 with_reducible refine seg_callD (by with_unfolding_all exact hh) Rp [] 14 (dA 0x1) [] (cR 59 [.str (S (joinL sl)) v6]) [] [.d] 0 0 ?_
 intro Tb7 h7 N7 t7 Rp kk7
 refine check x (A.under _) hh (by show A.depth<600;exact zqdU hA) _ (joinL sl) hok.1 (checkP (joinL sl)) rfl _ _ _ _ gl d os hgb _ Rp fun h7 N7 t7 gl7 hgb Rp=>?_
 show wpAny ..
 cases c:checkP (joinL sl)
 ·with_reducible refine seg_valD (by with_unfolding_all exact hh) Rp [] 23 (dA 0x70c7) [] (Fin.again (loopOf (stmtAt x.B 269 0) (.ref it) (envOf (fdOf x.B 269) 269 F))) [] [.k,.u (dU [(3,.bool false)] [] 4)] 0 1 ?_
  intro Tb8 h8 N8 t8 Rp
  exact⟨rfl,K2 c _ _ _ _ _ hgb Rp⟩
 ·with_reducible refine seg_valD (by with_unfolding_all exact hh) Rp [] 29 (dA 0x71c70c7) [] (Fin.done (Flow.ret (.int (↑f) uf))) [] [.d,.d] 0 1 ?_
  intro Tb8 h8 N8 t8 Rp
  exact K1 c _ _ _ _ hgb Rp
end
theorem first_t{s r p f:Nat}{l:List Nat}(c:checkP (joinL (segL s r (min p f) (max p f)))=true):firstN s r p (f::l)=f:=by
 show(match chkN s r (min p f) (max p f) with|true=>f|false=>firstN s r p l)=f
 unfold chkN segN
 rw[c]
theorem first_f{s r p f:Nat}{l:List Nat}(c:checkP (joinL (segL s r (min p f) (max p f)))=false):firstN s r p (f::l)=firstN s r p l:=by
 show(match chkN s r (min p f) (max p f) with|true=>f|false=>firstN s r p l)=_
 unfold chkN segN
 rw[c]
theorem mate_lt{r p:Nat}(hr:r<5)(hp:p<6):mateT r p<6∧mateT r p≠p∧mateT r (mateT r p)=p:=by
 rcases(by exact zqae hr:r=0∨r=1∨r=2∨r=3∨r=4) with rfl|rfl|rfl|rfl|rfl<;>
 rcases(by exact zqaW hp:p=0∨p=1∨p=2∨p=3∨p=4∨p=5) with rfl|rfl|rfl|rfl|rfl|rfl<;>decide
theorem mt_run(x:W2)(A:Around)(hh:A.handled=none)(hA:A.depth<550)(R:Result→Shared→Prop)(it F fl l:Addr)(s r p f1 f2 f3 u1 u2 u3 up nf n k0 k1:Nat)(hs:s<4)(hr:r<5)(ws:List (List Nat×Nat))(hws:ws.map (·.1)=pcN s 0 (rowL r))(hp:p<6)(h1:f1<6)(h2:f2<6)(h3:f3<6)(hf:farsN p=[f1,f2,f3])(gl:Array GenState)(hgb:AllBare gl)(d:Drawn)(os:OsState)(rest:Cells)
 (N t:Nat) (h:Heap)
 (Rp:Rep x.B N h ((it,ListIt fl ((0:Nat):Int))::(F,oF #[En x.B n_pieces k0 (.ref l),En x.B n_place k1 (.int (p:Int) up)] 2)::(fl,Lst #[.int (f1:Int) u1,.int (f2:Int) u2,.int (f3:Int) u3] nf)::(l,Lst (strA ws) n)::rest) 0)
 (K:∀h' N' t' gl' u,AllBare gl'→Rep x.B N' h' ((fl,Lst #[.int (f1:Int) u1,.int (f2:Int) u2,.int (f3:Int) u3] nf)::(l,Lst (strA ws) n)::rest) 0→R (.ok (.ret (.int (mateT r p:Nat) u))) ⟨h',gl',d,t',os⟩):
 codeAny (MB x.B) A (mtL x F it) R ⟨h,gl,d,t,os⟩:=by
 have hw:ws.length=6:=by
  have:=congrArg List.length hws
  rw[List.length_map] at this
  rw[this]
  rcases(by exact zqae hr:r=0∨r=1∨r=2∨r=3∨r=4) with rfl|rfl|rfl|rfl|rfl<;>rfl
 have e:=mate_first hs hr hp
 rw[hf] at e
 have sg:∀f,((ws.map (·.1)).drop (min p f)).take (max p f+1-min p f)=segL s r (min p f) (max p f):=fun f=>by rw[hws];rfl
 have so:∀f,f<6→(okC (joinL (segL s r (min p f) (max p f)))&&jOk (segL s r (min p f) (max p f)))=true:=fun f h=>seg_ok hs hr (by omega) (by exact zqcl hp h)
 refine mt_t0 x A hh hA R it F fl l _ 0 p f1 up u1 nf n k0 k1 ws hw rfl hp h1 _ (sg f1) (so f1 h1) gl hgb d os rest N t h Rp (fun c h' N' t' gl' hgb Rp=>?_) fun c h' N' t' gl' k2 k3 hgb Rp=>?_
 ·rw[first_t c] at e
  subst e
  exact K _ _ _ _ _ hgb Rp
 rw[first_f c] at e
 refine mt_t1 x A hh hA R it F fl l _ 1 p f2 up u2 nf n k0 k1 ws hw rfl hp h2 _ (sg f2) (so f2 h2) gl' hgb d os rest k2 k3 _ _ N' t' h' Rp (fun c h' N' t' gl' hgb Rp=>?_) fun c h' N' t' gl' k2 hgb Rp=>?_
 ·rw[first_t c] at e
  subst e
  exact K _ _ _ _ _ hgb Rp
 rw[first_f c] at e
 refine mt_t1 x A hh hA R it F fl l _ 2 p f3 up u3 nf n k0 k1 ws hw rfl hp h3 _ (sg f3) (so f3 h3) gl' hgb d os rest k2 k3 _ _ N' t' h' Rp (fun c h' N' t' gl' hgb Rp=>?_) fun c h' N' t' gl' k2 hgb Rp=>?_
 ·rw[first_t c] at e
  subst e
  exact K _ _ _ _ _ hgb Rp
 rw[first_f c] at e
 exact absurd e.symm (mate_lt hr hp).2.1
noncomputable def mtE1(x:W2):Expr:=binL (forI (stmtAt x.B 269 0))
noncomputable def mtE2(x:W2):Expr:=binR (forI (stmtAt x.B 269 0))
noncomputable abbrev mtEnv(x:W2)(e:Expr)(F C:Addr):Env:=cenvOf (envOf (fdOf x.B 269) 269 F) e C []
theorem mate0(x:W2)(A:Around)(hh:A.handled=none)(hA:A.depth<490)(R:Result→Shared→Prop)(l:Addr)(up n s r:Nat)(hs:s<4)(hr:r<5)(ws:List (List Nat×Nat))(hws:ws.map (·.1)=pcN s 0 (rowL r))(rest:Cells)(gl:Array GenState)(hgb:AllBare gl)(d os)(N t:Nat)(h:Heap)
 (Rp:Rep x.B N h ((l,Lst (strA ws) n)::rest) 0)
 (K:∀h' N' t' gl' u,AllBare gl'→Rep x.B N' h' ((l,Lst (strA ws) n)::rest) 0→R (.ok (.ret (.int (mateT r 0:Nat) u))) ⟨h',gl',d,t',os⟩):
 codeAny (MB x.B) A (.call (.ref 269) ⟨[.ref l,.int 0 up],[]⟩) R ⟨h,gl,d,t,os⟩:=by
 refine enterD hh Rp (by exact zqav hA) 22 (dA 0x86086041) (bodyOf (fdOf x.B 269)) (envOf (fdOf x.B 269) 269 (N+0)) [(N+0,oF #[En x.B n_pieces (t+0) (.ref l),En x.B n_place (t+1) (.int 0 up)] 2)] 1 2 (by rfl') ?_
 intro Tb1 h1 N1 t1 Rp
 with_reducible refine seg_callD (by with_unfolding_all exact hh) Rp [] 56 (dA 0x6186186046186181186041046041) (dM 31) (.compStart (mtE1 x) 0 (.ref (N1+1)) (.ref (N1+2)) (mtEnv x (mtE1 x) (N+0) (N1+3))) [(N1+3,oD #[] 0),(N1+2,oL #[] 0),(N1+1,oI "range_iterator" #[.int 1 0,.int 3 0,.int 2 0]),(N1+0,oI "range" #[.int 1 (t1+1),.int 6 (t1+2),.int 2 (t1+3)])] [] 4 4 ?_
 intro Tb2 h2 N2 t2 Rp kk2
 refine comp_startR (by rfl') Rp 2 rfl ?_
 refine code_tree ?_
 with_reducible refine seg_valD (by with_unfolding_all exact hh) Rp [] 41 (dA 0x1c31c7046086108108208208048) [] (Fin.again (.compLoop (mtE1 x) 0 (.ref (N1+1)) (.ref (N1+2)) (mtEnv x (mtE1 x) (N+0) (N1+3)))) [] [.u fun _=>oD #[En x.B n_far (t2+1) (.int 1 (t2+0))] 1,.u fun _=>oL #[.int 1 (t2+0)] 1,.u fun _=>oI "range_iterator" #[.int 3 0,.int 2 0,.int 2 0]] 0 2 ?_
 intro Tb3 h3 N3 t3 Rp
 refine⟨rfl,code_tree ?_⟩
 with_reducible refine seg_valD (by with_unfolding_all exact hh) Rp [] 41 (dA 0x1c31c7046086108108208208048) [] (Fin.again (.compLoop (mtE1 x) 0 (.ref (N1+1)) (.ref (N1+2)) (mtEnv x (mtE1 x) (N+0) (N1+3)))) [] [.u (dU [(0,.int 3 (t3+0))] [] 1),.u fun _=>oL #[.int 1 (t2+0),.int 3 (t3+0)] 2,.u fun _=>oI "range_iterator" #[.int 5 0,.int 1 0,.int 2 0]] 0 2 ?_
 intro Tb4 h4 N4 t4 Rp
 refine⟨rfl,code_tree ?_⟩
 with_reducible refine seg_valD (by with_unfolding_all exact hh) Rp [] 41 (dA 0x1c31c7046086108108208208048) [] (Fin.again (.compLoop (mtE1 x) 0 (.ref (N1+1)) (.ref (N1+2)) (mtEnv x (mtE1 x) (N+0) (N1+3)))) [] [.u (dU [(0,.int 5 (t4+0))] [] 1),.u fun _=>oL #[.int 1 (t2+0),.int 3 (t3+0),.int 5 (t4+0)] 3,.u fun _=>oI "range_iterator" #[.int 7 0,.int 0 0,.int 2 0]] 0 2 ?_
 intro Tb5 h5 N5 t5 Rp
 refine⟨rfl,code_tree ?_⟩
 with_reducible refine seg_valD (by with_unfolding_all exact hh) Rp [] 25 (dA 0x6208208048) (dM 4) (Fin.done Flow.next) [] [] 2 0 ?_
 intro Tb6 h6 N6 t6 Rp
 show wpAny ..
 with_reducible refine seg_callD (by with_unfolding_all exact hh) Rp [] 70 (dA 0x186186181186186046181041041281042186) (dM 31) (.compStart (mtE2 x) 0 (.ref (N6+1)) (.ref (N6+2)) (mtEnv x (mtE2 x) (N+0) (N6+3))) [(N6+3,oD #[] 0),(N6+2,oL #[] 0),(N6+1,oI "range_iterator" #[.int (-1) 0,.int 0 0,.int (-2) 0]),(N6+0,oI "range" #[.int (-1) (t6+1),.int (-1) (t6+3),.int (-2) (t6+5)])] [.u fun _=>oD #[] 2] 4 6 ?_
 intro Tb7 h7 N7 t7 Rp kk7
 refine comp_startR (by rfl') Rp 2 rfl ?_
 refine code_tree ?_
 with_reducible refine seg_valD (by with_unfolding_all exact hh) Rp [] 25 (dA 0x6208208048) (dM 4) (Fin.done Flow.next) [] [] 2 0 ?_
 intro Tb8 h8 N8 t8 Rp
 show wpAny ..
 with_reducible refine seg_callD (by with_unfolding_all exact hh) Rp [] 36 (dA 0x1860461872c72c12c72c6) (dM 7) (loopOf (stmtAt x.B 269 0) (.ref (N8+1)) (envOf (fdOf x.B 269) 269 (N+0))) [(N8+1,oI "list_iterator" #[.ref (N8+0),.int 0 0]),(N8+0,oL #[.int 1 (t2+0),.int 3 (t3+0),.int 5 (t4+0)] 0)] [.d,.d,.d,.d,.d,.d,.d,.d] 2 0 ?_
 intro Tb9 h9 N9 t9 Rp kk9
 refine mt_run x (A.under _) hh (by show A.depth+1<550;exact zqaX hA) _ _ _ _ l s r 0 1 3 5 _ _ _ up _ n _ _ hs hr ws hws (by decide) (by decide) (by decide) (by decide) rfl gl hgb d os rest _ _ _ (Rp.mov 2 1) fun h' N' t' gl' u hgb Rp=>?_
 show wpAny ..
 with_reducible refine seg_valD (by with_unfolding_all exact hh) Rp [] 11 (dA 0x0) [] (Flow.ret (.int (↑(mateT r 0)) u)) [] [.d] 0 0 ?_
 intro Tb10 h10 N10 t10 Rp
 exact K _ _ _ _ _ hgb Rp
theorem mate1(x:W2)(A:Around)(hh:A.handled=none)(hA:A.depth<490)(R:Result→Shared→Prop)(l:Addr)(up n s r:Nat)(hs:s<4)(hr:r<5)(ws:List (List Nat×Nat))(hws:ws.map (·.1)=pcN s 0 (rowL r))(rest:Cells)(gl:Array GenState)(hgb:AllBare gl)(d os)(N t:Nat)(h:Heap)
 (Rp:Rep x.B N h ((l,Lst (strA ws) n)::rest) 0)
 (K:∀h' N' t' gl' u,AllBare gl'→Rep x.B N' h' ((l,Lst (strA ws) n)::rest) 0→R (.ok (.ret (.int (mateT r 1:Nat) u))) ⟨h',gl',d,t',os⟩):
 codeAny (MB x.B) A (.call (.ref 269) ⟨[.ref l,.int 1 up],[]⟩) R ⟨h,gl,d,t,os⟩:=by
 refine enterD hh Rp (by exact zqav hA) 22 (dA 0x86086041) (bodyOf (fdOf x.B 269)) (envOf (fdOf x.B 269) 269 (N+0)) [(N+0,oF #[En x.B n_pieces (t+0) (.ref l),En x.B n_place (t+1) (.int 1 up)] 2)] 1 2 (by rfl') ?_
 intro Tb1 h1 N1 t1 Rp
 with_reducible refine seg_callD (by with_unfolding_all exact hh) Rp [] 56 (dA 0x6186186046186181186041046041) (dM 31) (.compStart (mtE1 x) 0 (.ref (N1+1)) (.ref (N1+2)) (mtEnv x (mtE1 x) (N+0) (N1+3))) [(N1+3,oD #[] 0),(N1+2,oL #[] 0),(N1+1,oI "range_iterator" #[.int 2 0,.int 2 0,.int 2 0]),(N1+0,oI "range" #[.int 2 (t1+1),.int 6 (t1+2),.int 2 (t1+3)])] [] 4 4 ?_
 intro Tb2 h2 N2 t2 Rp kk2
 refine comp_startR (by rfl') Rp 2 rfl ?_
 refine code_tree ?_
 with_reducible refine seg_valD (by with_unfolding_all exact hh) Rp [] 41 (dA 0x1c31c7046086108108208208048) [] (Fin.again (.compLoop (mtE1 x) 0 (.ref (N1+1)) (.ref (N1+2)) (mtEnv x (mtE1 x) (N+0) (N1+3)))) [] [.u fun _=>oD #[En x.B n_far (t2+1) (.int 2 (t2+0))] 1,.u fun _=>oL #[.int 2 (t2+0)] 1,.u fun _=>oI "range_iterator" #[.int 4 0,.int 1 0,.int 2 0]] 0 2 ?_
 intro Tb3 h3 N3 t3 Rp
 refine⟨rfl,code_tree ?_⟩
 with_reducible refine seg_valD (by with_unfolding_all exact hh) Rp [] 41 (dA 0x1c31c7046086108108208208048) [] (Fin.again (.compLoop (mtE1 x) 0 (.ref (N1+1)) (.ref (N1+2)) (mtEnv x (mtE1 x) (N+0) (N1+3)))) [] [.u (dU [(0,.int 4 (t3+0))] [] 1),.u fun _=>oL #[.int 2 (t2+0),.int 4 (t3+0)] 2,.u fun _=>oI "range_iterator" #[.int 6 0,.int 0 0,.int 2 0]] 0 2 ?_
 intro Tb4 h4 N4 t4 Rp
 refine⟨rfl,code_tree ?_⟩
 with_reducible refine seg_valD (by with_unfolding_all exact hh) Rp [] 25 (dA 0x6208208048) (dM 4) (Fin.done Flow.next) [] [] 2 0 ?_
 intro Tb5 h5 N5 t5 Rp
 show wpAny ..
 with_reducible refine seg_callD (by with_unfolding_all exact hh) Rp [] 70 (dA 0x186186181186186046181041041281042186) (dM 31) (.compStart (mtE2 x) 0 (.ref (N5+1)) (.ref (N5+2)) (mtEnv x (mtE2 x) (N+0) (N5+3))) [(N5+3,oD #[] 0),(N5+2,oL #[] 0),(N5+1,oI "range_iterator" #[.int 0 0,.int 1 0,.int (-2) 0]),(N5+0,oI "range" #[.int 0 (t5+1),.int (-1) (t5+3),.int (-2) (t5+5)])] [.u fun _=>oD #[] 2] 4 6 ?_
 intro Tb6 h6 N6 t6 Rp kk6
 refine comp_startR (by rfl') Rp 2 rfl ?_
 refine code_tree ?_
 with_reducible refine seg_valD (by with_unfolding_all exact hh) Rp [] 41 (dA 0x1c31c7046086108108208208048) [] (Fin.again (.compLoop (mtE2 x) 0 (.ref (N5+1)) (.ref (N5+2)) (mtEnv x (mtE2 x) (N+0) (N5+3)))) [] [.u fun _=>oD #[En x.B n_far (t6+1) (.int 0 (t6+0))] 1,.u fun _=>oL #[.int 0 (t6+0)] 1,.u fun _=>oI "range_iterator" #[.int (-2) 0,.int 0 0,.int (-2) 0]] 0 2 ?_
 intro Tb7 h7 N7 t7 Rp
 refine⟨rfl,code_tree ?_⟩
 with_reducible refine seg_valD (by with_unfolding_all exact hh) Rp [] 25 (dA 0x6208208048) (dM 4) (Fin.done Flow.next) [] [] 2 0 ?_
 intro Tb8 h8 N8 t8 Rp
 show wpAny ..
 with_reducible refine seg_callD (by with_unfolding_all exact hh) Rp [] 40 (dA 0x1860461872c72c12c72c2186) (dM 7) (loopOf (stmtAt x.B 269 0) (.ref (N8+1)) (envOf (fdOf x.B 269) 269 (N+0))) [(N8+1,oI "list_iterator" #[.ref (N8+0),.int 0 0]),(N8+0,oL #[.int 2 (t2+0),.int 4 (t3+0),.int 0 (t6+0)] 0)] [.d,.d,.d,.d,.d,.d,.d,.d] 2 0 ?_
 intro Tb9 h9 N9 t9 Rp kk9
 refine mt_run x (A.under _) hh (by show A.depth+1<550;exact zqaX hA) _ _ _ _ l s r 1 2 4 0 _ _ _ up _ n _ _ hs hr ws hws (by decide) (by decide) (by decide) (by decide) rfl gl hgb d os rest _ _ _ (Rp.mov 2 1) fun h' N' t' gl' u hgb Rp=>?_
 show wpAny ..
 with_reducible refine seg_valD (by with_unfolding_all exact hh) Rp [] 11 (dA 0x0) [] (Flow.ret (.int (↑(mateT r 1)) u)) [] [.d] 0 0 ?_
 intro Tb10 h10 N10 t10 Rp
 exact K _ _ _ _ _ hgb Rp
theorem mate2(x:W2)(A:Around)(hh:A.handled=none)(hA:A.depth<490)(R:Result→Shared→Prop)(l:Addr)(up n s r:Nat)(hs:s<4)(hr:r<5)(ws:List (List Nat×Nat))(hws:ws.map (·.1)=pcN s 0 (rowL r))(rest:Cells)(gl:Array GenState)(hgb:AllBare gl)(d os)(N t:Nat)(h:Heap)
 (Rp:Rep x.B N h ((l,Lst (strA ws) n)::rest) 0)
 (K:∀h' N' t' gl' u,AllBare gl'→Rep x.B N' h' ((l,Lst (strA ws) n)::rest) 0→R (.ok (.ret (.int (mateT r 2:Nat) u))) ⟨h',gl',d,t',os⟩):
 codeAny (MB x.B) A (.call (.ref 269) ⟨[.ref l,.int 2 up],[]⟩) R ⟨h,gl,d,t,os⟩:=by
 refine enterD hh Rp (by exact zqav hA) 22 (dA 0x86086041) (bodyOf (fdOf x.B 269)) (envOf (fdOf x.B 269) 269 (N+0)) [(N+0,oF #[En x.B n_pieces (t+0) (.ref l),En x.B n_place (t+1) (.int 2 up)] 2)] 1 2 (by rfl') ?_
 intro Tb1 h1 N1 t1 Rp
 with_reducible refine seg_callD (by with_unfolding_all exact hh) Rp [] 56 (dA 0x6186186046186181186041046041) (dM 31) (.compStart (mtE1 x) 0 (.ref (N1+1)) (.ref (N1+2)) (mtEnv x (mtE1 x) (N+0) (N1+3))) [(N1+3,oD #[] 0),(N1+2,oL #[] 0),(N1+1,oI "range_iterator" #[.int 3 0,.int 2 0,.int 2 0]),(N1+0,oI "range" #[.int 3 (t1+1),.int 6 (t1+2),.int 2 (t1+3)])] [] 4 4 ?_
 intro Tb2 h2 N2 t2 Rp kk2
 refine comp_startR (by rfl') Rp 2 rfl ?_
 refine code_tree ?_
 with_reducible refine seg_valD (by with_unfolding_all exact hh) Rp [] 41 (dA 0x1c31c7046086108108208208048) [] (Fin.again (.compLoop (mtE1 x) 0 (.ref (N1+1)) (.ref (N1+2)) (mtEnv x (mtE1 x) (N+0) (N1+3)))) [] [.u fun _=>oD #[En x.B n_far (t2+1) (.int 3 (t2+0))] 1,.u fun _=>oL #[.int 3 (t2+0)] 1,.u fun _=>oI "range_iterator" #[.int 5 0,.int 1 0,.int 2 0]] 0 2 ?_
 intro Tb3 h3 N3 t3 Rp
 refine⟨rfl,code_tree ?_⟩
 with_reducible refine seg_valD (by with_unfolding_all exact hh) Rp [] 41 (dA 0x1c31c7046086108108208208048) [] (Fin.again (.compLoop (mtE1 x) 0 (.ref (N1+1)) (.ref (N1+2)) (mtEnv x (mtE1 x) (N+0) (N1+3)))) [] [.u (dU [(0,.int 5 (t3+0))] [] 1),.u fun _=>oL #[.int 3 (t2+0),.int 5 (t3+0)] 2,.u fun _=>oI "range_iterator" #[.int 7 0,.int 0 0,.int 2 0]] 0 2 ?_
 intro Tb4 h4 N4 t4 Rp
 refine⟨rfl,code_tree ?_⟩
 with_reducible refine seg_valD (by with_unfolding_all exact hh) Rp [] 25 (dA 0x6208208048) (dM 4) (Fin.done Flow.next) [] [] 2 0 ?_
 intro Tb5 h5 N5 t5 Rp
 show wpAny ..
 with_reducible refine seg_callD (by with_unfolding_all exact hh) Rp [] 70 (dA 0x186186181186186046181041041281042186) (dM 31) (.compStart (mtE2 x) 0 (.ref (N5+1)) (.ref (N5+2)) (mtEnv x (mtE2 x) (N+0) (N5+3))) [(N5+3,oD #[] 0),(N5+2,oL #[] 0),(N5+1,oI "range_iterator" #[.int 1 0,.int 1 0,.int (-2) 0]),(N5+0,oI "range" #[.int 1 (t5+1),.int (-1) (t5+3),.int (-2) (t5+5)])] [.u fun _=>oD #[] 2] 4 6 ?_
 intro Tb6 h6 N6 t6 Rp kk6
 refine comp_startR (by rfl') Rp 2 rfl ?_
 refine code_tree ?_
 with_reducible refine seg_valD (by with_unfolding_all exact hh) Rp [] 41 (dA 0x1c31c7046086108108208208048) [] (Fin.again (.compLoop (mtE2 x) 0 (.ref (N5+1)) (.ref (N5+2)) (mtEnv x (mtE2 x) (N+0) (N5+3)))) [] [.u fun _=>oD #[En x.B n_far (t6+1) (.int 1 (t6+0))] 1,.u fun _=>oL #[.int 1 (t6+0)] 1,.u fun _=>oI "range_iterator" #[.int (-1) 0,.int 0 0,.int (-2) 0]] 0 2 ?_
 intro Tb7 h7 N7 t7 Rp
 refine⟨rfl,code_tree ?_⟩
 with_reducible refine seg_valD (by with_unfolding_all exact hh) Rp [] 25 (dA 0x6208208048) (dM 4) (Fin.done Flow.next) [] [] 2 0 ?_
 intro Tb8 h8 N8 t8 Rp
 show wpAny ..
 with_reducible refine seg_callD (by with_unfolding_all exact hh) Rp [] 40 (dA 0x1860461872c72c12c72c2186) (dM 7) (loopOf (stmtAt x.B 269 0) (.ref (N8+1)) (envOf (fdOf x.B 269) 269 (N+0))) [(N8+1,oI "list_iterator" #[.ref (N8+0),.int 0 0]),(N8+0,oL #[.int 3 (t2+0),.int 5 (t3+0),.int 1 (t6+0)] 0)] [.d,.d,.d,.d,.d,.d,.d,.d] 2 0 ?_
 intro Tb9 h9 N9 t9 Rp kk9
 refine mt_run x (A.under _) hh (by show A.depth+1<550;exact zqaX hA) _ _ _ _ l s r 2 3 5 1 _ _ _ up _ n _ _ hs hr ws hws (by decide) (by decide) (by decide) (by decide) rfl gl hgb d os rest _ _ _ (Rp.mov 2 1) fun h' N' t' gl' u hgb Rp=>?_
 show wpAny ..
 with_reducible refine seg_valD (by with_unfolding_all exact hh) Rp [] 11 (dA 0x0) [] (Flow.ret (.int (↑(mateT r 2)) u)) [] [.d] 0 0 ?_
 intro Tb10 h10 N10 t10 Rp
 exact K _ _ _ _ _ hgb Rp
theorem mate3(x:W2)(A:Around)(hh:A.handled=none)(hA:A.depth<490)(R:Result→Shared→Prop)(l:Addr)(up n s r:Nat)(hs:s<4)(hr:r<5)(ws:List (List Nat×Nat))(hws:ws.map (·.1)=pcN s 0 (rowL r))(rest:Cells)(gl:Array GenState)(hgb:AllBare gl)(d os)(N t:Nat)(h:Heap)
 (Rp:Rep x.B N h ((l,Lst (strA ws) n)::rest) 0)
 (K:∀h' N' t' gl' u,AllBare gl'→Rep x.B N' h' ((l,Lst (strA ws) n)::rest) 0→R (.ok (.ret (.int (mateT r 3:Nat) u))) ⟨h',gl',d,t',os⟩):
 codeAny (MB x.B) A (.call (.ref 269) ⟨[.ref l,.int 3 up],[]⟩) R ⟨h,gl,d,t,os⟩:=by
 refine enterD hh Rp (by exact zqav hA) 22 (dA 0x86086041) (bodyOf (fdOf x.B 269)) (envOf (fdOf x.B 269) 269 (N+0)) [(N+0,oF #[En x.B n_pieces (t+0) (.ref l),En x.B n_place (t+1) (.int 3 up)] 2)] 1 2 (by rfl') ?_
 intro Tb1 h1 N1 t1 Rp
 with_reducible refine seg_callD (by with_unfolding_all exact hh) Rp [] 56 (dA 0x6186186046186181186041046041) (dM 31) (.compStart (mtE1 x) 0 (.ref (N1+1)) (.ref (N1+2)) (mtEnv x (mtE1 x) (N+0) (N1+3))) [(N1+3,oD #[] 0),(N1+2,oL #[] 0),(N1+1,oI "range_iterator" #[.int 4 0,.int 1 0,.int 2 0]),(N1+0,oI "range" #[.int 4 (t1+1),.int 6 (t1+2),.int 2 (t1+3)])] [] 4 4 ?_
 intro Tb2 h2 N2 t2 Rp kk2
 refine comp_startR (by rfl') Rp 2 rfl ?_
 refine code_tree ?_
 with_reducible refine seg_valD (by with_unfolding_all exact hh) Rp [] 41 (dA 0x1c31c7046086108108208208048) [] (Fin.again (.compLoop (mtE1 x) 0 (.ref (N1+1)) (.ref (N1+2)) (mtEnv x (mtE1 x) (N+0) (N1+3)))) [] [.u fun _=>oD #[En x.B n_far (t2+1) (.int 4 (t2+0))] 1,.u fun _=>oL #[.int 4 (t2+0)] 1,.u fun _=>oI "range_iterator" #[.int 6 0,.int 0 0,.int 2 0]] 0 2 ?_
 intro Tb3 h3 N3 t3 Rp
 refine⟨rfl,code_tree ?_⟩
 with_reducible refine seg_valD (by with_unfolding_all exact hh) Rp [] 25 (dA 0x6208208048) (dM 4) (Fin.done Flow.next) [] [] 2 0 ?_
 intro Tb4 h4 N4 t4 Rp
 show wpAny ..
 with_reducible refine seg_callD (by with_unfolding_all exact hh) Rp [] 70 (dA 0x186186181186186046181041041281042186) (dM 31) (.compStart (mtE2 x) 0 (.ref (N4+1)) (.ref (N4+2)) (mtEnv x (mtE2 x) (N+0) (N4+3))) [(N4+3,oD #[] 0),(N4+2,oL #[] 0),(N4+1,oI "range_iterator" #[.int 2 0,.int 2 0,.int (-2) 0]),(N4+0,oI "range" #[.int 2 (t4+1),.int (-1) (t4+3),.int (-2) (t4+5)])] [.u fun _=>oD #[] 2] 4 6 ?_
 intro Tb5 h5 N5 t5 Rp kk5
 refine comp_startR (by rfl') Rp 2 rfl ?_
 refine code_tree ?_
 with_reducible refine seg_valD (by with_unfolding_all exact hh) Rp [] 41 (dA 0x1c31c7046086108108208208048) [] (Fin.again (.compLoop (mtE2 x) 0 (.ref (N4+1)) (.ref (N4+2)) (mtEnv x (mtE2 x) (N+0) (N4+3)))) [] [.u fun _=>oD #[En x.B n_far (t5+1) (.int 2 (t5+0))] 1,.u fun _=>oL #[.int 2 (t5+0)] 1,.u fun _=>oI "range_iterator" #[.int 0 0,.int 1 0,.int (-2) 0]] 0 2 ?_
 intro Tb6 h6 N6 t6 Rp
 refine⟨rfl,code_tree ?_⟩
 with_reducible refine seg_valD (by with_unfolding_all exact hh) Rp [] 41 (dA 0x1c31c7046086108108208208048) [] (Fin.again (.compLoop (mtE2 x) 0 (.ref (N4+1)) (.ref (N4+2)) (mtEnv x (mtE2 x) (N+0) (N4+3)))) [] [.u (dU [(0,.int 0 (t6+0))] [] 1),.u fun _=>oL #[.int 2 (t5+0),.int 0 (t6+0)] 2,.u fun _=>oI "range_iterator" #[.int (-2) 0,.int 0 0,.int (-2) 0]] 0 2 ?_
 intro Tb7 h7 N7 t7 Rp
 refine⟨rfl,code_tree ?_⟩
 with_reducible refine seg_valD (by with_unfolding_all exact hh) Rp [] 25 (dA 0x6208208048) (dM 4) (Fin.done Flow.next) [] [] 2 0 ?_
 intro Tb8 h8 N8 t8 Rp
 show wpAny ..
 with_reducible refine seg_callD (by with_unfolding_all exact hh) Rp [] 40 (dA 0x1860461872c72c12c72c2186) (dM 7) (loopOf (stmtAt x.B 269 0) (.ref (N8+1)) (envOf (fdOf x.B 269) 269 (N+0))) [(N8+1,oI "list_iterator" #[.ref (N8+0),.int 0 0]),(N8+0,oL #[.int 4 (t2+0),.int 2 (t5+0),.int 0 (t6+0)] 0)] [.d,.d,.d,.d,.d,.d,.d,.d] 2 0 ?_
 intro Tb9 h9 N9 t9 Rp kk9
 refine mt_run x (A.under _) hh (by show A.depth+1<550;exact zqaX hA) _ _ _ _ l s r 3 4 2 0 _ _ _ up _ n _ _ hs hr ws hws (by decide) (by decide) (by decide) (by decide) rfl gl hgb d os rest _ _ _ (Rp.mov 2 1) fun h' N' t' gl' u hgb Rp=>?_
 show wpAny ..
 with_reducible refine seg_valD (by with_unfolding_all exact hh) Rp [] 11 (dA 0x0) [] (Flow.ret (.int (↑(mateT r 3)) u)) [] [.d] 0 0 ?_
 intro Tb10 h10 N10 t10 Rp
 exact K _ _ _ _ _ hgb Rp
theorem mate4(x:W2)(A:Around)(hh:A.handled=none)(hA:A.depth<490)(R:Result→Shared→Prop)(l:Addr)(up n s r:Nat)(hs:s<4)(hr:r<5)(ws:List (List Nat×Nat))(hws:ws.map (·.1)=pcN s 0 (rowL r))(rest:Cells)(gl:Array GenState)(hgb:AllBare gl)(d os)(N t:Nat)(h:Heap)
 (Rp:Rep x.B N h ((l,Lst (strA ws) n)::rest) 0)
 (K:∀h' N' t' gl' u,AllBare gl'→Rep x.B N' h' ((l,Lst (strA ws) n)::rest) 0→R (.ok (.ret (.int (mateT r 4:Nat) u))) ⟨h',gl',d,t',os⟩):
 codeAny (MB x.B) A (.call (.ref 269) ⟨[.ref l,.int 4 up],[]⟩) R ⟨h,gl,d,t,os⟩:=by
 refine enterD hh Rp (by exact zqav hA) 22 (dA 0x86086041) (bodyOf (fdOf x.B 269)) (envOf (fdOf x.B 269) 269 (N+0)) [(N+0,oF #[En x.B n_pieces (t+0) (.ref l),En x.B n_place (t+1) (.int 4 up)] 2)] 1 2 (by rfl') ?_
 intro Tb1 h1 N1 t1 Rp
 with_reducible refine seg_callD (by with_unfolding_all exact hh) Rp [] 56 (dA 0x6186186046186181186041046041) (dM 31) (.compStart (mtE1 x) 0 (.ref (N1+1)) (.ref (N1+2)) (mtEnv x (mtE1 x) (N+0) (N1+3))) [(N1+3,oD #[] 0),(N1+2,oL #[] 0),(N1+1,oI "range_iterator" #[.int 5 0,.int 1 0,.int 2 0]),(N1+0,oI "range" #[.int 5 (t1+1),.int 6 (t1+2),.int 2 (t1+3)])] [] 4 4 ?_
 intro Tb2 h2 N2 t2 Rp kk2
 refine comp_startR (by rfl') Rp 2 rfl ?_
 refine code_tree ?_
 with_reducible refine seg_valD (by with_unfolding_all exact hh) Rp [] 41 (dA 0x1c31c7046086108108208208048) [] (Fin.again (.compLoop (mtE1 x) 0 (.ref (N1+1)) (.ref (N1+2)) (mtEnv x (mtE1 x) (N+0) (N1+3)))) [] [.u fun _=>oD #[En x.B n_far (t2+1) (.int 5 (t2+0))] 1,.u fun _=>oL #[.int 5 (t2+0)] 1,.u fun _=>oI "range_iterator" #[.int 7 0,.int 0 0,.int 2 0]] 0 2 ?_
 intro Tb3 h3 N3 t3 Rp
 refine⟨rfl,code_tree ?_⟩
 with_reducible refine seg_valD (by with_unfolding_all exact hh) Rp [] 25 (dA 0x6208208048) (dM 4) (Fin.done Flow.next) [] [] 2 0 ?_
 intro Tb4 h4 N4 t4 Rp
 show wpAny ..
 with_reducible refine seg_callD (by with_unfolding_all exact hh) Rp [] 70 (dA 0x186186181186186046181041041281042186) (dM 31) (.compStart (mtE2 x) 0 (.ref (N4+1)) (.ref (N4+2)) (mtEnv x (mtE2 x) (N+0) (N4+3))) [(N4+3,oD #[] 0),(N4+2,oL #[] 0),(N4+1,oI "range_iterator" #[.int 3 0,.int 2 0,.int (-2) 0]),(N4+0,oI "range" #[.int 3 (t4+1),.int (-1) (t4+3),.int (-2) (t4+5)])] [.u fun _=>oD #[] 2] 4 6 ?_
 intro Tb5 h5 N5 t5 Rp kk5
 refine comp_startR (by rfl') Rp 2 rfl ?_
 refine code_tree ?_
 with_reducible refine seg_valD (by with_unfolding_all exact hh) Rp [] 41 (dA 0x1c31c7046086108108208208048) [] (Fin.again (.compLoop (mtE2 x) 0 (.ref (N4+1)) (.ref (N4+2)) (mtEnv x (mtE2 x) (N+0) (N4+3)))) [] [.u fun _=>oD #[En x.B n_far (t5+1) (.int 3 (t5+0))] 1,.u fun _=>oL #[.int 3 (t5+0)] 1,.u fun _=>oI "range_iterator" #[.int 1 0,.int 1 0,.int (-2) 0]] 0 2 ?_
 intro Tb6 h6 N6 t6 Rp
 refine⟨rfl,code_tree ?_⟩
 with_reducible refine seg_valD (by with_unfolding_all exact hh) Rp [] 41 (dA 0x1c31c7046086108108208208048) [] (Fin.again (.compLoop (mtE2 x) 0 (.ref (N4+1)) (.ref (N4+2)) (mtEnv x (mtE2 x) (N+0) (N4+3)))) [] [.u (dU [(0,.int 1 (t6+0))] [] 1),.u fun _=>oL #[.int 3 (t5+0),.int 1 (t6+0)] 2,.u fun _=>oI "range_iterator" #[.int (-1) 0,.int 0 0,.int (-2) 0]] 0 2 ?_
 intro Tb7 h7 N7 t7 Rp
 refine⟨rfl,code_tree ?_⟩
 with_reducible refine seg_valD (by with_unfolding_all exact hh) Rp [] 25 (dA 0x6208208048) (dM 4) (Fin.done Flow.next) [] [] 2 0 ?_
 intro Tb8 h8 N8 t8 Rp
 show wpAny ..
 with_reducible refine seg_callD (by with_unfolding_all exact hh) Rp [] 40 (dA 0x1860461872c72c12c72c2186) (dM 7) (loopOf (stmtAt x.B 269 0) (.ref (N8+1)) (envOf (fdOf x.B 269) 269 (N+0))) [(N8+1,oI "list_iterator" #[.ref (N8+0),.int 0 0]),(N8+0,oL #[.int 5 (t2+0),.int 3 (t5+0),.int 1 (t6+0)] 0)] [.d,.d,.d,.d,.d,.d,.d,.d] 2 0 ?_
 intro Tb9 h9 N9 t9 Rp kk9
 refine mt_run x (A.under _) hh (by show A.depth+1<550;exact zqaX hA) _ _ _ _ l s r 4 5 3 1 _ _ _ up _ n _ _ hs hr ws hws (by decide) (by decide) (by decide) (by decide) rfl gl hgb d os rest _ _ _ (Rp.mov 2 1) fun h' N' t' gl' u hgb Rp=>?_
 show wpAny ..
 with_reducible refine seg_valD (by with_unfolding_all exact hh) Rp [] 11 (dA 0x0) [] (Flow.ret (.int (↑(mateT r 4)) u)) [] [.d] 0 0 ?_
 intro Tb10 h10 N10 t10 Rp
 exact K _ _ _ _ _ hgb Rp
theorem mate5(x:W2)(A:Around)(hh:A.handled=none)(hA:A.depth<490)(R:Result→Shared→Prop)(l:Addr)(up n s r:Nat)(hs:s<4)(hr:r<5)(ws:List (List Nat×Nat))(hws:ws.map (·.1)=pcN s 0 (rowL r))(rest:Cells)(gl:Array GenState)(hgb:AllBare gl)(d os)(N t:Nat)(h:Heap)
 (Rp:Rep x.B N h ((l,Lst (strA ws) n)::rest) 0)
 (K:∀h' N' t' gl' u,AllBare gl'→Rep x.B N' h' ((l,Lst (strA ws) n)::rest) 0→R (.ok (.ret (.int (mateT r 5:Nat) u))) ⟨h',gl',d,t',os⟩):
 codeAny (MB x.B) A (.call (.ref 269) ⟨[.ref l,.int 5 up],[]⟩) R ⟨h,gl,d,t,os⟩:=by
 refine enterD hh Rp (by exact zqav hA) 22 (dA 0x86086041) (bodyOf (fdOf x.B 269)) (envOf (fdOf x.B 269) 269 (N+0)) [(N+0,oF #[En x.B n_pieces (t+0) (.ref l),En x.B n_place (t+1) (.int 5 up)] 2)] 1 2 (by rfl') ?_
 intro Tb1 h1 N1 t1 Rp
 with_reducible refine seg_callD (by with_unfolding_all exact hh) Rp [] 56 (dA 0x6186186046186181186041046041) (dM 31) (.compStart (mtE1 x) 0 (.ref (N1+1)) (.ref (N1+2)) (mtEnv x (mtE1 x) (N+0) (N1+3))) [(N1+3,oD #[] 0),(N1+2,oL #[] 0),(N1+1,oI "range_iterator" #[.int 6 0,.int 0 0,.int 2 0]),(N1+0,oI "range" #[.int 6 (t1+1),.int 6 (t1+2),.int 2 (t1+3)])] [] 4 4 ?_
 intro Tb2 h2 N2 t2 Rp kk2
 refine comp_startR (by rfl') Rp 2 rfl ?_
 refine code_tree ?_
 with_reducible refine seg_valD (by with_unfolding_all exact hh) Rp [] 25 (dA 0x6208208048) (dM 4) (Fin.done Flow.next) [] [] 2 0 ?_
 intro Tb3 h3 N3 t3 Rp
 show wpAny ..
 with_reducible refine seg_callD (by with_unfolding_all exact hh) Rp [] 66 (dA 0x186186181186186046181041041281046) (dM 31) (.compStart (mtE2 x) 0 (.ref (N3+1)) (.ref (N3+2)) (mtEnv x (mtE2 x) (N+0) (N3+3))) [(N3+3,oD #[] 0),(N3+2,oL #[] 0),(N3+1,oI "range_iterator" #[.int 4 0,.int 3 0,.int (-2) 0]),(N3+0,oI "range" #[.int 4 (t3+1),.int (-1) (t3+3),.int (-2) (t3+5)])] [] 4 6 ?_
 intro Tb4 h4 N4 t4 Rp kk4
 refine comp_startR (by rfl') Rp 2 rfl ?_
 refine code_tree ?_
 with_reducible refine seg_valD (by with_unfolding_all exact hh) Rp [] 41 (dA 0x1c31c7046086108108208208048) [] (Fin.again (.compLoop (mtE2 x) 0 (.ref (N3+1)) (.ref (N3+2)) (mtEnv x (mtE2 x) (N+0) (N3+3)))) [] [.u fun _=>oD #[En x.B n_far (t4+1) (.int 4 (t4+0))] 1,.u fun _=>oL #[.int 4 (t4+0)] 1,.u fun _=>oI "range_iterator" #[.int 2 0,.int 2 0,.int (-2) 0]] 0 2 ?_
 intro Tb5 h5 N5 t5 Rp
 refine⟨rfl,code_tree ?_⟩
 with_reducible refine seg_valD (by with_unfolding_all exact hh) Rp [] 41 (dA 0x1c31c7046086108108208208048) [] (Fin.again (.compLoop (mtE2 x) 0 (.ref (N3+1)) (.ref (N3+2)) (mtEnv x (mtE2 x) (N+0) (N3+3)))) [] [.u (dU [(0,.int 2 (t5+0))] [] 1),.u fun _=>oL #[.int 4 (t4+0),.int 2 (t5+0)] 2,.u fun _=>oI "range_iterator" #[.int 0 0,.int 1 0,.int (-2) 0]] 0 2 ?_
 intro Tb6 h6 N6 t6 Rp
 refine⟨rfl,code_tree ?_⟩
 with_reducible refine seg_valD (by with_unfolding_all exact hh) Rp [] 41 (dA 0x1c31c7046086108108208208048) [] (Fin.again (.compLoop (mtE2 x) 0 (.ref (N3+1)) (.ref (N3+2)) (mtEnv x (mtE2 x) (N+0) (N3+3)))) [] [.u (dU [(0,.int 0 (t6+0))] [] 1),.u fun _=>oL #[.int 4 (t4+0),.int 2 (t5+0),.int 0 (t6+0)] 3,.u fun _=>oI "range_iterator" #[.int (-2) 0,.int 0 0,.int (-2) 0]] 0 2 ?_
 intro Tb7 h7 N7 t7 Rp
 refine⟨rfl,code_tree ?_⟩
 with_reducible refine seg_valD (by with_unfolding_all exact hh) Rp [] 25 (dA 0x6208208048) (dM 4) (Fin.done Flow.next) [] [] 2 0 ?_
 intro Tb8 h8 N8 t8 Rp
 show wpAny ..
 with_reducible refine seg_callD (by with_unfolding_all exact hh) Rp [] 40 (dA 0x1860461872c72c12c72c2186) (dM 7) (loopOf (stmtAt x.B 269 0) (.ref (N8+1)) (envOf (fdOf x.B 269) 269 (N+0))) [(N8+1,oI "list_iterator" #[.ref (N8+0),.int 0 0]),(N8+0,oL #[.int 4 (t4+0),.int 2 (t5+0),.int 0 (t6+0)] 0)] [.d,.d,.d,.d,.d,.d,.d,.d] 2 0 ?_
 intro Tb9 h9 N9 t9 Rp kk9
 refine mt_run x (A.under _) hh (by show A.depth+1<550;exact zqaX hA) _ _ _ _ l s r 5 4 2 0 _ _ _ up _ n _ _ hs hr ws hws (by decide) (by decide) (by decide) (by decide) rfl gl hgb d os rest _ _ _ (Rp.mov 2 1) fun h' N' t' gl' u hgb Rp=>?_
 show wpAny ..
 with_reducible refine seg_valD (by with_unfolding_all exact hh) Rp [] 11 (dA 0x0) [] (Flow.ret (.int (↑(mateT r 5)) u)) [] [.d] 0 0 ?_
 intro Tb10 h10 N10 t10 Rp
 exact K _ _ _ _ _ hgb Rp
theorem mate(x:W2)(A:Around)(hh:A.handled=none)(hA:A.depth<490)(R:Result→Shared→Prop)(l:Addr)(up n s r p:Nat)(hs:s<4)(hr:r<5)(hp:p<6)(ws:List (List Nat×Nat))(hws:ws.map (·.1)=pcN s 0 (rowL r))(rest:Cells)(gl:Array GenState)(hgb:AllBare gl)(d os)(N t:Nat)(h:Heap)
 (Rp:Rep x.B N h ((l,Lst (strA ws) n)::rest) 0)
 (K:∀h' N' t' gl' u,AllBare gl'→Rep x.B N' h' ((l,Lst (strA ws) n)::rest) 0→R (.ok (.ret (.int (mateT r p:Nat) u))) ⟨h',gl',d,t',os⟩):
 codeAny (MB x.B) A (.call (.ref 269) ⟨[.ref l,.int (p:Int) up],[]⟩) R ⟨h,gl,d,t,os⟩:=by
 rcases(by exact zqaW hp:p=0∨p=1∨p=2∨p=3∨p=4∨p=5) with rfl|rfl|rfl|rfl|rfl|rfl
 ·exact mate0 x A hh hA R l up n s r hs hr ws hws rest gl hgb d os N t h Rp K
 ·exact mate1 x A hh hA R l up n s r hs hr ws hws rest gl hgb d os N t h Rp K
 ·exact mate2 x A hh hA R l up n s r hs hr ws hws rest gl hgb d os N t h Rp K
 ·exact mate3 x A hh hA R l up n s r hs hr ws hws rest gl hgb d os N t h Rp K
 ·exact mate4 x A hh hA R l up n s r hs hr ws hws rest gl hgb d os N t h Rp K
 ·exact mate5 x A hh hA R l up n s r hs hr ws hws rest gl hgb d os N t h Rp K
theorem strA_set(ws:List (List Nat×Nat))(i:Nat)(l:List Nat)(v:Nat):(strA ws).setIfInBounds i (.str (S l) v)=strA (ws.set i (l,v)):=by
 unfold strA
 apply Array.toList_inj.mp
 simp[List.map_set]
theorem l_new{B:Base}{A:Around}{R:Result→Shared→Prop}{h:Heap}{gl:Array GenState}{d:Drawn}{t:Nat}{os:OsState}{N:Nat}{tab:Cells}{a:Value}(Rp:Rep B N h tab 0)
 (K:∀h' N' b,Rep B N' h' ((b,Lst #[] 0)::tab) 0→R (.ok (.ret (.ref b))) ⟨h',gl,d,t,os⟩):codeAny (MB B) A (.call (.builtin "list.__new__") ⟨[.type "list",a],[]⟩) R ⟨h,gl,d,t,os⟩:=by
 refine codeAny_mono (PySem.code_list_new (E:=fun _ _=>False) (Q₁:=fun v s'=>R (.ok (.ret v)) s') a ?_) fun r s' q=>?_
 ·have hs:=Rp.size
  have q:=(Rp.push (o:=Lst #[] 0) rfl).flat
  show R (.ok (.ret (.ref h.objs.size))) ⟨h.push (Lst #[] 0),gl,d,t,os⟩
  rw[hs]
  exact K _ _ _ q
 ·cases r with
  |ok f=>cases f with
   |ret v=>exact q
   |_=>exact q.elim
  |error e=>exact q.elim
noncomputable def one(l:List Nat):List (List Nat):=l.map fun c=>[c]
theorem l_ofrow{B:Base}{A:Around}{R:Result→Shared→Prop}{h:Heap}{gl:Array GenState}{d:Drawn}{t:Nat}{os:OsState}{N u:Nat}{tab:Cells}{r:Nat}(hr:r<5)(hh:A.handled=none)(Rp:Rep B N h tab 0)
 (K:∀h' N' t' a n ws,ws.map (·.1)=one (rowL r)→Rep B N' h' ((a,Lst (strA ws) n)::tab) 0→R (.ok (.ret (.ref a))) ⟨h',gl,d,t',os⟩):codeAny (MB B) A (.call (.type "list") ⟨[.str (S (rowL r)) u],[]⟩) R ⟨h,gl,d,t,os⟩:=by
 rcases(by exact zqae hr:r=0∨r=1∨r=2∨r=3∨r=4) with rfl|rfl|rfl|rfl|rfl
 ·refine code_tree ?_
  with_reducible refine seg_valD (by with_unfolding_all exact hh) Rp [] 11 (dA 0x0) [] (Fin.again (.builtin "type.__call__" ⟨[.type "list",.str (S [40,41,40,41,40,41]) u],[]⟩)) [] [] 0 0 ?_
  intro Tb1 h1 N1 t1 Rp
  refine⟨Code.quiet_builtin _ (by decide+kernel),code_tree ?_⟩
  with_reducible refine seg_callD (by with_unfolding_all exact hh) Rp [] 11 (dA 0x0) [] (cB "list.__new__" [.type "list",.str (S [40,41,40,41,40,41]) u]) [] [] 0 0 ?_
  intro Tb2 h2 N2 t2 Rp kk2
  refine l_new Rp fun h9 N9 b Rp=>?_
  show wpAny ..
  with_reducible refine seg_valD (by with_unfolding_all exact hh) Rp [] 127 (dA 0x1821861860461c31c21861860461c31c21861860461c31c21861860461c31c21861860461c31c21861860461c31c2186186046181182186181186) (dM 8) (Fin.done (Flow.ret (.ref b))) [] [.u fun _=>oL #[.str (S [40]) (t2+0),.str (S [41]) (t2+1),.str (S [40]) (t2+2),.str (S [41]) (t2+3),.str (S [40]) (t2+4),.str (S [41]) (t2+5)] 6] 3 6 ?_
  intro Tb3 h3 N3 t3 Rp
  exact K _ _ _ b _ [([40],_),([41],_),([40],_),([41],_),([40],_),([41],_)] rfl Rp
 ·refine code_tree ?_
  with_reducible refine seg_valD (by with_unfolding_all exact hh) Rp [] 11 (dA 0x0) [] (Fin.again (.builtin "type.__call__" ⟨[.type "list",.str (S [40,40,41,41,40,41]) u],[]⟩)) [] [] 0 0 ?_
  intro Tb1 h1 N1 t1 Rp
  refine⟨Code.quiet_builtin _ (by decide+kernel),code_tree ?_⟩
  with_reducible refine seg_callD (by with_unfolding_all exact hh) Rp [] 11 (dA 0x0) [] (cB "list.__new__" [.type "list",.str (S [40,40,41,41,40,41]) u]) [] [] 0 0 ?_
  intro Tb2 h2 N2 t2 Rp kk2
  refine l_new Rp fun h9 N9 b Rp=>?_
  show wpAny ..
  with_reducible refine seg_valD (by with_unfolding_all exact hh) Rp [] 127 (dA 0x1821861860461c31c21861860461c31c21861860461c31c21861860461c31c21861860461c31c21861860461c31c2186186046181182186181186) (dM 8) (Fin.done (Flow.ret (.ref b))) [] [.u fun _=>oL #[.str (S [40]) (t2+0),.str (S [40]) (t2+1),.str (S [41]) (t2+2),.str (S [41]) (t2+3),.str (S [40]) (t2+4),.str (S [41]) (t2+5)] 6] 3 6 ?_
  intro Tb3 h3 N3 t3 Rp
  exact K _ _ _ b _ [([40],_),([40],_),([41],_),([41],_),([40],_),([41],_)] rfl Rp
 ·refine code_tree ?_
  with_reducible refine seg_valD (by with_unfolding_all exact hh) Rp [] 11 (dA 0x0) [] (Fin.again (.builtin "type.__call__" ⟨[.type "list",.str (S [40,41,40,40,41,41]) u],[]⟩)) [] [] 0 0 ?_
  intro Tb1 h1 N1 t1 Rp
  refine⟨Code.quiet_builtin _ (by decide+kernel),code_tree ?_⟩
  with_reducible refine seg_callD (by with_unfolding_all exact hh) Rp [] 11 (dA 0x0) [] (cB "list.__new__" [.type "list",.str (S [40,41,40,40,41,41]) u]) [] [] 0 0 ?_
  intro Tb2 h2 N2 t2 Rp kk2
  refine l_new Rp fun h9 N9 b Rp=>?_
  show wpAny ..
  with_reducible refine seg_valD (by with_unfolding_all exact hh) Rp [] 127 (dA 0x1821861860461c31c21861860461c31c21861860461c31c21861860461c31c21861860461c31c21861860461c31c2186186046181182186181186) (dM 8) (Fin.done (Flow.ret (.ref b))) [] [.u fun _=>oL #[.str (S [40]) (t2+0),.str (S [41]) (t2+1),.str (S [40]) (t2+2),.str (S [40]) (t2+3),.str (S [41]) (t2+4),.str (S [41]) (t2+5)] 6] 3 6 ?_
  intro Tb3 h3 N3 t3 Rp
  exact K _ _ _ b _ [([40],_),([41],_),([40],_),([40],_),([41],_),([41],_)] rfl Rp
 ·refine code_tree ?_
  with_reducible refine seg_valD (by with_unfolding_all exact hh) Rp [] 11 (dA 0x0) [] (Fin.again (.builtin "type.__call__" ⟨[.type "list",.str (S [40,40,41,40,41,41]) u],[]⟩)) [] [] 0 0 ?_
  intro Tb1 h1 N1 t1 Rp
  refine⟨Code.quiet_builtin _ (by decide+kernel),code_tree ?_⟩
  with_reducible refine seg_callD (by with_unfolding_all exact hh) Rp [] 11 (dA 0x0) [] (cB "list.__new__" [.type "list",.str (S [40,40,41,40,41,41]) u]) [] [] 0 0 ?_
  intro Tb2 h2 N2 t2 Rp kk2
  refine l_new Rp fun h9 N9 b Rp=>?_
  show wpAny ..
  with_reducible refine seg_valD (by with_unfolding_all exact hh) Rp [] 127 (dA 0x1821861860461c31c21861860461c31c21861860461c31c21861860461c31c21861860461c31c21861860461c31c2186186046181182186181186) (dM 8) (Fin.done (Flow.ret (.ref b))) [] [.u fun _=>oL #[.str (S [40]) (t2+0),.str (S [40]) (t2+1),.str (S [41]) (t2+2),.str (S [40]) (t2+3),.str (S [41]) (t2+4),.str (S [41]) (t2+5)] 6] 3 6 ?_
  intro Tb3 h3 N3 t3 Rp
  exact K _ _ _ b _ [([40],_),([40],_),([41],_),([40],_),([41],_),([41],_)] rfl Rp
 ·refine code_tree ?_
  with_reducible refine seg_valD (by with_unfolding_all exact hh) Rp [] 11 (dA 0x0) [] (Fin.again (.builtin "type.__call__" ⟨[.type "list",.str (S [40,40,40,41,41,41]) u],[]⟩)) [] [] 0 0 ?_
  intro Tb1 h1 N1 t1 Rp
  refine⟨Code.quiet_builtin _ (by decide+kernel),code_tree ?_⟩
  with_reducible refine seg_callD (by with_unfolding_all exact hh) Rp [] 11 (dA 0x0) [] (cB "list.__new__" [.type "list",.str (S [40,40,40,41,41,41]) u]) [] [] 0 0 ?_
  intro Tb2 h2 N2 t2 Rp kk2
  refine l_new Rp fun h9 N9 b Rp=>?_
  show wpAny ..
  with_reducible refine seg_valD (by with_unfolding_all exact hh) Rp [] 127 (dA 0x1821861860461c31c21861860461c31c21861860461c31c21861860461c31c21861860461c31c21861860461c31c2186186046181182186181186) (dM 8) (Fin.done (Flow.ret (.ref b))) [] [.u fun _=>oL #[.str (S [40]) (t2+0),.str (S [40]) (t2+1),.str (S [40]) (t2+2),.str (S [41]) (t2+3),.str (S [41]) (t2+4),.str (S [41]) (t2+5)] 6] 3 6 ?_
  intro Tb3 h3 N3 t3 Rp
  exact K _ _ _ b _ [([40],_),([40],_),([40],_),([41],_),([41],_),([41],_)] rfl Rp
noncomputable def hookT(r p:Nat):Nat:=match r with
 |0=>match p with
  |0=>0
  |1=>1
  |2=>0
  |3=>2
  |_=>0
 |1=>match p with
  |0=>0
  |1=>0
  |2=>0
  |3=>3
  |_=>0
 |2=>match p with
  |0=>0
  |1=>3
  |2=>0
  |3=>0
  |_=>0
 |3=>match p with
  |0=>2
  |1=>0
  |2=>4
  |3=>0
  |_=>1
 |_=>match p with
  |0=>0
  |1=>3
  |2=>0
  |3=>3
  |_=>0
noncomputable def hooks(r p:Nat):List (List Nat):=((((one (rowL r)).set p [40]).set (p+1) [41]).set (min (mateT r p) (mateT r (p+1))) [40]).set (max (mateT r p) (mateT r (p+1))) [41]
theorem hook_ok{r p:Nat}(hr:r<5)(hp:p<5)(hm:mateT r p≠p+1):hookT r p<5∧jOk (hooks r p)=true∧joinL (hooks r p)=rowL (hookT r p):=by
 rcases(by exact zqae hr:r=0∨r=1∨r=2∨r=3∨r=4) with rfl|rfl|rfl|rfl|rfl<;>
 rcases(by exact zqae hp:p=0∨p=1∨p=2∨p=3∨p=4) with rfl|rfl|rfl|rfl|rfl<;>first|exact absurd rfl hm|exact⟨by decide,by rfl',by rfl'⟩
theorem hooked(x:W2)(A:Around)(hh:A.handled=none)(hA:A.depth<480)(R:Result→Shared→Prop)(s r p:Nat)(hs:s<4)(hr:r<5)(hp:p<5)(u up us:Nat)(rest:Cells)(gl:Array GenState)(hgb:AllBare gl)(d os)(N t:Nat)(h:Heap)
 (Rp:Rep x.B N h rest 0)
 (K1:mateT r p=p+1→∀h' N' t' gl',AllBare gl'→Rep x.B N' h' rest 0→R (.ok (.ret .none)) ⟨h',gl',d,t',os⟩)
 (K2:mateT r p≠p+1→∀h' N' t' gl' v,AllBare gl'→Rep x.B N' h' rest 0→R (.ok (.ret (.str (S (rowL (hookT r p))) v))) ⟨h',gl',d,t',os⟩):
 codeAny (MB x.B) A (.call (.ref 276) ⟨[.str (S (rowL r)) u,.int (p:Int) up,.int (s:Int) us],[]⟩) R ⟨h,gl,d,t,os⟩:=by
 refine enterD hh Rp (by exact zqch hA) 26 (dA 0x86086086041) (bodyOf (fdOf x.B 276)) (envOf (fdOf x.B 276) 276 (N+0)) [(N+0,oF #[En x.B n_row (t+0) (.str (S (rowL r)) u),En x.B n_place (t+1) (.int (↑p) up),En x.B n_shift (t+2) (.int (↑s) us)] 3)] 1 3 (by rfl') ?_
 intro Tb1 h1 N1 t1 Rp
 with_reducible refine seg_callD (by with_unfolding_all exact hh) Rp [] 20 (dA 0x46181) [] (cR 264 [.str (S (rowL r)) u,.int (↑s) us]) [] [] 0 0 ?_
 intro Tb2 h2 N2 t2 Rp kk2
 refine pieces x (A.under _) hh (by show A.depth+1<490;exact zqbB hA) _ (rowL r) (rowL_par hr) (by rw[rowL_len hr];decide) (by intro z;have:=rowL_len hr;rw[z] at this;cases this) s _ _ _ _ _ _ _ _ _ Rp fun h3 N3 t3 pl ws n3 hws Rp=>?_
 with_reducible refine seg_callD (by with_unfolding_all exact hh) Rp [] 28 (dA 0x471c10c7) [] (cR 269 [.ref pl,.int (↑p) up]) [] [.k,.u (dU [] [En x.B n_pieces (t3+0) (.ref pl)] 4)] 0 1 ?_
 intro Tb4 h4 N4 t4 Rp kk4
 refine mate x (A.under _) hh (by show A.depth+1<490;exact zqbB hA) _ pl _ n3 s r p hs hr (by exact zqby hp) ws hws _ gl hgb _ _ _ _ _ Rp fun h4 N4 t4 gl u4 hgb Rp=>?_
 by_cases c:mateT r p=p+1
 ·refine seg_valD hh Rp [aB "int.__eq__" [.int (↑(mateT r p)) u4,.int (↑p+1) (t4+2)] true] 34 (dA 0x811c70c7) [] (Flow.ret .none) [] [.d,.d] 0 3 ?_ (aC (fun _ _ _ _ _ _ _ K=>i_eq (B:=x.B) (r:=true) (i:=((↑(mateT r p)))) (j:=((↑p+1))) (decide_eq_true (by omega)) K) aN)
  intro Tb5 h5 N5 t5 Rp
  exact K1 c _ _ _ _ hgb Rp
 ·refine seg_callD hh Rp [aB "int.__eq__" [.int (↑(mateT r p)) u4,.int (↑p+1) (t4+2)] false] 48 (dA 0x10471c10811c70c7) [] (cR 269 [.ref pl,.int (↑p+1) (t4+4)]) [] [.k,.u (dU [] [En x.B n_near (t4+0) (.int (↑(mateT r p)) u4)] 5)] 0 5 ?_ (aC (fun _ _ _ _ _ _ _ K=>i_eq (B:=x.B) (r:=false) (i:=((↑(mateT r p)))) (j:=((↑p+1))) (decide_eq_false (by omega)) K) aN)
  intro Tb5 h5 N5 t5 Rp kk5
  refine mate x (A.under _) hh (by show A.depth+1<490;exact zqbB hA) _ pl _ n3 s r (p+1) hs hr (by exact zqbz hp) ws hws _ gl hgb _ _ _ _ _ Rp fun h6 N6 t6 gl u6 hgb Rp=>?_
  show wpAny ..
  with_reducible refine seg_callD (by with_unfolding_all exact hh) Rp [] 26 (dA 0x70410c7) [] (.call (.type "list") ⟨[.str (S (rowL r)) u],[]⟩) [] [.k,.u (dU [] [En x.B n_far (t6+0) (.int (↑(mateT r (p+1))) u6)] 6)] 0 1 ?_
  intro Tb7 h7 N7 t7 Rp kk7
  refine l_ofrow hr hh Rp fun h7 N7 t7 sg n7 ws7 hw7 Rp=>?_
  show wpAny ..
  with_reducible refine seg_callD (by with_unfolding_all exact hh) Rp [] 42 (dA 0x9241041208108) (dM 3) (cB "min" [.int (↑(mateT r p)) u4,.int (↑(mateT r (p+1))) u6]) [(N7+0,oT #[.int (↑p) up,.int (↑p+1) (t7+2)])] [.k,.k,.u (dU [] [En x.B n_signs (t7+0) (.ref sg)] 7)] 1 3 ?_
  intro Tb8 h8 N8 t8 Rp kk8
  have ml:=mate_lt hr (show p<6 by exact zqby hp)
  have ml2:=mate_lt hr (show p+1<6 by exact zqbz hp)
  have hsz:(strA ws7).size=6:=by
   rw[strA_size]
   have:=congrArg List.length hw7
   rw[List.length_map] at this
   rw[this];unfold one;rw[List.length_map,rowL_len hr]
  refine i_min2 (m:=((min (mateT r p) (mateT r (p+1)):Nat):Int)) (by exact zqcj) hh Rp fun h9 N9 t9 w9 Rp=>?_
  with_reducible refine seg_callD (by with_unfolding_all exact hh) Rp [] 20 (dA 0x249041) [] (cB "max" [.int (↑(mateT r p)) u4,.int (↑(mateT r (p+1))) u6]) [] [] 0 0 ?_
  intro Tb10 h10 N10 t10 Rp kk10
  refine i_max2 (m:=((max (mateT r p) (mateT r (p+1)):Nat):Int)) (by exact zqck) hh Rp fun h10 N10 t10 w10 Rp=>?_
  with_reducible refine seg_callD (by with_unfolding_all exact hh) Rp [] 24 (dA 0x6181186) (dM 15) (loopOf (stmtAt x.B 276 5) (.ref (N10+2)) (envOf (fdOf x.B 276) 276 (N+0))) [(N10+2,oI "tuple_iterator" #[.ref (N10+1),.int 0 0]),(N10+1,oT #[.ref (N7+0),.ref (N10+0)]),(N10+0,oT #[.int (↑(min (mateT r p) (mateT r (p+1)))) w9,.int (↑(max (mateT r p) (mateT r (p+1)))) w10])] [] 3 0 ?_
  intro Tb11 h11 N11 t11 Rp kk11
  refine code_tree ?_
  with_reducible refine seg_callD (by with_unfolding_all exact hh) Rp [] 141 (dA 0x114534c60861c61860460861c61860460861c61860461860461862cf2cf18218a18618118218a18618118218a1861811862412492460861c6186046) (dM 128) (cB "list.__setitem__" [.ref sg,.int (↑p) up,.str (S [40]) (t11+2)]) [] [.u fun _=>oI "tuple_iterator" #[.ref (N10+1),.int 1 0],.k,.k,.k,.k,.k,.u (dU [] [En x.B n_low (t11+0) (.int (↑p) up),En x.B n_high (t11+1) (.int (↑p+1) (t7+2))] 9)] 7 4 ?_
  intro Tb12 h12 N12 t12 Rp kk12
  refine l_set (items:=strA ws7) Rp 4 rfl (by exact zqaw) (by exact zqgD hp) (by rw[hsz];exact zqgE hp) rfl fun hz Rp=>?_
  try dsimp only[setN] at Rp
  with_reducible refine seg_callD (by with_unfolding_all exact hh) Rp [] 18 (dA 0x28a30c) [] (cB "list.__setitem__" [.ref sg,.int (↑p+1) (t7+2),.str (S [41]) (t11+3)]) [] [] 0 0 ?_
  intro Tb13 h13 N13 t13 Rp kk13
  refine l_set Rp 4 rfl (by exact zqce) (by exact zqcf hp) (by rw[Array.size_setIfInBounds,hsz];exact zqdV hp) rfl fun hz Rp=>?_
  try dsimp only[setN] at Rp
  with_reducible refine seg_valD (by with_unfolding_all exact hh) Rp [] 11 (dA 0x0) [] (Fin.again (loopOf (stmtAt x.B 276 5) (.ref (N10+2)) (envOf (fdOf x.B 276) 276 (N+0)))) [] [] 0 0 ?_
  intro Tb14 h14 N14 t14 Rp
  refine⟨rfl,code_tree ?_⟩
  with_reducible refine seg_callD (by with_unfolding_all exact hh) Rp [] 141 (dA 0x114534c60861c61860460861c61860460861c61860461860461862cf2cf1821891861811821891861811821891861811862012082060861c6186046) (dM 128) (cB "list.__setitem__" [.ref sg,.int (↑(min (mateT r p) (mateT r (p+1)))) w9,.str (S [40]) (t14+2)]) [] [.u fun _=>oI "tuple_iterator" #[.ref (N10+1),.int 2 0],.k,.k,.k,.k,.k,.u (dU [(7,.int (↑(min (mateT r p) (mateT r (p+1)))) w9),(8,.int (↑(max (mateT r p) (mateT r (p+1)))) w10)] [] 9)] 7 4 ?_
  intro Tb15 h15 N15 t15 Rp kk15
  refine l_set Rp 4 rfl (by exact zqgF) (by omega) (by rw[Array.size_setIfInBounds,Array.size_setIfInBounds,hsz];omega) rfl fun hz Rp=>?_
  try dsimp only[setN] at Rp
  with_reducible refine seg_callD (by with_unfolding_all exact hh) Rp [] 18 (dA 0x28a30c) [] (cB "list.__setitem__" [.ref sg,.int (↑(max (mateT r p) (mateT r (p+1)))) w10,.str (S [41]) (t14+3)]) [] [] 0 0 ?_
  intro Tb16 h16 N16 t16 Rp kk16
  refine l_set Rp 4 rfl (by exact zqgG) (by omega) (by rw[Array.size_setIfInBounds,Array.size_setIfInBounds,Array.size_setIfInBounds,hsz];omega) rfl fun hz Rp=>?_
  try dsimp only[setN] at Rp
  with_reducible refine seg_valD (by with_unfolding_all exact hh) Rp [] 11 (dA 0x0) [] (Fin.again (loopOf (stmtAt x.B 276 5) (.ref (N10+2)) (envOf (fdOf x.B 276) 276 (N+0)))) [] [] 0 0 ?_
  intro Tb17 h17 N17 t17 Rp
  refine⟨rfl,code_tree ?_⟩
  with_reducible refine seg_valD (by with_unfolding_all exact hh) Rp [] 27 (dA 0x60861c6186046) (dM 4) (Fin.again (.block [] (envOf (fdOf x.B 276) 276 (N+0)))) [] [.u fun _=>oI "tuple_iterator" #[.none,.int 2 0]] 2 0 ?_
  intro Tb18 h18 N18 t18 Rp
  refine⟨rfl,code_tree ?_⟩
  with_reducible refine seg_valD (by with_unfolding_all exact hh) Rp [] 11 (dA 0x0) [] (Fin.done Flow.next) [] [] 0 0 ?_
  intro Tb19 h19 N19 t19 Rp
  show wpAny ..
  with_reducible refine seg_callD (by with_unfolding_all exact hh) Rp [] 18 (dA 0xc) [] (cB "str.join" [.str (S []) (t19+0),.ref sg]) [] [] 0 1 ?_
  intro Tb20 h20 N20 t20 Rp kk20
  obtain⟨hk1,hk2,hk3⟩:=hook_ok hr hp c
  refine s_joinL Rp 4 n7 ((((ws7.set p ([40],t11+2)).set (p+1) ([41],t11+3)).set (min (mateT r p) (mateT r (p+1))) ([40],t14+2)).set (max (mateT r p) (mateT r (p+1))) ([41],t14+3)) sg ?_ ?_ hk2 fun t21 v21=>?_
  ·rw[←strA_set,←strA_set,←strA_set,←strA_set];rfl
  ·simp only[List.map_set,hw7];rfl
  rw[hk3]
  with_reducible refine seg_valD (by with_unfolding_all exact hh) Rp [] 12 (dA 0x0) [] (Flow.ret (.str (S (rowL (hookT r p))) v21)) [] [.d,.d,.d,.d,.d,.d,.d] 0 0 ?_
  intro Tb22 h22 N22 t22 Rp
  exact K2 c _ _ _ _ _ hgb Rp
end Mine
namespace Mine
noncomputable def Six.at(x:Six)(i:Nat):Int:=match i with
 |0=>x.x0
 |1=>x.x1
 |2=>x.x2
 |3=>x.x3
 |_=>x.x4
noncomputable def ColOk(n L:Int)(P:Nat→Int)(x:Six):Prop:=∀i,i<5→∃a,P i-P (i+1)=L*x.at i+n*a
noncomputable def upd2(P:Nat→Int)(p:Nat)(u v:Int)(i:Nat):Int:=if i=p then u else if i=p+1 then v else P i
noncomputable def twP(n k:Int)(p:Nat)(P:Nat→Int):Nat→Int:=
 upd2 P p ((P p+k*(P p-P (p+1))%n)%n) ((P (p+1)+k*(P p-P (p+1))%n)%n)
theorem emod_eq(a n:Int):∃q,a%n=a-n*q:=⟨a/n,by have:=Int.mul_ediv_add_emod a n;omega⟩
theorem Six.tw_at(x:Six)(p i:Nat)(k:Int)(hp:p<5)(hi:i<5):(x.tw p k).at i=if i+1=p then x.at i-k*x.at p else if i=p+1 then x.at i+k*x.at p else x.at i:=by
 rcases(by exact zqae hp:p=0∨p=1∨p=2∨p=3∨p=4) with rfl|rfl|rfl|rfl|rfl<;>
 rcases(by exact zqae hi:i=0∨i=1∨i=2∨i=3∨i=4) with rfl|rfl|rfl|rfl|rfl<;>rfl
theorem ColOk.tw{n L:Int}{P:Nat→Int}{x:Six}(h:ColOk n L P x)(p:Nat)(hp:p<5)(k:Int):ColOk n L (twP n k p P) (x.tw p k):=by
 obtain⟨q0,e0⟩:=emod_eq (k*(P p-P (p+1))) n
 obtain⟨q1,e1⟩:=emod_eq (P p+k*(P p-P (p+1))%n) n
 obtain⟨q2,e2⟩:=emod_eq (P (p+1)+k*(P p-P (p+1))%n) n
 obtain⟨b,hb⟩:=h p hp
 intro i hi
 obtain⟨a,ha⟩:=h i hi
 rw[Six.tw_at x p i k hp hi]
 unfold twP upd2
 rw[e1,e2,e0]
 clear e0 e1 e2 h
 by_cases c1:i+1=p
 ·subst c1
  rw[if_neg (by exact zqdW),if_neg (by omega),if_pos rfl,if_pos rfl]
  exact⟨a-k*b+q0+q1,by grind⟩
 ·by_cases c2:i=p+1
  ·subst c2
   rw[if_neg (by exact zqbC),if_pos rfl,if_neg (by exact zqdX),if_neg (by omega),if_neg (by exact zqdX),if_pos rfl]
   exact⟨a+k*b-q0-q2,by grind⟩
  ·by_cases c3:i=p
   ·subst c3
    rw[if_pos rfl,if_neg (by exact zqbC),if_pos rfl,if_neg (by exact zqbC),if_neg (by exact zqdW)]
    exact⟨a-q1+q2,by grind⟩
   ·rw[if_neg c3,if_neg c2,if_neg (by exact zqgH c1),if_neg (by omega),if_neg c1,if_neg c2]
    exact⟨a,ha⟩
noncomputable def gradeT(r:Nat):Bool:=match r with
 |0=>false
 |3=>false
 |_=>true
noncomputable def Five.at(w:Five)(r:Nat):Int:=match r with
 |0=>w.w0
 |1=>w.w1
 |2=>w.w2
 |3=>w.w3
 |_=>w.w4
noncomputable def WOk(q:Int)(r:Nat)(w:Int)(v:Option Int):Prop:=match v with
 |none=>w=0
 |some v=>(∃a,v=(cond (gradeT r) q 1)*w+(q*q+1)*a)∧-(q*q+1)<v∧v<q*q+1
noncomputable def upd1{α:Type}(f:Nat→α)(h:Nat)(v:α)(i:Nat):α:=if i=h then v else f i
noncomputable def rowT(q k md:Int)(p r:Nat)(T:Nat→Option Int):Nat→Option Int:=match T r with
 |none=>T
 |some w=>if mateT r p=p+1 then T else upd1 T (hookT r p) (some (((T (hookT r p)).getD 0-w*k*q).fmod md))
noncomputable def rowW(k:Int)(p r:Nat)(W:Nat→Int):Nat→Int:=
 if mateT r p=p+1 then W else upd1 W (hookT r p) (W (hookT r p)+cond (gradeT r) k (-k)*W r)
theorem fmod_in{a b:Int}(h:b≠0):∃c,a.fmod b=a-b*c:=⟨a.fdiv b,by have:=Int.mul_fdiv_add_fmod a b;omega⟩
theorem fmod_bd{a m md:Int}(hm:0<m)(h:md=m∨md= -m):-m<a.fmod md∧a.fmod md<m:=by
 rcases h with rfl|rfl
 ·have h1:=Int.fmod_nonneg_of_pos a hm
  have h2:=Int.fmod_lt_of_pos a hm
  omega
 ·have e:a.fmod (-m)= -((-a).fmod m):=by
   have:=Int.neg_fmod_neg (-a) m
   rw[Int.neg_neg] at this
   exact this
  rw[e]
  have h1:=Int.fmod_nonneg_of_pos (-a) hm
  have h2:=Int.fmod_lt_of_pos (-a) hm
  omega
theorem hook_grade{r p:Nat}(hr:r<5)(hp:p<5)(hm:mateT r p≠p+1):gradeT (hookT r p)= !gradeT r:=by
 rcases(by exact zqae hr:r=0∨r=1∨r=2∨r=3∨r=4) with rfl|rfl|rfl|rfl|rfl<;>
 rcases(by exact zqae hp:p=0∨p=1∨p=2∨p=3∨p=4) with rfl|rfl|rfl|rfl|rfl<;>first|rfl|exact absurd rfl hm
theorem WOk.getD{q:Int}{r:Nat}{w:Int}{v:Option Int}(h:WOk q r w v):∃a,v.getD 0=(cond (gradeT r) q 1)*w+(q*q+1)*a:=by
 cases v with
 |none=>exact⟨0,by have h:w=0:=h;subst h;simp⟩
 |some v=>exact h.1
theorem row_ok{q k md:Int}(hq:0<q)(hmd:md=q*q+1∨md= -(q*q+1)){p r:Nat}(hp:p<5)(hr:r<5){T:Nat→Option Int}{W:Nat→Int}(h:∀i,i<5→WOk q i (W i) (T i)):
 ∀i,i<5→WOk q i (rowW k p r W i) (rowT q k md p r T i):=by
 have hm:0<q*q+1:=by have:=Int.mul_pos hq hq;omega
 intro i hi
 unfold rowT rowW
 have h1:=h r hr
 cases e:T r with
 |none=>
  rw[e] at h1
  have h1:W r=0:=h1
  dsimp only
  split
  ·exact h i hi
  ·unfold upd1
   split
   ·rename_i z
    rw[h1,Int.mul_zero,Int.add_zero,←z]
    exact h i hi
   ·exact h i hi
 |some w=>
  rw[e] at h1
  dsimp only
  split
  ·exact h i hi
  ·rename_i c
   unfold upd1
   split
   ·rename_i z
    subst z
    have g:=hook_grade hr hp c
    obtain⟨⟨b,hb⟩,_⟩:=h1
    obtain⟨a,ha⟩:=(h _ hi).getD
    have bd:=fmod_bd (a:=(T (hookT r p)).getD 0-w*k*q) hm hmd
    obtain⟨d,hd⟩:=fmod_in (a:=(T (hookT r p)).getD 0-w*k*q) (b:=md) (by exact zqgI hmd hm)
    refine⟨?_,bd⟩
    rw[hd,ha,hb,g]
    rcases hmd with rfl|rfl<;>cases gradeT r
    ·exact⟨a-b*k*q-d,by simp only[cond_true,cond_false,Bool.not_false];grind⟩
    ·exact⟨a-b*k*q-d-k*W r,by simp only[cond_true,cond_false,Bool.not_true];grind⟩
    ·exact⟨a-b*k*q+d,by simp only[cond_true,cond_false,Bool.not_false];grind⟩
    ·exact⟨a-b*k*q+d-k*W r,by simp only[cond_true,cond_false,Bool.not_true];grind⟩
   ·exact h i hi
noncomputable def twT(q k md:Int)(p:Nat)(T:Nat→Option Int):Nat→Option Int:=
 rowT q k md p 4 (rowT q k md p 3 (rowT q k md p 2 (rowT q k md p 1 (rowT q k md p 0 T))))
theorem pfive{p:Nat}(h:p<5):p=0∨p=1∨p=2∨p=3∨p=4:=by omega
theorem tw_W(w:Five)(p:Nat)(hp:p<5)(k:Int)(i:Nat)(hi:i<5):rowW k p 4 (rowW k p 3 (rowW k p 2 (rowW k p 1 (rowW k p 0 w.at)))) i=(w.tw p k).at i:=by
 obtain⟨w0,w1,w2,w3,w4⟩:=w
 rcases pfive hp with rfl|rfl|rfl|rfl|rfl
 all_goals
  rcases pfive hi with rfl|rfl|rfl|rfl|rfl<;>rfl'
theorem tw_T{q k md:Int}(hq:0<q)(hmd:md=q*q+1∨md= -(q*q+1)){p:Nat}(hp:p<5){T:Nat→Option Int}{w:Five}(h:∀i,i<5→WOk q i (w.at i) (T i)):
 ∀i,i<5→WOk q i ((w.tw p k).at i) (twT q k md p T i):=by
 intro i hi
 rw[←tw_W w p hp k i hi]
 exact row_ok hq hmd hp (by decide) (row_ok hq hmd hp (by decide) (row_ok hq hmd hp (by decide) (row_ok hq hmd hp (by decide) (row_ok hq hmd hp (by decide) h)))) i hi
end Mine
namespace Mine
open PySem PySem.W PySem.W.X PyProof.Rows PySem.Spec PySem.Calls
noncomputable abbrev tlP(x:W2)(tw:Bool)(kt:Nat)(vt:Value)(ko:Nat)(vo:Value)(ke:Nat)(ve:Value)(tl:List DictEntry):List DictEntry:=cond tw (En x.B n_told kt vt::En x.B n_on ko vo::En x.B n_end ke ve::tl) []
theorem G.Pic.mono{g:G}{P:Nat→Int}{cs:List Clr}{T T':Cells}(h:g.Pic P cs T)(m:∀z∈T,z∈T'):g.Pic P cs T':=
 ⟨h.len,fun i hi=>let⟨c,a,b,d⟩:=h.at' i hi;⟨c,a,b,m _ d⟩⟩
theorem mul_bd{a b:Int}(ha:-9≤a∧a≤9)(hb:-1024<b∧b<1024):-10000<a*b∧a*b<10000:=by
 have h:(a*b).natAbs≤9*1024:=by
  rw[Int.natAbs_mul]
  exact Nat.mul_le_mul (by exact zqdY ha) (by omega)
 omega
theorem refs_set(cs:List Clr)(i:Nat)(c:Clr):(refsOf cs).setIfInBounds i (.ref c.p)=refsOf (cs.set i c):=by
 unfold refsOf
 apply Array.toList_inj.mp
 simp[List.map_set]
theorem G.Pic.tw{g:G}{P:Nat→Int}{cs:List Clr}{T:Cells}{p:Nat}{cn:Int}{c c':Clr}(h:g.Pic P cs T)(hp:p<5)(hc:g.Col (twP g.n cn p P p) c)(hc':g.Col (twP g.n cn p P (p+1)) c'):g.Pic (twP g.n cn p P) ((cs.set p c).set (p+1) c') (c'.cell::c.cell::T):=by
 refine⟨by simp[h.len],fun i hi=>?_⟩
 have hl:=h.len
 by_cases e:i=p+1
 ·subst e
  exact⟨c',by rw[List.getElem?_set_self (by simp;omega)],hc',.head _⟩
 ·by_cases e2:i=p
  ·subst e2
   exact⟨c,by rw[List.getElem?_set_ne (by omega),List.getElem?_set_self (by omega)],hc,.tail _ (.head _)⟩
  ·obtain⟨d,h1,h2,h3⟩:=h.at' i hi
   refine⟨d,by rw[List.getElem?_set_ne (by omega),List.getElem?_set_ne (by omega)];exact h1,?_,.tail _ (.tail _ h3)⟩
   unfold twP upd2
   rw[if_neg e2,if_neg e]
   exact h2
theorem pt_turn(bb tw:Bool)(x:W2)(A:Around)(hh:A.handled=none)(hA:A.depth<380)(R:Result→Shared→Prop)(g:G)(w:Int)(hw:g.Wheel w)(ha:Quart g.a)(hv:Quart g.v)(F it sg pa:Addr)(items:Array Value)(j n0 np:Nat)(hj:items[j]? =some (.ref pa))(P:Nat→Int)(cs:List Clr)(p up:Nat)(hp:p<5)(ce:Int)(uc:Nat)(hce:0≤ce)(cn:Int)(un:Nat)(hcn:-9≤cn∧cn≤9)
 (k kr:Nat) (vr:Value) (kc kt ko ke:Nat) (vt vo ve:Value) (tl:List DictEntry) (pp:Option Value) (N t:Nat) (h:Heap) (gl d os) (T:Cells) (hP:g.Pic P cs T)
 (Rp:Rep x.B N h ((it,ListIt sg (j:Int))::(sg,Lst items n0)::(pa,Lst (refsOf cs) np)::(F,g.fr bb x (En x.B n_strings k (.ref sg)::En x.B n_row kr vr::En x.B n_count kc (.int cn un)::tlP x tw kt vt ko vo ke ve tl))::(F+1,oC (some (.int (p:Int) up)))::g.c F ((F+5,oC pp)::(F+8,oC (some (.int ce uc)))::T)) 0)
 (K:∀h' N' t' cs' np T' kt vt ko vo ke ve,g.Pic (twP g.n cn p P) cs' T'→(∀z∈T,z∈T')→Rep x.B N' h' ((it,ListIt sg ((j+1:Nat):Int))::(sg,Lst items n0)::(pa,Lst (refsOf cs') np)::(F,g.fr bb x (En x.B n_strings k (.ref sg)::En x.B n_row kr vr::En x.B n_count kc (.int cn un)::tlP x true kt vt ko vo ke ve (cond tw tl [])))::(F+1,oC (some (.int (p:Int) up)))::g.c F ((F+5,oC (some (.ref pa)))::(F+8,oC (some (.int ce uc)))::T')) 0→codeAny (MB x.B) A (loopOf (pS x) (.ref it) (lawE x F)) R ⟨h',gl,d,t',os⟩):
 codeAny (MB x.B) A (loopOf (pS x) (.ref it) (lawE x F)) R ⟨h,gl,d,t,os⟩:=by
 let sb:=bb
 cases bb<;>cases tw
 all_goals
  refine code_tree ?_
  with_reducible refine seg_callD (by with_unfolding_all exact hh) Rp [] 13 (dA 0x6) [] (cB "list_iterator.__next__" [.ref it]) [] [] 0 0 ?_
  intro Tb1 h1 N1 t1 Rp kk1
  refine li_next Rp 0 1 rfl rfl hj rfl fun hn1 Rp=>?_
  try dsimp only[setN] at Rp
  with_reducible refine seg_callD (by with_unfolding_all exact hh) Rp [] 34 (dA 0x618118628e) (dM 31) (.compStart (tdE x) 0 (.ref (N1+1)) (.ref (N1+2)) (tdEnv x F (N1+3))) [(N1+3,oD #[] 0),(N1+2,oL #[] 0),(N1+1,oI "tuple_iterator" #[.ref (N1+0),.int 0 0]),(N1+0,oT #[.int 0 (t1+0),.int 1 (t1+1)])] [.k,.k,.k,.k,.k,.k,.k,.k,.u fun _=>oC (some (.ref pa))] 4 2 ?_
  intro Tb2 h2 N2 t2 Rp kk2
  refine comp_startT (by rfl') Rp 2 rfl ?_
  have Rp:=((((Rp.mov 6 4).mov 8 5).mov 9 6).mov 12 7).mov 13 8
  refine td_run x (A.under _) hh (by show A.depth+0<390;exact zqcm hA) _ g w hw ha hv F (N1+3) (N1+2) _ _ pa P cs p up _ _ np hp ce uc hce _ _ _ _ _ _ _ (hP.mono fun z m=>.tail _ (.tail _ (.tail _ (.tail _ (.tail _ m))))) Rp fun h3 N3 t3 q1 v1 q2 v0 u1 n3 Rp=>?_
  obtain⟨c0,e0,f0,_⟩:=hP.at' p (by exact zqby hp)
  obtain⟨c1,e1,f1,_⟩:=hP.at' (p+1) (by exact zqbz hp)
  have b0:=hw.n1
  have b1:=hw.n0
  obtain⟨dd,hdd⟩:∃z,cn*(P p-P (p+1))=z:=⟨_,rfl⟩
  have bd:=mul_bd (b:=P p-P (p+1)) hcn (by have:=f0.1;have:=f0.2.1;have:=f1.1;have:=f1.2.1;omega)
  rw[hdd] at bd
  obtain⟨on,hon⟩:∃z,dd%g.n=z:=⟨_,rfl⟩
  have on0:=Int.emod_nonneg dd (show g.n≠0 by exact zqaV b1)
  have on1:=Int.emod_lt_of_pos dd (show 0<g.n by exact zqan b1)
  rw[hon] at on0 on1
  show wpAny ..
  with_reducible refine seg_callD (by with_unfolding_all exact hh) Rp [] 59 (dA 0x471c11c71d01c70471c7410042186310) [] (cB "int.__mul__" [.int (cn) un,.int (P p-P (p+1)) (t3+3)]) [] [.d,.k,.d,.k,.k,.k,.k,.k,.k,.k,.u (dW [En x.B n_told (t3+0) (.ref (N1+2))])] 0 4 ?_
  intro Tb4 h4 N4 t4 Rp kk4
  refine i_mul (c:=dd) (.inl (intBits_le_64 (by exact zqdZ hcn) (by exact zqea hcn))) hdd ?_
  show wpAny ..
  with_reducible refine seg_callD (by with_unfolding_all exact hh) Rp [] 15 (dA 0x49) [] (cR 101 [.int (dd) t4,.int (g.n) (g.un)]) [] [] 0 0 ?_
  intro Tb5 h5 N5 t5 Rp kk5
  refine idm_any x (A.under _) hh (by show A.depth+0<470;exact zqcn hA) _ dd g.n _ on (by omega) (by omega) (by exact zqci b1) (by exact zqco b0) rfl (by rw[Int.fmod_eq_emod_of_nonneg _ (by exact zqcg b1)];exact hon) _ _ _ _ _ _ _ _ _ Rp fun h5 N5 t5 ia iu iv Rp=>?_
  show wpAny ..
  with_reducible refine seg_callD (by with_unfolding_all exact hh) Rp [] 46 (dA 0x18604618b3c1186046186) (dM 7) (loopOf ((forB (pS x)).getD 2 default) (.ref (N5+1)) (lawE x F)) [(N5+1,oI "tuple_iterator" #[.ref (N5+0),.int 0 0]),(N5+0,oT #[.int 0 (t5+2),.int 1 (t5+3)])] [.d,.k,.k,.k,.k,.k,.k,.k,.k,.u (dW [En x.B n_on (t5+1) (.int (on) iv)])] 2 4 ?_
  intro Tb6 h6 N6 t6 Rp kk6
  obtain⟨z,hz⟩:∃z,(P p+on)*w=z:=⟨_,rfl⟩
  obtain⟨z0,z1⟩:=hw.bd hz (by have:=f0.1;exact zqeb on0 this) (by have:=f0.2.1;exact zqec on1 this)
  obtain⟨y,hy⟩:∃z,(P (p+1)+on)*w=z:=⟨_,rfl⟩
  obtain⟨y0,y1⟩:=hw.bd hy (by have:=f1.1;exact zqeb on0 this) (by have:=f1.2.1;exact zqec on1 this)
  have lcs:(refsOf cs).size=6:=by rw[refsOf_size,hP.len]
  refine code_tree ?_
  with_reducible refine seg_callD (by with_unfolding_all exact hh) Rp [] 55 (dA 0x2c14082012082104013100861c6186046) [] (cB "int.__truediv__" [.int (P p+on) (t6+1),.int (g.n) (g.un)]) [] [.u fun _=>oI "tuple_iterator" #[.ref (N5+0),.int 1 0],.k,.k,.k,.k,.k,.k,.k,.k,.k,.u (dW [En x.B n_end (t6+0) (.int 0 (t5+2))])] 0 2 ?_
  intro Tb7 h7 N7 t7 Rp kk7
  refine i_truediv (c:=16*z) (by exact zqan b1) (show(16*z).natAbs<2^53 by exact zqbv z0 z1) (hw.div hz) ?_
  show wpAny ..
  with_reducible refine seg_callD (by with_unfolding_all exact hh) Rp [] 17 (dA 0x1491) [] (cR 122 [.float (fl (16*z)) t7,.float (fl (g.a*2^22)) (g.ua),.float (fl (g.v*2^22)) (g.uv)]) [] [] 0 0 ?_
  intro Tb8 h8 N8 t8 Rp kk8
  refine hsvC x (A.under _) hh (by show A.depth+0<900;exact zqed hA) _ z _ g.a g.v z0 z1 (hw.mod hz) ha hv _ _ _ _ _ _ _ _ _ _ Rp fun h7 N7 t7 p7 r7 g7 l7 hc7 Rp=>?_
  show wpAny ..
  with_reducible refine seg_callD (by with_unfolding_all exact hh) Rp [] 26 (dA 0x28a0512cd) [] (cB "list.__setitem__" [.ref pa,.int ((↑p:Int)+0) (t7+0),.ref p7]) [] [] 0 1 ?_
  intro Tb9 h9 N9 t9 Rp kk9
  refine l_set (items:=refsOf cs) Rp 4 rfl (by exact zqdL) (by exact zqdM hp) (by rw[lcs];omega) rfl fun h8 Rp=>?_
  try dsimp only[setN] at Rp
  with_reducible refine seg_valD (by with_unfolding_all exact hh) Rp [] 12 (dA 0x0) [] (Fin.again (loopOf ((forB (pS x)).getD 2 default) (.ref (N5+1)) (lawE x F))) [] [] 0 0 ?_
  intro Tb10 h10 N10 t10 Rp
  refine⟨rfl,code_tree ?_⟩
  with_reducible refine seg_callD (by with_unfolding_all exact hh) Rp [] 55 (dA 0x3014492412492514413510c72071c7047) [] (cB "int.__truediv__" [.int (P (p+1)+on) (t10+1),.int (g.n) (g.un)]) [] [.k,.u fun _=>oI "tuple_iterator" #[.ref (N5+0),.int 2 0],.k,.k,.k,.k,.k,.k,.k,.k,.k,.u (dW [En x.B n_end (t6+0) (.int 1 (t5+3))])] 0 2 ?_
  intro Tb11 h11 N11 t11 Rp kk11
  refine i_truediv (c:=16*y) (by exact zqan b1) (show(16*y).natAbs<2^53 by exact zqbv y0 y1) (hw.div hy) ?_
  show wpAny ..
  with_reducible refine seg_callD (by with_unfolding_all exact hh) Rp [] 17 (dA 0x14d2) [] (cR 122 [.float (fl (16*y)) t11,.float (fl (g.a*2^22)) (g.ua),.float (fl (g.v*2^22)) (g.uv)]) [] [] 0 0 ?_
  intro Tb12 h12 N12 t12 Rp kk12
  refine hsvC x (A.under _) hh (by show A.depth+0<900;exact zqed hA) _ y _ g.a g.v y0 y1 (hw.mod hy) ha hv _ _ _ _ _ _ _ _ _ _ Rp fun h9 N9 t9 p9 r9 g9 l9 hc9 Rp=>?_
  show wpAny ..
  with_reducible refine seg_callD (by with_unfolding_all exact hh) Rp [] 26 (dA 0x2cb05230e) [] (cB "list.__setitem__" [.ref pa,.int ((↑p:Int)+1) (t9+0),.ref p9]) [] [] 0 1 ?_
  intro Tb13 h13 N13 t13 Rp kk13
  refine l_set Rp 5 rfl (by exact zqce) (by exact zqcf hp) (by rw[Array.size_setIfInBounds,lcs];exact zqdV hp) rfl fun h10 Rp=>?_
  try dsimp only[setN] at Rp
  with_reducible refine seg_valD (by with_unfolding_all exact hh) Rp [] 12 (dA 0x0) [] (Fin.again (loopOf ((forB (pS x)).getD 2 default) (.ref (N5+1)) (lawE x F))) [] [] 0 0 ?_
  intro Tb14 h14 N14 t14 Rp
  refine⟨rfl,code_tree ?_⟩
  with_reducible refine seg_valD (by with_unfolding_all exact hh) Rp [] 27 (dA 0x6108248208048) (dM 4) (Fin.again (.block [] (lawE x F))) [] [.k,.k,.u fun _=>oI "tuple_iterator" #[.none,.int 2 0]] 2 0 ?_
  intro Tb15 h15 N15 t15 Rp
  refine⟨rfl,code_tree ?_⟩
  with_reducible refine seg_valD (by with_unfolding_all exact hh) Rp [] 11 (dA 0x0) [] (Fin.done Flow.next) [] [] 0 0 ?_
  intro Tb16 h16 N16 t16 Rp
  show wpAny ..
  with_reducible refine seg_valD (by with_unfolding_all exact hh) Rp [] 11 (dA 0x0) [] (Fin.again (loopOf (pS x) (.ref it) (lawE x F))) [] [.k,.k,.d,.d,.d] 0 0 ?_
  intro Tb17 h17 N17 t17 Rp
  have k0:g.Col (twP g.n cn p P p) ⟨p7,r7,g7,l7⟩:=by
   unfold twP upd2
   rw[if_pos rfl,hdd,hon]
   exact⟨Int.emod_nonneg _ (by exact zqaV b1),Int.emod_lt_of_pos _ (by exact zqan b1),hc7⟩
  have k1:g.Col (twP g.n cn p P (p+1)) ⟨p9,r9,g9,l9⟩:=by
   unfold twP upd2
   rw[if_neg (by exact zqbC),if_pos rfl,hdd,hon]
   exact⟨Int.emod_nonneg _ (by exact zqaV b1),Int.emod_lt_of_pos _ (by exact zqan b1),hc9⟩
  exact⟨rfl,K _ _ _ _ _ _ _ _ _ _ _ _ (hP.tw hp k0 k1) (fun z m=>.tail _ (.tail _ m)) (by rw[←refs_set,←refs_set];exact((((((Rp.mov 0 11).mov 0 11).mov 5 0).mov 6 1).mov 7 3).mov 8 6).mov 9 7)⟩
theorem itemsOf_push(es:List Ent)(e:Ent):(itemsOf es).push (.ref e.a)=itemsOf (es++[e]):=by
 unfold itemsOf;simp
theorem itemsOf_size(es:List Ent):(itemsOf es).size=es.length:=by unfold itemsOf;simp
theorem h_setd(x:W2)(A:Around)(hh:A.handled=none)(hA:A.depth<490)(R:Result→Shared→Prop)(s r0:Nat)(hs:s<4)(hr:r0<5)(o D l:Addr)(full:List Ent)(hne:full≠[])(hl:full.length<100)(kl n u uv:Nat)(cs:Cells)(hE:EsOk s full cs)(gl d os)(N t:Nat)(h:Heap)
 (Rp:Rep x.B N h ((l,Lst (itemsOf full) n)::(o,HdO D)::(D,HdD x kl l)::cs) 0)
 (K1:∀e,full.find? (fun e=>Nat.beq e.r r0)=some e→∀h' N' t',Rep x.B N' h' ((l,Lst (itemsOf full) n)::(o,HdO D)::(D,HdD x kl l)::cs) 0→R (.ok (.ret (.str (S e.v) e.tv))) ⟨h',gl,d,t',os⟩)
 (K2:full.find? (fun e=>Nat.beq e.r r0)=none→∀h' N' t' a,Rep x.B N' h' ((l,Lst (itemsOf (full++[⟨a,u,uv,r0,false,[48]⟩])) (n+1))::(o,HdO D)::(D,HdD x kl l)::Ent.cell s ⟨a,u,uv,r0,false,[48]⟩::cs) 0→R (.ok (.ret (.str (S [48]) uv))) ⟨h',gl,d,t',os⟩):
 codeAny (MB x.B) A (.call (.ref 245) ⟨[.ref o,.str (S (nm s r0)) u,.str (S [48]) uv],[]⟩) R ⟨h,gl,d,t,os⟩:=by
 refine enterD hh Rp (by exact zqav hA) 26 (dA 0x86086086041) (bodyOf (fdOf x.B 245)) (envOf (fdOf x.B 245) 245 (N+0)) [(N+0,oF #[En x.B n_self (t+0) (.ref o),En x.B n_name (t+1) (.str (S (nm s r0)) u),En x.B n_value (t+2) (.str (S [48]) uv)] 3)] 1 3 (by rfl') ?_
 intro Tb1 h1 N1 t1 Rp
 with_reducible refine seg_callD (by with_unfolding_all exact hh) Rp [] 35 (dA 0x46248041041201041201041206) [] (cR 202 [.ref o,.str (S (nm s r0)) u]) [] [] 0 0 ?_
 intro Tb2 h2 N2 t2 Rp kk2
 have Rp:=Rp.mov 0 3
 refine h_get x (A.under _) hh (by show A.depth+1<500;omega) _ s r0 false hs hr o D l full hne kl n _ _ ?_ gl d os _ _ _ Rp (fun e he h' N' t' Rp=>?_) (fun he h' N' t' Rp=>?_)
 ·exact fun e he=>⟨(hE e he).1,.tail _ (hE e he).2⟩
 ·show wpAny ..
  with_reducible refine seg_valD (by with_unfolding_all exact hh) Rp [] 26 (dA 0x249149) [] (Flow.ret (.str (S e.v) (e.tv))) [] [.k,.k,.k,.d] 0 1 ?_
  intro Tb3 h3 N3 t3 Rp
  exact K1 e he _ _ _ Rp
 ·show wpAny ..
  with_reducible refine seg_callD (by with_unfolding_all exact hh) Rp [] 74 (dA 0x12481c10410470410470410472461861880471c10411c1041047249149) [] (.call (.ref 154) ⟨[.ref o,.str (S (nm s r0)) u],[(n_name,.bool true)]⟩) [] [.k,.k,.k,.u (dU [] [En x.B n_result (t'+0) .none] 4)] 0 2 ?_
  intro Tb3 h3 N3 t3 Rp kk3
  refine conv_n x (A.under _) hh (by show A.depth+1<600;exact zqcp hA) _ (nm s r0) (srchN x _ (nm_ok false hs hr).1 (nm_ok false hs hr).2) _ _ _ _ _ _ _ _ _ Rp fun h' N' t' Rp=>?_
  with_reducible refine seg_callD (by with_unfolding_all exact hh) Rp [] 36 (dA 0x492070410411c10411c10411c9) [] (.call (.ref 154) ⟨[.ref o,.str (S [48]) uv],[(n_name,.bool false)]⟩) [] [] 0 0 ?_
  intro Tb4 h4 N4 t4 Rp kk4
  refine conv_v x (A.under _) hh (by show A.depth+1<600;exact zqcp hA) _ [48] (srchV x _ (by decide) (by decide)) _ _ _ _ _ _ _ _ _ Rp fun h' N' t' Rp=>?_
  with_reducible refine seg_callD (by with_unfolding_all exact hh) Rp [] 14 (dA 0x0) (dM 3) (cB "list.append" [.ref l,.ref (N'+0)]) [(N'+0,oT #[.str (S (nm s r0)) u,.str (S [48]) uv])] [] 1 0 ?_
  intro Tb5 h5 N5 t5 Rp kk5
  refine l_append Rp 1 rfl (by rw[itemsOf_size];exact zqaU hl) rfl fun h2 Rp=>?_
  try dsimp only[setN] at Rp
  with_reducible refine seg_valD (by with_unfolding_all exact hh) Rp [] 15 (dA 0xa) [] (Flow.ret (.str (S [48]) uv)) [] [.k,.k,.k,.k,.d] 0 0 ?_
  intro Tb6 h6 N6 t6 Rp
  have Rp:=Rp.mov 0 3
  exact K2 he _ _ _ (N'+0) (by rw[←itemsOf_push];exact Rp)
theorem s_ne{B:Base}{A:Around}{R:Result→Shared→Prop}{l l':List Nat}{u v t:Nat}{h:Heap}{gl:Array GenState}{d:Drawn}{os:OsState}{r:Bool}(e:(l !=l')=r)(K:R (.ok (.ret (.bool r))) ⟨h,gl,d,t,os⟩):codeAny (MB B) A (.call (.builtin "str.__ne__") ⟨[.str (S l) u,.str (S l') v],[]⟩) R ⟨h,gl,d,t,os⟩:=by
 subst e
 exact gvc F.slot_str_ne rfl F.entry_str_ne (F.args_str_ne_2 _ _) (gives_str_ne _ _ _ _) K
noncomputable abbrev delE(x:W2):Expr:=compE (stmtAt x.B 173 1)
noncomputable abbrev dEnv(x:W2)(F cl C:Addr):Env:=cenvOf (envC (envOf (fdOf x.B 173) 173 F) [(n_name,cl)]) (delE x) C [(n_name,cl)]
theorem d_turn0(x:W2)(A:Around)(hh:A.handled=none)(hA:A.depth<800)(R:Result→Shared→Prop)(w v nmw lw:List Nat)(hl:Txt.lower (S w)=S lw)(hw:w.length≤1000)(l it F a C cl acc:Addr)(fo:Obj)(items vs:Array Value)(hvs:vs.size<1000)(n nv tn tk tv j:Nat)(hj:items[j]? =some (.ref a))(N t:Nat)(h:Heap)(gl d os)(rest:Cells)
 (Rp:Rep x.B N h ((C,oD #[] 0)::(acc,Lst vs nv)::(it,ListIt l (j:Int))::(F,fo)::(cl,oC (some (.str (S nmw) tn)))::(l,Lst items n)::(a,pairS w v tk tv)::rest) 0)
 (K1:lw=nmw→∀h' N' t' q,Rep x.B N' h' ((C,oD #[En x.B n_kv q (.ref a)] 1)::(acc,Lst vs nv)::(it,ListIt l ((j+1:Nat):Int))::(F,fo)::(cl,oC (some (.str (S nmw) tn)))::(l,Lst items n)::(a,pairS w v tk tv)::rest) 0→codeAny (MB x.B) A (.compLoop (delE x) 0 (.ref it) (.ref acc) (dEnv x F cl C)) R ⟨h',gl,d,t',os⟩)
 (K2:lw≠nmw→∀h' N' t' q,Rep x.B N' h' ((C,oD #[En x.B n_kv q (.ref a)] 1)::(acc,Lst (vs.push (.ref a)) (nv+1))::(it,ListIt l ((j+1:Nat):Int))::(F,fo)::(cl,oC (some (.str (S nmw) tn)))::(l,Lst items n)::(a,pairS w v tk tv)::rest) 0→codeAny (MB x.B) A (.compLoop (delE x) 0 (.ref it) (.ref acc) (dEnv x F cl C)) R ⟨h',gl,d,t',os⟩):
 codeAny (MB x.B) A (.compLoop (delE x) 0 (.ref it) (.ref acc) (dEnv x F cl C)) R ⟨h,gl,d,t,os⟩:=by
 by_cases c:lw=nmw
 ·refine code_tree ?_
  with_reducible refine seg_callD (by with_unfolding_all exact hh) Rp [] 13 (dA 0x8) [] (cB "list_iterator.__next__" [.ref it]) [] [] 0 0 ?_
  intro Tb1 h1 N1 t1 Rp kk1
  refine li_next Rp 2 5 rfl rfl hj rfl fun hn1 Rp=>?_
  try dsimp only[setN] at Rp
  with_reducible refine seg_callD (by with_unfolding_all exact hh) Rp [] 33 (dA 0xc30130c306086) [] (cB "str.lower" [.str (S w) tk]) [] [.u fun _=>oD #[En x.B n_kv (t1+0) (.ref a)] 1] 0 2 ?_
  intro Tb2 h2 N2 t2 Rp kk2
  refine s_low hl hw ?_
  with_reducible refine seg_callD (by with_unfolding_all exact hh) Rp [] 16 (dA 0xa) [] (cB "str.__ne__" [.str (S lw) t2,.str (S nmw) tn]) [] [] 0 0 ?_
  intro Tb3 h3 N3 t3 Rp kk3
  refine s_ne (r:=false) (by simp[c]) ?_
  with_reducible refine seg_valD (by with_unfolding_all exact hh) Rp [] 11 (dA 0x0) [] (Fin.again (.compLoop (delE x) 0 (.ref it) (.ref acc) (dEnv x F cl C))) [] [] 0 0 ?_
  intro Tb4 h4 N4 t4 Rp
  exact⟨rfl,K1 c _ _ _ _ Rp⟩
 ·refine code_tree ?_
  with_reducible refine seg_callD (by with_unfolding_all exact hh) Rp [] 13 (dA 0x8) [] (cB "list_iterator.__next__" [.ref it]) [] [] 0 0 ?_
  intro Tb1 h1 N1 t1 Rp kk1
  refine li_next Rp 2 5 rfl rfl hj rfl fun hn1 Rp=>?_
  try dsimp only[setN] at Rp
  with_reducible refine seg_callD (by with_unfolding_all exact hh) Rp [] 33 (dA 0xc30130c306086) [] (cB "str.lower" [.str (S w) tk]) [] [.u fun _=>oD #[En x.B n_kv (t1+0) (.ref a)] 1] 0 2 ?_
  intro Tb2 h2 N2 t2 Rp kk2
  refine s_low hl hw ?_
  with_reducible refine seg_callD (by with_unfolding_all exact hh) Rp [] 16 (dA 0xa) [] (cB "str.__ne__" [.str (S lw) t2,.str (S nmw) tn]) [] [] 0 0 ?_
  intro Tb3 h3 N3 t3 Rp kk3
  refine s_ne (r:=true) (by simp[c]) ?_
  with_reducible refine seg_callD (by with_unfolding_all exact hh) Rp [] 13 (dA 0x6) [] (cB "list.append" [.ref acc,.ref a]) [] [] 0 0 ?_
  intro Tb4 h4 N4 t4 Rp kk4
  refine l_append Rp 1 rfl (by exact zqee hvs) rfl fun ha1 Rp=>?_
  try dsimp only[setN] at Rp
  with_reducible refine seg_valD (by with_unfolding_all exact hh) Rp [] 11 (dA 0x0) [] (Fin.again (.compLoop (delE x) 0 (.ref it) (.ref acc) (dEnv x F cl C))) [] [] 0 0 ?_
  intro Tb5 h5 N5 t5 Rp
  exact⟨rfl,K2 c _ _ _ _ Rp⟩
theorem d_turn1(x:W2)(A:Around)(hh:A.handled=none)(hA:A.depth<800)(R:Result→Shared→Prop)(w v nmw lw:List Nat)(hl:Txt.lower (S w)=S lw)(hw:w.length≤1000)(l it F a C cl acc:Addr)(fo:Obj)(items vs:Array Value)(hvs:vs.size<1000)(n nv tn tk tv j q0:Nat)(v0:Value)(hj:items[j]? =some (.ref a))(N t:Nat)(h:Heap)(gl d os)(rest:Cells)
 (Rp:Rep x.B N h ((C,oD #[En x.B n_kv q0 v0] 1)::(acc,Lst vs nv)::(it,ListIt l (j:Int))::(F,fo)::(cl,oC (some (.str (S nmw) tn)))::(l,Lst items n)::(a,pairS w v tk tv)::rest) 0)
 (K1:lw=nmw→∀h' N' t' q,Rep x.B N' h' ((C,oD #[En x.B n_kv q (.ref a)] 1)::(acc,Lst vs nv)::(it,ListIt l ((j+1:Nat):Int))::(F,fo)::(cl,oC (some (.str (S nmw) tn)))::(l,Lst items n)::(a,pairS w v tk tv)::rest) 0→codeAny (MB x.B) A (.compLoop (delE x) 0 (.ref it) (.ref acc) (dEnv x F cl C)) R ⟨h',gl,d,t',os⟩)
 (K2:lw≠nmw→∀h' N' t' q,Rep x.B N' h' ((C,oD #[En x.B n_kv q (.ref a)] 1)::(acc,Lst (vs.push (.ref a)) (nv+1))::(it,ListIt l ((j+1:Nat):Int))::(F,fo)::(cl,oC (some (.str (S nmw) tn)))::(l,Lst items n)::(a,pairS w v tk tv)::rest) 0→codeAny (MB x.B) A (.compLoop (delE x) 0 (.ref it) (.ref acc) (dEnv x F cl C)) R ⟨h',gl,d,t',os⟩):
 codeAny (MB x.B) A (.compLoop (delE x) 0 (.ref it) (.ref acc) (dEnv x F cl C)) R ⟨h,gl,d,t,os⟩:=by
 by_cases c:lw=nmw
 ·refine code_tree ?_
  with_reducible refine seg_callD (by with_unfolding_all exact hh) Rp [] 13 (dA 0x8) [] (cB "list_iterator.__next__" [.ref it]) [] [] 0 0 ?_
  intro Tb1 h1 N1 t1 Rp kk1
  refine li_next Rp 2 5 rfl rfl hj rfl fun hn1 Rp=>?_
  try dsimp only[setN] at Rp
  with_reducible refine seg_callD (by with_unfolding_all exact hh) Rp [] 33 (dA 0xc30130c306086) [] (cB "str.lower" [.str (S w) tk]) [] [.u (dU [(0,.ref a)] [] 1)] 0 2 ?_
  intro Tb2 h2 N2 t2 Rp kk2
  refine s_low hl hw ?_
  with_reducible refine seg_callD (by with_unfolding_all exact hh) Rp [] 16 (dA 0xa) [] (cB "str.__ne__" [.str (S lw) t2,.str (S nmw) tn]) [] [] 0 0 ?_
  intro Tb3 h3 N3 t3 Rp kk3
  refine s_ne (r:=false) (by simp[c]) ?_
  with_reducible refine seg_valD (by with_unfolding_all exact hh) Rp [] 11 (dA 0x0) [] (Fin.again (.compLoop (delE x) 0 (.ref it) (.ref acc) (dEnv x F cl C))) [] [] 0 0 ?_
  intro Tb4 h4 N4 t4 Rp
  exact⟨rfl,K1 c _ _ _ _ Rp⟩
 ·refine code_tree ?_
  with_reducible refine seg_callD (by with_unfolding_all exact hh) Rp [] 13 (dA 0x8) [] (cB "list_iterator.__next__" [.ref it]) [] [] 0 0 ?_
  intro Tb1 h1 N1 t1 Rp kk1
  refine li_next Rp 2 5 rfl rfl hj rfl fun hn1 Rp=>?_
  try dsimp only[setN] at Rp
  with_reducible refine seg_callD (by with_unfolding_all exact hh) Rp [] 33 (dA 0xc30130c306086) [] (cB "str.lower" [.str (S w) tk]) [] [.u (dU [(0,.ref a)] [] 1)] 0 2 ?_
  intro Tb2 h2 N2 t2 Rp kk2
  refine s_low hl hw ?_
  with_reducible refine seg_callD (by with_unfolding_all exact hh) Rp [] 16 (dA 0xa) [] (cB "str.__ne__" [.str (S lw) t2,.str (S nmw) tn]) [] [] 0 0 ?_
  intro Tb3 h3 N3 t3 Rp kk3
  refine s_ne (r:=true) (by simp[c]) ?_
  with_reducible refine seg_callD (by with_unfolding_all exact hh) Rp [] 13 (dA 0x6) [] (cB "list.append" [.ref acc,.ref a]) [] [] 0 0 ?_
  intro Tb4 h4 N4 t4 Rp kk4
  refine l_append Rp 1 rfl (by exact zqee hvs) rfl fun ha1 Rp=>?_
  try dsimp only[setN] at Rp
  with_reducible refine seg_valD (by with_unfolding_all exact hh) Rp [] 11 (dA 0x0) [] (Fin.again (.compLoop (delE x) 0 (.ref it) (.ref acc) (dEnv x F cl C))) [] [] 0 0 ?_
  intro Tb5 h5 N5 t5 Rp
  exact⟨rfl,K2 c _ _ _ _ Rp⟩
theorem d_end(x:W2)(A:Around)(hh:A.handled=none)(R:Result→Shared→Prop)(l it F C cl acc:Addr)(fo co ao:Obj)(items:Array Value)(n j:Nat)(hj:items[j]? =none)(N t:Nat)(h:Heap)(gl d os)(rest:Cells)
 (Rp:Rep x.B N h ((C,co)::(acc,ao)::(it,ListIt l (j:Int))::(F,fo)::(l,Lst items n)::rest) 0)
 (K:∀h' N' t',Rep x.B N' h' ((C,co)::(acc,ao)::(F,fo)::(l,Lst items n)::rest) 0→R (.ok .next) ⟨h',gl,d,t',os⟩):
 codeAny (MB x.B) A (.compLoop (delE x) 0 (.ref it) (.ref acc) (dEnv x F cl C)) R ⟨h,gl,d,t,os⟩:=by
 refine code_tree ?_
 with_reducible refine seg_callD (by with_unfolding_all exact hh) Rp [] 13 (dA 0x8) [] (cB "list_iterator.__next__" [.ref it]) [] [] 0 0 ?_
 intro Tb1 h1 N1 t1 Rp kk1
 refine li_end hh Rp 2 4 rfl rfl hj rfl fun h2 N2 a2 e2 Rp=>?_
 with_reducible refine seg_valD (by with_unfolding_all exact hh) Rp [] 12 (dA 0x6) [] (Fin.done Flow.next) [] [.d,.d,.k,.k,.d] 0 0 ?_
 intro Tb3 h3 N3 t3 Rp
 exact K _ _ _ Rp
noncomputable def keepP(r0:Nat)(e:Ent):Bool:=match Nat.beq e.r r0 with
 |true=>false
 |false=>true
theorem keepP_f{r0:Nat}{e:Ent}(h:e.r=r0):keepP r0 e=false:=by unfold keepP;rw[h,Nat.beq_refl]
theorem keepP_t{r0:Nat}{e:Ent}(h:e.r≠r0):keepP r0 e=true:=by
 unfold keepP
 cases q:Nat.beq e.r r0
 ·rfl
 ·exact absurd (Nat.eq_of_beq_eq_true q) h
section
variable (x:W2) (A:Around) (hh:A.handled=none) (hA:A.depth<800) (R:Result→Shared→Prop) (s r0:Nat) (hs:s<4) (hr:r0<5) (l it F C cl acc:Addr) (fo:Obj) (full:List Ent) (hfl:full.length<100) (n tn:Nat) (cs:Cells) (hE:EsOk s full cs) (gl:Array GenState) (d:Drawn) (os:OsState)
 (K:∀h' N' t' nv q v,Rep x.B N' h' ((C,oD #[En x.B n_kv q v] 1)::(acc,Lst (itemsOf (full.filter (keepP r0))) nv)::(F,fo)::(l,Lst (itemsOf full) n)::(cl,oC (some (.str (S (nm s r0)) tn)))::cs) 0→R (.ok .next) ⟨h',gl,d,t',os⟩)
include hh hA hs hr hE K hfl
theorem d_loop:∀(es pre:List Ent) (j:Nat) (_:full.drop j=es) (_:pre++es.filter (keepP r0)=full.filter (keepP r0)) (q0:Nat) (v0:Value) (nv:Nat) (N t:Nat) (h:Heap)
 (_:Rep x.B N h ((C,oD #[En x.B n_kv q0 v0] 1)::(acc,Lst (itemsOf pre) nv)::(it,ListIt l (j:Int))::(F,fo)::(cl,oC (some (.str (S (nm s r0)) tn)))::(l,Lst (itemsOf full) n)::cs) 0),
 codeAny (MB x.B) A (.compLoop (delE x) 0 (.ref it) (.ref acc) (dEnv x F cl C)) R ⟨h,gl,d,t,os⟩
 |[],pre,j,e1,e2,q0,v0,nv,N,t,h,Rp=>by
  have Rp:=Rp.mov 4 5
  refine d_end x A hh R l it F C cl acc fo _ _ _ n j (items_end e1) N t h gl d os _ Rp fun h' N' t' Rp=>K h' N' t' nv q0 v0 ?_
  have e3:pre=full.filter (keepP r0):=by rw[←e2];simp
  rw[←e3]
  exact Rp
 |e::es,pre,j,e1,e2,q0,v0,nv,N,t,h,Rp=>by
  obtain⟨i1,i2⟩:=items_get e1
  have he:=hE e (List.mem_of_mem_drop (e1▸List.mem_cons_self:e∈full.drop j))
  obtain⟨cs',hp⟩:=cell_perm he.2
  have hpl:pre.length<1000:=by
   have h1:=congrArg List.length e2
   have h2:=List.length_filter_le (keepP r0) full
   rw[List.length_append] at h1
   omega
  refine d_turn1 x A hh hA R _ e.v (nm s r0) _ (low_k e.b hs he.1) (len_k e.b hs he.1) l it F e.a C cl acc fo _ (itemsOf pre) (by rw[itemsOf_size];exact hpl) n nv tn e.tk e.tv j q0 v0 i1 N t h gl d os cs' (Rp.perm ((((((hp.cons _).cons _).cons _).cons _).cons _).cons _)) (fun c h' N' t' q Rp=>?_) (fun c h' N' t' q Rp=>?_)
  ·refine d_loop es pre (j+1) i2 ?_ q _ nv N' t' h' (Rp.perm ((((((hp.symm.cons _).cons _).cons _).cons _).cons _).cons _))
   rw[←e2,List.filter_cons,keepP_f ((nm_ne hs he.1 hr).mp c)];rfl
  ·refine d_loop es (pre++[e]) (j+1) i2 ?_ q _ (nv+1) N' t' h' (by rw[←itemsOf_push];exact Rp.perm ((((((hp.symm.cons _).cons _).cons _).cons _).cons _).cons _))
   rw[←e2,List.filter_cons,keepP_t (fun z=>c ((nm_ne hs he.1 hr).mpr z)),if_pos rfl,List.append_assoc];rfl
theorem d_loop0(hne:full≠[])(N t:Nat)(h:Heap)
 (Rp:Rep x.B N h ((C,oD #[] 0)::(acc,Lst #[] 0)::(it,ListIt l ((0:Nat):Int))::(F,fo)::(cl,oC (some (.str (S (nm s r0)) tn)))::(l,Lst (itemsOf full) n)::cs) 0):
 codeAny (MB x.B) A (.compLoop (delE x) 0 (.ref it) (.ref acc) (dEnv x F cl C)) R ⟨h,gl,d,t,os⟩:=by
 obtain⟨e,es,rfl⟩:=List.exists_cons_of_ne_nil hne
 obtain⟨i1,i2⟩:=items_get (full:=e::es) (j:=0) rfl
 have he:=hE e List.mem_cons_self
 obtain⟨cs',hp⟩:=cell_perm he.2
 refine d_turn0 x A hh hA R _ e.v (nm s r0) _ (low_k e.b hs he.1) (len_k e.b hs he.1) l it F e.a C cl acc fo _ #[] (by decide) n 0 tn e.tk e.tv 0 i1 N t h gl d os cs' (Rp.perm ((((((hp.cons _).cons _).cons _).cons _).cons _).cons _)) (fun c h' N' t' q Rp=>?_) (fun c h' N' t' q Rp=>?_)
 ·refine d_loop x A hh hA R s r0 hs hr l it F C cl acc fo (e::es) hfl n tn cs hE gl d os K es [] 1 i2 ?_ q _ 0 N' t' h' (Rp.perm ((((((hp.symm.cons _).cons _).cons _).cons _).cons _).cons _))
  rw[List.filter_cons,keepP_f ((nm_ne hs he.1 hr).mp c)];rfl
 ·refine d_loop x A hh hA R s r0 hs hr l it F C cl acc fo (e::es) hfl n tn cs hE gl d os K es [e] 1 i2 ?_ q _ 1 N' t' h' (Rp.perm ((((((hp.symm.cons _).cons _).cons _).cons _).cons _).cons _))
  rw[List.filter_cons,keepP_t (fun z=>c ((nm_ne hs he.1 hr).mpr z)),if_pos rfl];rfl
end
theorem blank3(a b c:Value):Builtin.List.listBlankSlotArgs "__setitem__" 2 ⟨[a,b,c],[]⟩=pure (a,[b,c]):=rfl
theorem l_setAll{B:Base}{A:Around}{R:Result→Shared→Prop}{h:Heap}{gl:Array GenState}{d:Drawn}{t:Nat}{os:OsState}{N:Nat}{rest:Cells}{l sl acc:Addr}{items ys:Array Value}{n m:Nat}
 (Rp:Rep B N h ((l,Lst items n)::(sl,Slc .none .none .none)::(acc,Lst ys m)::rest) 0) (h1:items.size<1000) (h2:ys.size<1000)
 (K:∀h' n',Rep B N h' ((l,Lst ys n')::(sl,Slc .none .none .none)::(acc,Lst ys m)::rest) 0→R (.ok (.ret .none)) ⟨h',gl,d,t,os⟩):codeAny (MB B) A (.call (.builtin "list.__setitem__") ⟨[.ref l,.ref sl,.ref acc],[]⟩) R ⟨h,gl,d,t,os⟩:=by
 have hl:h.get? l=some (Lst items n):=Rp.at (n:=0) rfl
 have hs:h.get? sl=some (Slc .none .none .none):=Rp.at (n:=1) rfl
 have ha:h.get? acc=some (Lst ys m):=Rp.at (n:=2) rfl
 have hne:l≠acc:=by
  have:=Rp.nd
  simp only[List.map_cons,List.nodup_cons,List.mem_cons,not_or] at this
  exact this.1.2.1
 have hTs:(⟨h,gl,d,t,os⟩:Shared).TypeIs (.ref sl) "slice":=⟨_,hs,rfl⟩
 refine codeAny_call_builtin F.slot_list_setitem.plain F.entry_list_setitem (F.slot_list_setitem.check _ _ _ _ _ _ _ _ ⟨_,hl,rfl⟩ (F.args_list_setitem_3 _ _ _) ?_)
 unfold Builtin.«list.__setitem__»
 refine wpAny_bind (wpAny_of_eq (blank3 _ _ _) ?_)
 dsimp only
 refine wpAny_bind ?_
 unfold Builtin.List.listSubscript?
 refine wpAny_bind (wpAny_specialOf hTs slice_no_index ?_)
 simp only[Option.isNone_none,if_true]
 refine wpAny_pure ?_
 show wpAny _ _ (typeOf (.ref sl) >>= _) _ _ _
 refine wpAny_bind (wpAny_typeOf hTs ?_)
 rw[if_neg (by decide)]
 rw[listSliceParts_eq]
 have hstep:¬((rawPart none==rawInt 0)=true):=Bool.false_ne_true
 refine wpAny_bind (wpAny_bind (wpAny_field hs rfl (x:=.none) rfl (wpAny_bind (wpAny_listPart (.none) ?_))))
 rw[if_neg hstep]
 refine wpAny_bind (wpAny_field hs rfl (x:=.none) rfl (wpAny_bind (wpAny_listPart (.none) ?_)))
 refine wpAny_bind (wpAny_field hs rfl (x:=.none) rfl (wpAny_bind (wpAny_listPart (.none) (wpAny_pure ?_))))
 dsimp only
 rw[if_neg (show¬(Builtin.List.listSameRef (.ref l) (.ref acc)=true) from fun e=>hne (by simpa[Builtin.List.listSameRef] using e))]
 refine wpAny_bind ?_
 unfold Builtin.List.listAllItems
 refine wpAny_bind (wpAny_typeOf (T:="list") ⟨_,ha,rfl⟩ ?_)
 rw[if_pos (by decide)]
 unfold Builtin.List.listItems
 refine wpAny_bind (m:=seqItems? (.ref acc)) (wpAny_seqItems ha rfl (wpAny_pure ?_))
 refine wpAny_bind ?_
 refine wpAny_bind (m:=seqItems? (.ref l)) (wpAny_seqItems hl rfl (wpAny_pure ?_))
 refine wpAny_bind (wpAny_of_eq (sliceIndices_raw none none none items.size (by decide)) ?_)
 have e0:sliceBounds none none none items.size=(0,(items.size:Int),1):=rfl
 rw[e0]
 dsimp only
 rw[if_pos (by decide)]
 refine wpAny_bind (wpAny_rule ?_)
 have ht:¬(Builtin.List.listTooLong (items.size+ys.size)=true):=by
  have hz:items.size+ys.size≤sizeLine:=Nat.le_trans (show items.size+ys.size≤2000 by omega) (by decide)
  unfold Builtin.List.listTooLong
  simp;omega
 rw[if_neg ht]
 obtain⟨f,hf⟩:∃f:Array Value→Array Value,(fun xs:Array Value=>xs.extract 0 (Int.toNat 0)++ys++xs.extract (max 0 (items.size:Int)).toNat)=f:=⟨_,rfl⟩
 have ef:f items=ys:=by rw[←hf];simp
 rw[hf]
 have em:Obj.mapSeq f (Lst items n)=Lst ys (if ys.size==items.size then n else n+1):=by
  show(⟨.type "list",none,.seq (f items) (if(f items).size==items.size then n else n+1),#[]⟩:Obj)=_
  rw[ef]
 have q:=Rp.upd (n:=0) (f:=Obj.mapSeq f) rfl rfl (by show(Obj.mapSeq f (Lst items n)).isFreed=false;rw[em];rfl)
 refine wpAny_bind (m:=updateSeq l f) (wpAny_updateSeq hl rfl ?_ (Nat.le_trans (Nat.le_of_lt h1) (by decide)) (by rw[ef];exact Nat.le_trans (Nat.le_of_lt h2) (by decide)))
 refine wpAny_bind (wpAny_letGo ?_)
 refine wpAny_pure (K _ (if ys.size==items.size then n else n+1) ?_)
 have q:Rep B N (h.update l (Obj.mapSeq f)) ((l,Obj.mapSeq f (Lst items n))::(sl,Slc .none .none .none)::(acc,Lst ys m)::rest) 0:=q
 rw[em] at q
 exact q
theorem h_del(x:W2)(A:Around)(hh:A.handled=none)(hA:A.depth<490)(R:Result→Shared→Prop)(s r0:Nat)(b0:Bool)(hs:s<4)(hr:r0<5)(o D l:Addr)(full:List Ent)(hne:full≠[])(hl:full.length<100)(kl n u:Nat)(cs:Cells)(hE:EsOk s full cs)(gl d os)(N t:Nat)(h:Heap)
 (Rp:Rep x.B N h ((l,Lst (itemsOf full) n)::(o,HdO D)::(D,HdD x kl l)::cs) 0)
 (K:∀h' N' t' n',Rep x.B N' h' ((l,Lst (itemsOf (full.filter (keepP r0))) n')::(o,HdO D)::(D,HdD x kl l)::cs) 0→R (.ok (.ret .none)) ⟨h',gl,d,t',os⟩):
 codeAny (MB x.B) A (.call (.ref 173) ⟨[.ref o,.str (S (kn s r0 b0)) u],[]⟩) R ⟨h,gl,d,t,os⟩:=by
 obtain⟨M,rfl⟩:=Nat.exists_eq_add_of_le' (show 290≤N from Rp.top)
 refine enterD hh Rp (by exact zqav hA) 21 (dA 0x860c7041) (bodyOf (fdOf x.B 173)) (envC (envOf (fdOf x.B 173) 173 (M+290+0)) [(n_name,M+290+1)]) [(M+290+1,oC (some (.str (S (kn s r0 b0)) u))),(M+290+0,oF #[En x.B n_self (t+0) (.ref o)] 1)] 2 1 (by rfl') ?_
 intro Tb1 h1 N1 t1 Rp
 refine cut 1 ?_
 with_reducible refine seg_callD (by with_unfolding_all exact hh) Rp [] 36 (dA 0x6289041041241041241041247) [] (cB "str.lower" [.str (S (kn s r0 b0)) u]) [] [] 0 0 ?_
 intro Tb2 h2 N2 t2 Rp kk2
 refine s_low (low_k b0 hs hr) (len_k b0 hs hr) ?_
 with_reducible refine seg_callD (by with_unfolding_all exact hh) Rp [] 15 (dA 0x1) [] (.call (.ref 154) ⟨[.ref o,.str (S (nm s r0)) t2],[(n_name,.bool true)]⟩) [] [] 0 0 ?_
 intro Tb3 h3 N3 t3 Rp kk3
 refine conv_n x (A.under _) hh (by show A.depth+1<600;exact zqcp hA) _ (nm s r0) (srchN x _ (nm_ok false hs hr).1 (nm_ok false hs hr).2) _ _ _ _ _ _ _ _ _ Rp fun h' N' t' Rp=>?_
 with_reducible refine seg_valD (by with_unfolding_all exact hh) Rp [] 17 (dA 0x86) [] Flow.next [] [.u fun _=>oC (some (.str (S (nm s r0)) t2))] 0 0 ?_
 intro Tb4 h4 N4 t4 Rp
 show wpAny _ _ (execsZ ..) ..
 with_reducible refine seg_callD (by with_unfolding_all exact hh) Rp [] 43 (dA 0x6201208281249041049041041247) (dM 15) (.compStart (delE x) 0 (.ref (N4+0)) (.ref (N4+1)) (dEnv x (M+290+0) (M+290+1) (N4+2))) [(N4+2,oD #[] 0),(N4+1,oL #[] 0),(N4+0,oI "list_iterator" #[.ref l,.int 0 0])] [] 3 1 ?_
 intro Tb5 h5 N5 t5 Rp kk5
 refine comp_start (by rfl') Rp 2 rfl ?_
 refine d_loop0 x (A.under _) hh (by show A.depth+1<800;omega) _ s r0 hs hr l _ (M+290+0) _ (M+290+1) _ _ full hl n _ ((o,HdO D)::(D,HdD x kl l)::cs) (fun e he=>⟨(hE e he).1,.tail _ (.tail _ (hE e he).2)⟩) gl d os (fun h' N' t' nv q v Rp=>?_) hne _ _ _ (Rp.mov 3 4)
 show wpAny ..
 with_reducible refine seg_callD (by with_unfolding_all exact hh) Rp [] 39 (dA 0xa28c04b2c10412c104104b202186) (dM 3) (cB "list.__setitem__" [.ref l,.ref (N'+0),.ref (N4+1)]) [(N'+0,oI "slice" #[.none,.none,.none])] [.u fun _=>oD #[] 2] 1 1 ?_
 intro Tb6 h6 N6 t6 Rp kk6
 refine l_setAll ((Rp.mov 4 0).mov 3 2) (by rw[itemsOf_size];exact zqef hl) (by rw[itemsOf_size];exact Nat.lt_of_le_of_lt (List.length_filter_le ..) (by exact zqef hl)) fun h8 n8 Rp=>?_
 show wpAny ..
 with_reducible refine seg_valD (by with_unfolding_all exact hh) Rp [] 13 (dA 0x0) [] Flow.next [] [.k,.d,.d,.d,.d,.d] 0 0 ?_
 intro Tb7 h7 N7 t7 Rp
 exact K _ _ _ _ Rp
theorem h_set(x:W2)(A:Around)(hh:A.handled=none)(hA:A.depth<480)(R:Result→Shared→Prop)(s r0:Nat)(b0:Bool)(hs:s<4)(hr:r0<5)(o D l:Addr)(full:List Ent)(hne:full≠[])(hl:full.length<100)(kl n u uv:Nat)(v:List Nat)(hv:v≠[])(hv2:∀c∈v,32≤c∧c<127)(cs:Cells)(hE:EsOk s full cs)(gl d os)(N t:Nat)(h:Heap)
 (Rp:Rep x.B N h ((l,Lst (itemsOf full) n)::(o,HdO D)::(D,HdD x kl l)::cs) 0)
 (K:∀h' N' t' n' a,Rep x.B N' h' ((l,Lst (itemsOf (full.filter (keepP r0)++[⟨a,u,uv,r0,b0,v⟩])) n')::(o,HdO D)::(D,HdD x kl l)::Ent.cell s ⟨a,u,uv,r0,b0,v⟩::cs) 0→R (.ok (.ret .none)) ⟨h',gl,d,t',os⟩):
 codeAny (MB x.B) A (.call (.ref 168) ⟨[.ref o,.str (S (kn s r0 b0)) u,.str (S v) uv],[]⟩) R ⟨h,gl,d,t,os⟩:=by
 refine enterD hh Rp (by exact zqch hA) 26 (dA 0x86086086041) (bodyOf (fdOf x.B 168)) (envOf (fdOf x.B 168) 168 (N+0)) [(N+0,oF #[En x.B n_self (t+0) (.ref o),En x.B n_name (t+1) (.str (S (kn s r0 b0)) u),En x.B n_val (t+2) (.str (S v) uv)] 3)] 1 3 (by rfl') ?_
 intro Tb1 h1 N1 t1 Rp
 with_reducible refine seg_callD (by with_unfolding_all exact hh) Rp [] 24 (dA 0x1041048048186) [] (cR 173 [.ref o,.str (S (kn s r0 b0)) u]) [] [] 0 0 ?_
 intro Tb2 h2 N2 t2 Rp kk2
 have Rp:=Rp.mov 0 3
 refine h_del x (A.under _) hh (by show A.depth+1<490;exact zqbB hA) _ s r0 b0 hs hr o D l full hne hl kl n _ _ ?_ gl d os _ _ _ Rp fun h' N' t' n' Rp=>?_
 ·exact fun e he=>⟨(hE e he).1,.tail _ (hE e he).2⟩
 show wpAny ..
 with_reducible refine seg_callD (by with_unfolding_all exact hh) Rp [] 62 (dA 0x492070410411c10411c10411c91861862011c70410470410411c9) [] (.call (.ref 154) ⟨[.ref o,.str (S (kn s r0 b0)) u],[(n_name,.bool true)]⟩) [] [] 0 1 ?_
 intro Tb3 h3 N3 t3 Rp kk3
 refine conv_n x (A.under _) hh (by show A.depth+1<600;exact zqeg hA) _ (kn s r0 b0) (srchN x _ (nm_ok b0 hs hr).1 (nm_ok b0 hs hr).2) _ _ _ _ _ _ _ _ _ Rp fun h' N' t' Rp=>?_
 with_reducible refine seg_callD (by with_unfolding_all exact hh) Rp [] 36 (dA 0x492070410411c10411c10411c9) [] (.call (.ref 154) ⟨[.ref o,.str (S v) uv],[(n_name,.bool false)]⟩) [] [] 0 0 ?_
 intro Tb4 h4 N4 t4 Rp kk4
 refine conv_v x (A.under _) hh (by show A.depth+1<600;exact zqeg hA) _ v (srchV x _ hv hv2) _ _ _ _ _ _ _ _ _ Rp fun h' N' t' Rp=>?_
 with_reducible refine seg_callD (by with_unfolding_all exact hh) Rp [] 14 (dA 0x0) (dM 3) (cB "list.append" [.ref l,.ref (N'+0)]) [(N'+0,oT #[.str (S (kn s r0 b0)) u,.str (S v) uv])] [] 1 0 ?_
 intro Tb5 h5 N5 t5 Rp kk5
 refine l_append Rp 1 rfl (by rw[itemsOf_size];exact Nat.le_trans (List.length_filter_le (keepP r0) full) (by exact zqaU hl)) rfl fun h2 Rp=>?_
 try dsimp only[setN] at Rp
 with_reducible refine seg_valD (by with_unfolding_all exact hh) Rp [] 12 (dA 0x0) [] Flow.next [] [.k,.k,.k,.k,.d] 0 0 ?_
 intro Tb6 h6 N6 t6 Rp
 have Rp:=Rp.mov 0 3
 exact K _ _ _ _ (N'+0) (by rw[←itemsOf_push];exact Rp)
section
variable {B:Base} {A:Around} {R:Result→Shared→Prop} {k l:List Nat} {u t:Nat} {h:Heap} {gl:Array GenState} {d:Drawn} {os:OsState}
theorem s_upp(hl:Txt.upper (S k)=S l)(hk:k.length≤1000)(K:R (.ok (.ret (.str (S l) t))) ⟨h,gl,d,t+1,os⟩):codeAny (MB B) A (.call (.builtin "str.upper") ⟨[.str (S k) u],[]⟩) R ⟨h,gl,d,t,os⟩:=by
 have hf:Builtin.Str.tooLong (Txt.upper (S k)).length=false:=PyProof.Rows.fit_upper (Nat.le_trans hk (by decide))
 refine gvc F.slot_str_upper rfl F.entry_str_upper (F.args_str_upper_1 _) (gives_str_upper _ _ hf) ?_
 have e:(⟨placed (S k) fun _ c=>Unicode.upperOf c⟩:Str)=S l:=hl
 have hf':(Txt.upper (S k)).length≤sizeLine:=Nat.not_lt.mp (of_decide_eq_false hf)
 refine⟨hf',?_⟩
 show R (.ok (.ret (.str (⟨placed (S k) fun _ c=>Unicode.upperOf c⟩:Str) t))) ⟨h,gl,d,t+1,os⟩
 rw[e]
 exact K
end
noncomputable abbrev fnd(full:List Ent)(r:Nat):Option Ent:=full.find? fun e=>Nat.beq e.r r
theorem fnd_app{full:List Ent}{r:Nat}{e:Ent}(h:e.r≠r):fnd (full++[e]) r=fnd full r:=by
 unfold fnd
 rw[List.find?_append]
 have:([e].find? fun e=>Nat.beq e.r r)=none:=by
  rw[List.find?_cons]
  cases q:Nat.beq e.r r
  ·rfl
  ·exact absurd (Nat.eq_of_beq_eq_true q) h
 rw[this,Option.or_none]
theorem fnd_app_self{full:List Ent}{r:Nat}{e:Ent}(h:e.r=r)(hn:fnd full r=none):fnd (full++[e]) r=some e:=by
 unfold fnd at hn⊢
 rw[List.find?_append,hn,List.find?_cons,h,Nat.beq_refl]
 rfl
theorem fnd_keep{full:List Ent}{r r0:Nat}:fnd (full.filter (keepP r0)) r=if r=r0 then none else fnd full r:=by
 unfold fnd
 induction full with
 |nil=>simp
 |cons a l ih=>
  rw[List.filter_cons]
  by_cases c:a.r=r0
  ·rw[keepP_f c,if_neg (by decide),ih]
   split
   ·rfl
   ·rename_i z
    rw[List.find?_cons]
    cases q:Nat.beq a.r r
    ·rfl
    ·exact absurd ((Nat.eq_of_beq_eq_true q).symm.trans c) z
  ·rw[keepP_t c,if_pos rfl,List.find?_cons,List.find?_cons,ih]
   cases q:Nat.beq a.r r
   ·rfl
   ·have z:¬r=r0:=fun z=>c ((Nat.eq_of_beq_eq_true q).trans z)
    exact(if_neg z).symm
theorem fnd_set{full:List Ent}{r r0:Nat}{e:Ent}(h:e.r=r0):fnd (full.filter (keepP r0)++[e]) r=if r=r0 then some e else fnd full r:=by
 split
 ·rename_i z
  exact fnd_app_self (h.trans z.symm) (by rw[fnd_keep,if_pos z])
 ·rename_i z
  rw[fnd_app (fun q=>z (q.symm.trans h)),fnd_keep,if_neg z]
noncomputable def TabIs(full:List Ent)(T:Nat→Option Int):Prop:=∀r,r<5→(fnd full r).map Ent.v=(T r).map dg
theorem TabIs.set{full full1:List Ent}{T:Nat→Option Int}{r0:Nat}{e:Ent}{v:Int}(h:TabIs full T)(h1:∀r,r≠r0→fnd full1 r=fnd full r)(he:e.r=r0)(hv:e.v=dg v):TabIs (full1.filter (keepP r0)++[e]) (upd1 T r0 (some v)):=by
 intro r hr
 rw[fnd_set he]
 unfold upd1
 split
 ·rw[Option.map_some,Option.map_some,hv]
 ·rename_i z
  rw[h1 r z]
  exact h r hr
theorem EsOk.mono{s:Nat}{full:List Ent}{T T':Cells}(h:EsOk s full T)(m:∀z∈T,z∈T'):EsOk s full T':=fun e he=>⟨(h e he).1,m _ (h e he).2⟩
theorem h_setd2(x:W2)(A:Around)(hh:A.handled=none)(hA:A.depth<490)(R:Result→Shared→Prop)(s r0:Nat)(hs:s<4)(hr:r0<5)(o D l:Addr)(full:List Ent)(hne:full≠[])(hl:full.length<100)(kl n u uv:Nat)(pre T:Cells)(hE:EsOk s full T)(gl d os)(N t:Nat)(h:Heap)
 (Rp:Rep x.B N h ((l,Lst (itemsOf full) n)::(o,HdO D)::(D,HdD x kl l)::(pre++T)) 0)
 (K:∀h' N' t' full1 n1 e T',fnd full1 r0=some e→(∀r,r≠r0→fnd full1 r=fnd full r)→e.v=((fnd full r0).map Ent.v).getD [48]→full1≠[]→full1.length≤full.length+1→EsOk s full1 T'→(∀z∈T,z∈T')→Rep x.B N' h' ((l,Lst (itemsOf full1) n1)::(o,HdO D)::(D,HdD x kl l)::(pre++T')) 0→R (.ok (.ret (.str (S e.v) e.tv))) ⟨h',gl,d,t',os⟩):
 codeAny (MB x.B) A (.call (.ref 245) ⟨[.ref o,.str (S (nm s r0)) u,.str (S [48]) uv],[]⟩) R ⟨h,gl,d,t,os⟩:=by
 refine h_setd x A hh hA R s r0 hs hr o D l full hne hl kl n u uv _ (hE.mono fun z m=>List.mem_append_right _ m) gl d os N t h Rp (fun e he h' N' t' Rp=>?_) (fun he h' N' t' a Rp=>?_)
 ·exact K _ _ _ full n e T he (fun _ _=>rfl) (by show _=((fnd full r0).map Ent.v).getD _;rw[show fnd full r0=some e from he];rfl) hne (by exact zqdP) hE (fun _ m=>m) Rp
 ·refine K h' N' t' (full++[⟨a,u,uv,r0,false,[48]⟩]) (n+1) ⟨a,u,uv,r0,false,[48]⟩ (Ent.cell s ⟨a,u,uv,r0,false,[48]⟩::T) (fnd_app_self rfl he) (fun r z=>fnd_app (fun q=>z q.symm)) (by show _=((fnd full r0).map Ent.v).getD _;rw[show fnd full r0=none from he];rfl) (by simp) (by simp) (fun e m=>?_) (fun _ m=>.tail _ m) ?_
  ·rcases List.mem_append.mp m with m|m
   ·exact⟨(hE e m).1,.tail _ (hE e m).2⟩
   ·obtain rfl:=List.mem_singleton.mp m
    exact⟨hr,.head _⟩
  ·exact Rp.perm (((((List.perm_middle (l₁:=pre)).symm).cons _).cons _).cons _)
theorem h_set2(x:W2)(A:Around)(hh:A.handled=none)(hA:A.depth<480)(R:Result→Shared→Prop)(s r0:Nat)(b0:Bool)(hs:s<4)(hr:r0<5)(o D l:Addr)(full:List Ent)(hne:full≠[])(hl:full.length<100)(kl n u uv:Nat)(v:List Nat)(hv:v≠[])(hv2:∀c∈v,32≤c∧c<127)(pre T:Cells)(hE:EsOk s full T)(gl d os)(N t:Nat)(h:Heap)
 (Rp:Rep x.B N h ((l,Lst (itemsOf full) n)::(o,HdO D)::(D,HdD x kl l)::(pre++T)) 0)
 (K:∀h' N' t' n' e T',e.r=r0→e.v=v→EsOk s (full.filter (keepP r0)++[e]) T'→(∀z∈T,z∈T')→Rep x.B N' h' ((l,Lst (itemsOf (full.filter (keepP r0)++[e])) n')::(o,HdO D)::(D,HdD x kl l)::(pre++T')) 0→R (.ok (.ret .none)) ⟨h',gl,d,t',os⟩):
 codeAny (MB x.B) A (.call (.ref 168) ⟨[.ref o,.str (S (kn s r0 b0)) u,.str (S v) uv],[]⟩) R ⟨h,gl,d,t,os⟩:=by
 refine h_set x A hh hA R s r0 b0 hs hr o D l full hne hl kl n u uv v hv hv2 _ (hE.mono fun z m=>List.mem_append_right _ m) gl d os N t h Rp fun h' N' t' n' a Rp=>?_
 refine K h' N' t' n' ⟨a,u,uv,r0,b0,v⟩ (Ent.cell s ⟨a,u,uv,r0,b0,v⟩::T) rfl rfl (fun e m=>?_) (fun _ m=>.tail _ m) (Rp.perm (((((List.perm_middle (l₁:=pre)).symm).cons _).cons _).cons _))
 rcases List.mem_append.mp m with m|m
 ·exact⟨(hE e (List.mem_filter.mp m).1).1,.tail _ (hE e (List.mem_filter.mp m).1).2⟩
 ·obtain rfl:=List.mem_singleton.mp m
  exact⟨hr,.head _⟩
noncomputable abbrev KIt(d:Addr)(j:Int):Obj:=oI "dict_keyiterator" #[.ref d,.int j 0,.int 5 0,.int 5 0]
theorem kn_next(x:W2){A:Around}{R:Result→Shared→Prop}{h:Heap}{gl:Array GenState}{d:Drawn}{t:Nat}{os:OsState}{N j:Nat}{tab:Cells}{it T:Addr}{s:Nat}{ks us:Nat→Nat}(hj:j<5)(hh:A.handled=none)(Rp:Rep x.B N h ((it,KIt T (j:Int))::(T,namesO x.B s ks us 5)::tab) 0)
 (K:∀h' N' t',Rep x.B N' h' ((it,KIt T ((j+1:Nat):Int))::(T,namesO x.B s ks us 5)::tab) 0→R (.ok (.ret (.str (S (rowL j)) (ks j)))) ⟨h',gl,d,t',os⟩):
 codeAny (MB x.B) A (.call (.builtin "dict_keyiterator.__next__") ⟨[.ref it],[]⟩) R ⟨h,gl,d,t,os⟩:=by
 with_reducible refine seg_codeD (by with_unfolding_all exact hh) Rp [] 22 (dA 0x1821861871c6186) [] (.ok (.ret (.str (S (rowL j)) (ks j)))) [] [.u fun _=>KIt T ((j+1:Nat):Int)] 0 0 ?_ aN ?_
 ·rcases(by exact zqae hj:j=0∨j=1∨j=2∨j=3∨j=4) with rfl|rfl|rfl|rfl|rfl
  all_goals rfl'
 ·intro Tb1 h1 N1 t1 Rp
  exact K _ _ _ Rp
noncomputable def rS(x:W2):Stmt:=((forB (stmtAt x.B 288 11)).drop 2).headD default
inductive Ph where
 |no
 |mid
 |all
noncomputable abbrev tlR(x:W2)(ph:Ph)(kw:Nat)(vw:Value)(kh:Nat)(vh:Value)(kl:Nat)(vl:Value)(kd:Nat)(vd:Value):List DictEntry:=match ph with
 | .no=>[]
 | .mid=>[En x.B n_weight kw vw,En x.B n_hooked kh vh]
 | .all=>[En x.B n_weight kw vw,En x.B n_hooked kh vh,En x.B n_laid kl vl,En x.B n_due kd vd]
noncomputable abbrev frT(bb:Bool)(x:W2)(g:G)(k:Nat)(sg:Addr)(kr:Nat)(vr:Value)(kc:Nat)(cn:Int)(un kt:Nat)(vt:Value)(ko:Nat)(vo:Value)(ke:Nat)(ve:Value)(tl:List DictEntry):Obj:=g.fr bb x (En x.B n_strings k (.ref sg)::En x.B n_row kr vr::En x.B n_count kc (.int cn un)::tlP x true kt vt ko vo ke ve tl)
noncomputable def mdOf(g:G)(ce:Int):Int:=if ce%2=0 then g.m else-g.m
theorem TabIs.some{full:List Ent}{T:Nat→Option Int}{r:Nat}{e:Ent}(h:TabIs full T)(hr:r<5)(he:fnd full r=some e):∃w,T r=some w∧e.v=dg w:=by
 have:=h r hr
 rw[he] at this
 cases q:T r with
 |none=>rw[q] at this;cases this
 |some w=>rw[q] at this;exact⟨w,rfl,Option.some.inj this⟩
theorem TabIs.none{full:List Ent}{T:Nat→Option Int}{r:Nat}(h:TabIs full T)(hr:r<5)(he:fnd full r=.none):T r=.none:=by
 have:=h r hr
 rw[he] at this
 cases q:T r with
 |none=>rfl
 |some w=>rw[q] at this;cases this
theorem int_sv(x:W2)(A:Around)(hh:A.handled=none)(R:Result→Shared→Prop)(n:Int)(hn:n.natAbs<10^100)(v:List Nat)(hv:v=dg n)(u:Nat)(N t:Nat)(h:Heap)(gl d os)(rest:Cells)(Rp:Rep x.B N h rest 0)
 (K:∀h' N' t' u,Rep x.B N' h' rest 0→R (.ok (.ret (.int n u))) ⟨h',gl,d,t',os⟩):
 codeAny (MB x.B) A (.call (.type "int") ⟨[.str (S v) u],[]⟩) R ⟨h,gl,d,t,os⟩:=by
 subst hv
 exact int_s x A hh R n hn u N t h gl d os rest Rp K
theorem str_iv(x:W2)(A:Around)(hh:A.handled=none)(R:Result→Shared→Prop)(n:Int)(hn:n.natAbs<10^100)(u:Nat)(N t:Nat)(h:Heap)(gl d os)(rest:Cells)(Rp:Rep x.B N h rest 0)
 (K:∀h' N' t' u v,v=dg n→v≠[]→(∀c∈v,32≤c∧c<127)→Rep x.B N' h' rest 0→R (.ok (.ret (.str (S v) u))) ⟨h',gl,d,t',os⟩):
 codeAny (MB x.B) A (.call (.type "str") ⟨[.int n u],[]⟩) R ⟨h,gl,d,t,os⟩:=
 str_i x A hh R n hn u N t h gl d os rest Rp fun h' N' t' v Rp=>K h' N' t' v (dg n) rfl (dg_ne n) (dg_ok n) Rp
theorem big_bd{w c q m:Int}(hw:-m<w∧w<m)(hm:m≤2^61)(hc:-9≤c∧c≤9)(hq:0<q∧q≤2^30):-(2^100)<w*c*q∧w*c*q<2^100:=by
 have h:(w*c*q).natAbs≤2^61*9*2^30:=by
  rw[Int.natAbs_mul,Int.natAbs_mul]
  exact Nat.mul_le_mul (Nat.mul_le_mul (by omega) (by exact zqdY hc)) (by omega)
 omega
noncomputable abbrev phB(al:Bool):Ph:=cond al .all .mid
theorem r_turn(bb:Bool)(ph:Ph)(x:W2)(A:Around)(hh:A.handled=none)(hA:A.depth<380)(R:Result→Shared→Prop)(g:G)(hs:g.s<4)(hq:1000<g.q)(hq2:g.q≤2^30)(hm:g.m=g.q*g.q+1)(F it nd l o D:Addr)(full:List Ent)(hne:full≠[])(hl:full.length<90)(Tf:Nat→Option Int)(hT:TabIs full Tf)(hTb:∀i v,i<5→Tf i=some v→-g.m<v∧v<g.m)
 (n kl0:Nat) (ks us:Nat→Nat) (r p up:Nat) (hr:r<5) (hp:p<5) (ce:Int) (uc:Nat) (hce:0≤ce) (cn:Int) (un:Nat) (hcn:-9≤cn∧cn≤9)
 (k kr kc kt ko ke kw kh kl kd:Nat) (vr vt vo ve vw vh vl vd:Value) (sg:Addr) (N t:Nat) (h:Heap) (gl:Array GenState) (hgb:AllBare gl) (d os) (T:Cells) (hE:EsOk g.s full T)
 (Rp:Rep x.B N h ((it,KIt nd (r:Int))::(nd,namesO x.B g.s ks us 5)::(l,Lst (itemsOf full) n)::(o,HdO D)::(D,HdD x kl0 l)::(F,frT bb x g k sg kr vr kc cn un kt vt ko vo ke ve (tlR x ph kw vw kh vh kl vl kd vd))::(F+1,oC (some (.int (p:Int) up)))::(F+6,oC (some (.ref nd)))::(F+7,oC (some (.ref o)))::(F+8,oC (some (.int ce uc)))::T) 0)
 (K:∀h' N' t' gl' full' n' T' kr al kw vw kh vh kl vl kd vd,AllBare gl'→full'≠[]→full'.length≤full.length+2→EsOk g.s full' T'→(∀z∈T,z∈T')→TabIs full' (rowT g.q cn (mdOf g ce) p r Tf)→Rep x.B N' h' ((it,KIt nd ((r+1:Nat):Int))::(nd,namesO x.B g.s ks us 5)::(l,Lst (itemsOf full') n')::(o,HdO D)::(D,HdD x kl0 l)::(F,frT bb x g k sg kr (.str (S (rowL r)) (ks r)) kc cn un kt vt ko vo ke ve (tlR x (phB al) kw vw kh vh kl vl kd vd))::(F+1,oC (some (.int (p:Int) up)))::(F+6,oC (some (.ref nd)))::(F+7,oC (some (.ref o)))::(F+8,oC (some (.int ce uc)))::T') 0→codeAny (MB x.B) A (loopOf (rS x) (.ref it) (lawE x F)) R ⟨h',gl',d,t',os⟩):
 codeAny (MB x.B) A (loopOf (rS x) (.ref it) (lawE x F)) R ⟨h,gl,d,t,os⟩:=by
 let sb:=bb
 let sb2:=ph;cases bb<;>cases ph
 all_goals
  have hmb:g.m≤2^61:=by
   have:=Int.mul_le_mul hq2 hq2 (show 0≤g.q by exact zqba hq) (by decide)
   omega
  refine code_tree ?_
  with_reducible refine seg_callD (by with_unfolding_all exact hh) Rp [] 13 (dA 0x6) [] (cB "dict_keyiterator.__next__" [.ref it]) [] [] 0 0 ?_
  intro Tb1 h1 N1 t1 Rp kk1
  refine kn_next x hr hh Rp fun h2 N2 t2 Rp=>?_
  with_reducible refine seg_callD (by with_unfolding_all exact hh) Rp [] 46 (dA 0x71c72cd28904104124104124104124e1cb) [] (cB "dict.__getitem__" [.ref nd,.str (S (rowL r)) (ks r)]) [] [.k,.k,.k,.k,.k,.u (dW [En x.B n_row kr (.str (S (rowL r)) (ks r))])] 0 1 ?_
  intro Tb3 h3 N3 t3 Rp kk3
  refine d_get hr Rp 1 rfl ?_
  show wpAny ..
  with_reducible refine seg_callD (by with_unfolding_all exact hh) Rp [] 14 (dA 0x0) [] (cB "str.upper" [.str (S (nm g.s r)) (us r)]) [] [] 0 0 ?_
  intro Tb4 h4 N4 t4 Rp kk4
  refine s_upp (low_kn hs hr).2.2 (len_k false hs hr) ?_
  with_reducible refine seg_callD (by with_unfolding_all exact hh) Rp [] 14 (dA 0x1) [] (cR 202 [.ref o,.str (S (upN (nm g.s r))) t4]) [] [] 0 0 ?_
  intro Tb5 h5 N5 t5 Rp kk5
  have Rp:=((Rp.mov 2 0).mov 3 1).mov 4 2
  refine h_get x (A.under _) hh (by show A.depth+0<500;exact zqeh hA) _ g.s r true hs hr o D l full hne _ n _ _ (hE.mono fun z m=>.tail _ (.tail _ (.tail _ (.tail _ (.tail _ (.tail _ (.tail _ m))))))) gl d os _ _ _ Rp (fun e he h' N' t' Rp=>?_) (fun he h' N' t' Rp=>?_)
  ·obtain⟨w,hw,hev⟩:=hT.some hr he
   have hwb:=hTb r w hr hw
   show wpAny ..
   with_reducible refine seg_callD (by with_unfolding_all exact hh) Rp [] 33 (dA 0x4b30b04b1cb) [] (cR 276 [.str (S (rowL r)) (ks r),.int ((↑p:Int)) up,.int ((↑g.s:Int)) (g.uh)]) [] [.k,.k,.k,.k,.k,.u (dW [En x.B n_weight (t'+0) (.str (S e.v) (e.tv))])] 0 1 ?_
   intro Tb6 h6 N6 t6 Rp kk6
   refine hooked x (A.under _) hh (by show A.depth+0<480;exact zqcq hA) _ g.s r p hs hr hp _ _ _ _ gl hgb _ _ _ _ _ Rp (fun c h' N' t' gl hgb Rp=>?_) (fun c h' N' t' gl vk hgb Rp=>?_)
   ·show wpAny ..
    with_reducible refine seg_valD (by with_unfolding_all exact hh) Rp [] 23 (dA 0xb1cb) [] (Fin.again (loopOf (rS x) (.ref it) (lawE x F))) [] [.k,.k,.k,.k,.k,.u (dW [En x.B n_hooked (t'+0) .none])] 0 1 ?_
    intro Tb7 h7 N7 t7 Rp
    exact⟨rfl,K _ _ _ _ full _ T _ (match sb2 with| .all=>true|_=>false) _ _ _ _ kl vl kd vd hgb hne (by exact zqei) hE (fun _ m=>m) (by unfold rowT;rw[hw];dsimp only;rw[if_pos c];exact hT) ((Rp.mov 3 0).mov 4 1)⟩
   ·have hk:=(hook_ok hr hp c).1
    show wpAny ..
    with_reducible refine seg_callD (by with_unfolding_all exact hh) Rp [] 51 (dA 0x28a28b3481c104104704104704104738b1cb) [] (cB "dict.__getitem__" [.ref nd,.str (S (rowL (hookT r p))) vk]) [] [.k,.k,.k,.k,.k,.u (dW [En x.B n_hooked (t'+0) (.str (S (rowL (hookT r p))) vk)])] 0 1 ?_
    intro Tb7 h7 N7 t7 Rp kk7
    refine d_get hk Rp 4 rfl ?_
    show wpAny ..
    with_reducible refine seg_callD (by with_unfolding_all exact hh) Rp [] 14 (dA 0x1) [] (cR 245 [.ref o,.str (S (nm g.s (hookT r p))) (us (hookT r p)),.str (S [48]) (t7+1+0)]) [] [] 0 1 ?_
    intro Tb8 h8 N8 t8 Rp kk8
    refine h_setd2 x (A.under _) hh (by show A.depth+0<490;exact zqdB hA) _ g.s (hookT r p) hs hk o D l full hne (by omega) _ n _ _ [_,_,_,_,_,_,_] T hE gl d os _ _ _ Rp fun h8 N8 t8 full1 n1 e1 T1 hf hfo hev1 hne1 hl1 hE1 hT1 Rp=>?_
    obtain⟨y,hy⟩:∃y,(Tf (hookT r p)).getD 0=y:=⟨_,rfl⟩
    have hy':e1.v=dg y∧(-g.m<y∧y<g.m):=by
     have q0:=Int.mul_pos (show 0<g.q by exact zqas hq) (show 0<g.q by exact zqas hq)
     rw[hev1,hT (hookT r p) hk]
     cases q:Tf (hookT r p) with
     |none=>rw[q] at hy;subst hy;exact⟨rfl,by show-g.m<0;exact zqgJ hm q0,by show 0<g.m;exact zqgK hm q0⟩
     |some v=>rw[q] at hy;subst hy;exact⟨rfl,hTb _ v hk q⟩
    show wpAny ..
    with_reducible refine seg_callD (by with_unfolding_all exact hh) Rp [] 47 (dA 0xa28a2cd2070410411c10411c10411ce1cb) [] (cB "dict.__getitem__" [.ref nd,.str (S (rowL (hookT r p))) vk]) [] [.k,.k,.k,.k,.k,.u (dW [En x.B n_laid (t8+0) (.str (S e1.v) (e1.tv))])] 0 1 ?_
    intro Tb9 h9 N9 t9 Rp kk9
    refine d_get hk Rp 4 rfl ?_
    show wpAny ..
    with_reducible refine seg_callD (by with_unfolding_all exact hh) Rp [] 14 (dA 0x0) [] (cB "str.upper" [.str (S (nm g.s (hookT r p))) (us (hookT r p))]) [] [] 0 0 ?_
    intro Tb10 h10 N10 t10 Rp kk10
    refine s_upp (low_kn hs hk).2.2 (len_k false hs hk) ?_
    show wpAny ..
    with_reducible refine seg_callD (by with_unfolding_all exact hh) Rp [] 14 (dA 0x1) [] (cR 202 [.ref o,.str (S (upN (nm g.s (hookT r p)))) t10]) [] [] 0 0 ?_
    intro Tb11 h11 N11 t11 Rp kk11
    refine h_get x (A.under _) hh (by show A.depth+0<500;exact zqeh hA) _ g.s (hookT r p) true hs hk o D l full1 hne1 _ n1 _ _ (hE1.mono fun z m=>.tail _ (.tail _ (.tail _ (.tail _ (.tail _ (.tail _ (.tail _ m))))))) gl d os _ _ _ Rp (fun e2 he2 h9 N9 t9 Rp=>?_) (fun he2 h9 N9 t9 Rp=>?_)
    ·obtain rfl:=Option.some.inj (he2.symm.trans hf)
     show wpAny ..
     with_reducible refine seg_callD (by with_unfolding_all exact hh) Rp [] 16 (dA 0xb) [] (cB "str.__ne__" [.str (S e2.v) (e2.tv),.str (S e2.v) (e2.tv)]) [] [] 0 0 ?_
     intro Tb12 h12 N12 t12 Rp kk12
     refine s_ne (r:=false) (by simp) ?_
     show wpAny ..
     with_reducible refine seg_callD (by with_unfolding_all exact hh) Rp [] 18 (dA 0xb041) [] (.call (.type "int") ⟨[.str (S e2.v) (e2.tv)],[]⟩) [] [] 0 0 ?_
     intro Tb13 h13 N13 t13 Rp kk13
     refine int_sv x (A.under _) hh _ y (by have:=hy'.2;omega) e2.v hy'.1 _ _ _ _ _ _ _ _ Rp fun h10 N10 t10 u10 Rp=>?_
     show wpAny ..
     with_reducible refine seg_callD (by with_unfolding_all exact hh) Rp [] 18 (dA 0xb041) [] (.call (.type "int") ⟨[.str (S e.v) (e.tv)],[]⟩) [] [] 0 0 ?_
     intro Tb14 h14 N14 t14 Rp kk14
     refine int_sv x (A.under _) hh _ w (by exact zqcr hmb hwb) e.v hev _ _ _ _ _ _ _ _ Rp fun h11 N11 t11 u11 Rp=>?_
     obtain⟨w1,hw1⟩:∃z,w*cn=z:=⟨_,rfl⟩
     obtain⟨w2,hw2⟩:∃z,w1*g.q=z:=⟨_,rfl⟩
     obtain⟨md,hmd⟩:∃z,mdOf g ce=z:=⟨_,rfl⟩
     obtain⟨v,hv⟩:∃z,(y-w2).fmod md=z:=⟨_,rfl⟩
     have wb:=big_bd hwb hmb hcn (show 0<g.q∧g.q≤2^30 by omega)
     rw[hw1,hw2] at wb
     have hyb:=hy'.2
     have hmp:2^10≤g.m:=by
      have:=Int.mul_le_mul (show 1000≤g.q by exact zqaY hq) (show 1000≤g.q by exact zqaY hq) (by decide) (by exact zqba hq)
      exact zqgL hm this
     have hmd':md=g.m∨md= -g.m:=by
      unfold mdOf at hmd
      split at hmd<;>omega
     have hvb:=fmod_bd (a:=y-w2) (show 0<g.m by exact zqgM hmp) hmd'
     rw[hv] at hvb
     show wpAny ..
     with_reducible refine seg_callD (by with_unfolding_all exact hh) Rp [] 15 (dA 0xb) [] (cB "int.__mul__" [.int (w) u11,.int (cn) un]) [] [] 0 0 ?_
     intro Tb15 h15 N15 t15 Rp kk15
     refine i_mul (c:=w1) (.inr (intBits_le_64 (by exact zqdZ hcn) (by exact zqea hcn))) hw1 ?_
     show wpAny ..
     with_reducible refine seg_callD (by with_unfolding_all exact hh) Rp [] 14 (dA 0xb) [] (cB "int.__mul__" [.int (w1) t15,.int (g.q) (g.uq)]) [] [] 0 0 ?_
     intro Tb16 h16 N16 t16 Rp kk16
     refine i_mul (c:=w2) (.inr (intBits_le_64 (by exact zqgN hq) (by exact zqgO hq2))) hw2 ?_
     show wpAny ..
     rcases(by exact zqdC:ce%2=0∨ce%2=1) with par|par
     ·have emd:md=g.m:=by
       rw[←hmd];unfold mdOf;rw[if_pos par]
      refine seg_callD hh Rp [aI "int.__mod__" [.int (ce) uc,.int 2 (t16+1+2)] (0)] 44 (dA 0x4b0423cb0410472c1) [] (cR 101 [.int (y-w2) (t16+1+0),.int (g.m) (g.um)]) [] [.k,.k,.k,.k,.k,.u (dW [En x.B n_due (t16+1+1) (.int (y-w2) (t16+1+0))])] 0 4 ?_ (aC (fun _ _ _ _ _ _ _ K=>i_mod (B:=x.B) (i:=(ce)) (j:=(2)) (c:=0) (by decide) (by rw[Int.fmod_eq_emod_of_nonneg _ (by decide)];exact zqdE par) K) aN)
      intro Tb17 h17 N17 t17 Rp kk17
      refine idm_any x (A.under _) hh (by show A.depth+0<470;exact zqcn hA) _ (y-w2) g.m _ v (by omega) (by omega) (by exact zqgP hmp) (by exact zqgQ hmb) rfl (by rw[←emd];exact hv) _ _ _ _ _ _ _ _ _ Rp fun h18 N18 t18 ia iu iv Rp=>?_
      show wpAny ..
      with_reducible refine seg_callD (by with_unfolding_all exact hh) Rp [] 25 (dA 0x1186046186) [] (.call (.type "str") ⟨[.int (v) iv],[]⟩) [] [] 0 1 ?_
      intro Tb19 h19 N19 t19 Rp kk19
      refine str_iv x (A.under _) hh _ v (by exact zqcr hmb hvb) _ _ _ _ _ _ _ _ Rp fun h19 N19 t19 u19 txt ht1 ht2 ht3 Rp=>?_
      show wpAny ..
      with_reducible refine seg_callD (by with_unfolding_all exact hh) Rp [] 22 (dA 0x2cb2cc38f) [] (cB "dict.__getitem__" [.ref nd,.str (S (rowL (hookT r p))) vk]) [] [.d] 0 0 ?_
      intro Tb20 h20 N20 t20 Rp kk20
      refine d_get hk Rp 4 rfl ?_
      show wpAny ..
      with_reducible refine seg_callD (by with_unfolding_all exact hh) Rp [] 14 (dA 0x0) [] (cB "str.upper" [.str (S (nm g.s (hookT r p))) (us (hookT r p))]) [] [] 0 0 ?_
      intro Tb21 h21 N21 t21 Rp kk21
      refine s_upp (low_kn hs hk).2.2 (len_k false hs hk) ?_
      show wpAny ..
      with_reducible refine seg_callD (by with_unfolding_all exact hh) Rp [] 20 (dA 0x1041047047) [] (cR 168 [.ref o,.str (S (upN (nm g.s (hookT r p)))) t21,.str (S txt) u19]) [] [] 0 0 ?_
      intro Tb22 h22 N22 t22 Rp kk22
      refine h_set2 x (A.under _) hh (by show A.depth+0<480;exact zqcq hA) _ g.s (hookT r p) true hs hk o D l full1 hne1 (by exact zqej hl hl1) _ n1 _ _ txt ht2 ht3 [_,_,_,_,_,_,_] T1 hE1 gl d os _ _ _ Rp fun h20 N20 t20 n20 e3 T2 he3 hv3 hE3 hT3 Rp=>?_
      show wpAny ..
      with_reducible refine seg_valD (by with_unfolding_all exact hh) Rp [] 11 (dA 0x0) [] (Fin.again (loopOf (rS x) (.ref it) (lawE x F))) [] [] 0 0 ?_
      intro Tb23 h23 N23 t23 Rp
      refine⟨rfl,K _ _ _ _ _ _ T2 _ true _ _ _ _ _ _ _ _ hgb (by simp) ?_ hE3 (fun z m=>hT3 z (hT1 z m)) ?_ ((Rp.mov 3 0).mov 4 1)⟩
      ·rw[List.length_append]
       have:=List.length_filter_le (keepP (hookT r p)) full1
       show _+1≤_
       exact zqek hl1 this
      ·unfold rowT
       rw[hw]
       dsimp only
       rw[if_neg c,hy,hw1,hw2,hmd,hv]
       exact hT.set hfo he3 (hv3.trans ht1)
     ·have emd:md=(-g.m):=by
       rw[←hmd];unfold mdOf;rw[if_neg (by exact zqgR par)]
      refine seg_callD hh Rp [aI "int.__mod__" [.int (ce) uc,.int 2 (t16+1+2)] (1)] 49 (dA 0x104b0423cb0410472c1) [] (cR 101 [.int (y-w2) (t16+1+0),.int (-g.m) (t16+1+4)]) [] [.k,.k,.k,.k,.k,.u (dW [En x.B n_due (t16+1+1) (.int (y-w2) (t16+1+0))])] 0 5 ?_ (aC (fun _ _ _ _ _ _ _ K=>i_mod (B:=x.B) (i:=(ce)) (j:=(2)) (c:=1) (by decide) (by rw[Int.fmod_eq_emod_of_nonneg _ (by decide)];exact zqdK par) K) aN)
      intro Tb17 h17 N17 t17 Rp kk17
      refine idm_xn x (A.under _) hh (by show A.depth+0<460;omega) _ (y-w2) (-g.m) _ v (by omega) (by omega) (by exact zqgS hmp) (by exact zqgT hmb) rfl (by rw[←emd];exact hv) _ _ _ _ _ _ _ _ _ Rp fun h18 N18 t18 ia iu iv Rp=>?_
      show wpAny ..
      with_reducible refine seg_callD (by with_unfolding_all exact hh) Rp [] 25 (dA 0x1186046186) [] (.call (.type "str") ⟨[.int (v) iv],[]⟩) [] [] 0 1 ?_
      intro Tb19 h19 N19 t19 Rp kk19
      refine str_iv x (A.under _) hh _ v (by exact zqcr hmb hvb) _ _ _ _ _ _ _ _ Rp fun h19 N19 t19 u19 txt ht1 ht2 ht3 Rp=>?_
      show wpAny ..
      with_reducible refine seg_callD (by with_unfolding_all exact hh) Rp [] 22 (dA 0x2cb2cc38f) [] (cB "dict.__getitem__" [.ref nd,.str (S (rowL (hookT r p))) vk]) [] [.d] 0 0 ?_
      intro Tb20 h20 N20 t20 Rp kk20
      refine d_get hk Rp 4 rfl ?_
      show wpAny ..
      with_reducible refine seg_callD (by with_unfolding_all exact hh) Rp [] 14 (dA 0x0) [] (cB "str.upper" [.str (S (nm g.s (hookT r p))) (us (hookT r p))]) [] [] 0 0 ?_
      intro Tb21 h21 N21 t21 Rp kk21
      refine s_upp (low_kn hs hk).2.2 (len_k false hs hk) ?_
      show wpAny ..
      with_reducible refine seg_callD (by with_unfolding_all exact hh) Rp [] 20 (dA 0x1041047047) [] (cR 168 [.ref o,.str (S (upN (nm g.s (hookT r p)))) t21,.str (S txt) u19]) [] [] 0 0 ?_
      intro Tb22 h22 N22 t22 Rp kk22
      refine h_set2 x (A.under _) hh (by show A.depth+0<480;exact zqcq hA) _ g.s (hookT r p) true hs hk o D l full1 hne1 (by exact zqej hl hl1) _ n1 _ _ txt ht2 ht3 [_,_,_,_,_,_,_] T1 hE1 gl d os _ _ _ Rp fun h20 N20 t20 n20 e3 T2 he3 hv3 hE3 hT3 Rp=>?_
      show wpAny ..
      with_reducible refine seg_valD (by with_unfolding_all exact hh) Rp [] 11 (dA 0x0) [] (Fin.again (loopOf (rS x) (.ref it) (lawE x F))) [] [] 0 0 ?_
      intro Tb23 h23 N23 t23 Rp
      refine⟨rfl,K _ _ _ _ _ _ T2 _ true _ _ _ _ _ _ _ _ hgb (by simp) ?_ hE3 (fun z m=>hT3 z (hT1 z m)) ?_ ((Rp.mov 3 0).mov 4 1)⟩
      ·rw[List.length_append]
       have:=List.length_filter_le (keepP (hookT r p)) full1
       show _+1≤_
       exact zqek hl1 this
      ·unfold rowT
       rw[hw]
       dsimp only
       rw[if_neg c,hy,hw1,hw2,hmd,hv]
       exact hT.set hfo he3 (hv3.trans ht1)
    ·exact absurd (he2.symm.trans hf) (by simp)
  ·have hw:=hT.none hr he
   show wpAny ..
   with_reducible refine seg_valD (by with_unfolding_all exact hh) Rp [] 34 (dA 0x2c72cb1cb) [] (Fin.again (loopOf (rS x) (.ref it) (lawE x F))) [] [.k,.k,.k,.k,.k,.u (dW [En x.B n_weight (t'+0) .none,En x.B n_hooked (t'+1) .none])] 0 2 ?_
   intro Tb6 h6 N6 t6 Rp
   exact⟨rfl,K _ _ _ _ full _ T _ (match sb2 with| .all=>true|_=>false) _ _ _ _ kl vl kd vd hgb hne (by exact zqei) hE (fun _ m=>m) (by unfold rowT;rw[hw];exact hT) ((Rp.mov 3 0).mov 4 1)⟩
theorem pull_all{α:Type}:∀(pre T T':List α),(pre++T).Nodup→(∀z∈pre++T,z∈T')→∃T2,T'.Perm (pre++T2)∧∀z∈T,z∈T2
 |[],T,T',_,h=>⟨T',.refl _,h⟩
 |a::pre,T,T',hn,h=>by
  obtain⟨l1,l2,rfl⟩:=List.append_of_mem (h a List.mem_cons_self)
  have hn':=List.nodup_cons.mp hn
  obtain⟨T2,p,m⟩:=pull_all pre T (l1++l2) hn'.2 fun z hz=>by
   have:=h z (.tail _ hz)
   rcases List.mem_append.mp this with q|q
   ·exact List.mem_append_left _ q
   ·rcases List.mem_cons.mp q with rfl|q
    ·exact absurd hz hn'.1
    ·exact List.mem_append_right _ q
  exact⟨T2,List.perm_middle.trans (p.cons _),m⟩
theorem Rep.keep{B:Base}{N N' m m':Nat}{h h':Heap}(A pre A':Cells){T T':Cells}(R0:Rep B N h (A++(pre++T)) m)(hs:∀z∈pre++T,z∈T')(R:Rep B N' h' (A'++T') m'):
 ∃T2,T'.Perm (pre++T2)∧Rep B N' h' (A'++(pre++T2)) m'∧∀z∈T,z∈T2:=by
 have hn:(A++(pre++T)).Nodup:=List.Pairwise.of_map _ (fun _ _ q z=>q (z▸rfl)) R0.nd
 obtain⟨T2,p,q⟩:=pull_all pre T T' (List.nodup_append.mp hn).2.1 hs
 exact⟨T2,p,R.perm (p.append_left A'),q⟩
noncomputable def NoTup(pre:Cells):Prop:=∀z∈pre,z.2.cls≠.type "tuple"
theorem NoTup.nil:NoTup []:=fun _ m=>nomatch m
theorem NoTup.cons{a:Addr}{o:Obj}{l:Cells}{c:String}(h:o.cls=.type c)(hc:c≠"tuple")(n:NoTup l):NoTup ((a,o)::l):=by
 intro z m
 rcases List.mem_cons.mp m with rfl|m
 ·rw[h];intro q;injection q with q;exact hc q
 ·exact n z m
theorem NoTup.consR{a:Addr}{o:Obj}{l:Cells}{c:Addr}(h:o.cls=.ref c)(n:NoTup l):NoTup ((a,o)::l):=by
 intro z m
 rcases List.mem_cons.mp m with rfl|m
 ·rw[h];intro q;cases q
 ·exact n z m
theorem pull_mem{pre T T2:Cells}{z:Addr×Obj}(p:T.Perm (pre++T2))(n:NoTup pre)(hz:z.2.cls=.type "tuple")(m:z∈T):z∈T2:=by
 rcases List.mem_append.mp (p.mem_iff.mp m) with q|q
 ·exact absurd hz (n z q)
 ·exact q
theorem p_end(x:W2)(A:Around)(hh:A.handled=none)(R:Result→Shared→Prop)(F it sg:Addr)(p1 p2 n:Nat)(N t:Nat)(h:Heap)(gl d os)(rest:Cells)
 (Rp:Rep x.B N h ((it,ListIt sg ((2:Nat):Int))::(sg,Lst #[.ref p1,.ref p2] n)::rest) 0)
 (K:∀h' N' t',Rep x.B N' h' ((sg,Lst #[.ref p1,.ref p2] n)::rest) 0→R (.ok .next) ⟨h',gl,d,t',os⟩):
 codeAny (MB x.B) A (loopOf (pS x) (.ref it) (lawE x F)) R ⟨h,gl,d,t,os⟩:=by
 refine code_tree ?_
 with_reducible refine seg_valD (by with_unfolding_all exact hh) Rp [] 27 (dA 0x60861c6186046) (dM 4) (Fin.again (.block [] (lawE x F))) [] [.u fun _=>oI "list_iterator" #[.none,.int 2 0]] 2 0 ?_
 intro Tb1 h1 N1 t1 Rp
 refine⟨rfl,code_tree ?_⟩
 with_reducible refine seg_valD (by with_unfolding_all exact hh) Rp [] 11 (dA 0x0) [] (Fin.done Flow.next) [] [.d] 0 0 ?_
 intro Tb2 h2 N2 t2 Rp
 exact K _ _ _ Rp
theorem G.Pic.pull{g:G}{P:Nat→Int}{cs:List Clr}{pre T T2:Cells}(h:g.Pic P cs T)(p:T.Perm (pre++T2))(n:NoTup pre):g.Pic P cs T2:=
 ⟨h.len,fun i hi=>let⟨c,a,b,d⟩:=h.at' i hi;⟨c,a,b,pull_mem p n rfl d⟩⟩
theorem p_loop(bb tw:Bool)(x:W2)(A:Around)(hh:A.handled=none)(hA:A.depth<380)(R:Result→Shared→Prop)(g:G)(w:Int)(hw:g.Wheel w)(ha:Quart g.a)(hv:Quart g.v)(F it sg:Addr)(n0:Nat)(p1 p2 m1 m2:Nat)(P1 P2:Nat→Int)(cs1 cs2:List Clr)(p up:Nat)(hp:p<5)(ce:Int)(uc:Nat)(hce:0≤ce)(cn:Int)(un:Nat)(hcn:-9≤cn∧cn≤9)
 (k kr:Nat) (vr:Value) (kc kt ko ke:Nat) (vt vo ve:Value) (tl:List DictEntry) (pp:Option Value) (N t:Nat) (h:Heap) (gl d os) (T:Cells) (hP1:g.Pic P1 cs1 T) (hP2:g.Pic P2 cs2 T)
 (Rp:Rep x.B N h ((it,ListIt sg ((0:Nat):Int))::(sg,Lst #[.ref p1,.ref p2] n0)::(p1,Lst (refsOf cs1) m1)::(F,g.fr bb x (En x.B n_strings k (.ref sg)::En x.B n_row kr vr::En x.B n_count kc (.int cn un)::tlP x tw kt vt ko vo ke ve tl))::(F+1,oC (some (.int (p:Int) up)))::g.c F ((F+5,oC pp)::(F+8,oC (some (.int ce uc)))::(p2,Lst (refsOf cs2) m2)::T)) 0)
 (K:∀h' N' t' cs1 cs2 m1 m2 T' kt vt ko vo ke ve,g.Pic (twP g.n cn p P1) cs1 T'→g.Pic (twP g.n cn p P2) cs2 T'→(∀z∈T,z∈T')→Rep x.B N' h' ((sg,Lst #[.ref p1,.ref p2] n0)::(p2,Lst (refsOf cs2) m2)::(F,g.fr bb x (En x.B n_strings k (.ref sg)::En x.B n_row kr vr::En x.B n_count kc (.int cn un)::tlP x true kt vt ko vo ke ve (cond tw tl [])))::(F+1,oC (some (.int (p:Int) up)))::g.c F ((F+5,oC (some (.ref p2)))::(F+8,oC (some (.int ce uc)))::(p1,Lst (refsOf cs1) m1)::T')) 0→R (.ok .next) ⟨h',gl,d,t',os⟩):
 codeAny (MB x.B) A (loopOf (pS x) (.ref it) (lawE x F)) R ⟨h,gl,d,t,os⟩:=by
 refine pt_turn bb tw x A hh hA R g w hw ha hv F it sg p1 _ 0 n0 m1 rfl P1 cs1 p up hp ce uc hce cn un hcn k kr vr kc kt ko ke vt vo ve tl pp N t h gl d os _ (hP1.mono fun z m=>.tail _ m) Rp fun h' N' t' cs1' m1' T1 kt vt ko vo ke ve hP1 hs Rp1=>?_
 obtain⟨T2,hp2,Rp1,hs2⟩:=Rep.keep [_,_,_,_,_,_,_,_,_,_] [(p2,Lst (refsOf cs2) m2)] [_,_,_,_,_,_,_,_,_,_] Rp hs Rp1
 have n2:NoTup [(p2,Lst (refsOf cs2) m2)]:=NoTup.cons (c:="list") rfl (by decide) NoTup.nil
 have Rp2:=(Rp1.mov 2 10).mov 9 2
 refine pt_turn bb true x A hh hA R g w hw ha hv F it sg p2 _ 1 n0 m2 rfl P2 cs2 p up hp ce uc hce cn un hcn k kr vr kc kt ko ke vt vo ve (cond tw tl []) _ N' t' h' gl d os ((p1,Lst (refsOf cs1') m1')::T2) (hP2.mono fun z m=>.tail _ (hs2 z m)) Rp2 fun h3 N3 t3 cs2' m2' T3 kt vt ko vo ke ve hP2 hs3 Rp3=>?_
 obtain⟨T4,hp4,Rp3,hs4⟩:=Rep.keep [_,_,_,_,_,_,_,_,_,_] [(p1,Lst (refsOf cs1') m1')] [_,_,_,_,_,_,_,_,_,_] Rp2 hs3 Rp3
 have n4:NoTup [(p1,Lst (refsOf cs1') m1')]:=NoTup.cons (c:="list") rfl (by decide) NoTup.nil
 refine p_end x A hh R F it sg p1 p2 n0 _ _ _ _ _ _ _ Rp3 fun h5 N5 t5 Rp=>?_
 exact K _ _ _ cs1' cs2' m1' m2' T4 kt vt ko vo ke ve ((hP1.pull hp2 n2).mono hs4) (hP2.pull hp4 n4) (fun z m=>hs4 z (hs2 z m)) Rp
theorem r_end(x:W2)(A:Around)(hh:A.handled=none)(R:Result→Shared→Prop)(F it nd:Addr)(s:Nat)(ks us:Nat→Nat)(N t:Nat)(h:Heap)(gl d os)(rest:Cells)
 (Rp:Rep x.B N h ((it,KIt nd ((5:Nat):Int))::(nd,namesO x.B s ks us 5)::rest) 0)
 (K:∀h' N' t',Rep x.B N' h' ((nd,namesO x.B s ks us 5)::rest) 0→R (.ok .next) ⟨h',gl,d,t',os⟩):
 codeAny (MB x.B) A (loopOf (rS x) (.ref it) (lawE x F)) R ⟨h,gl,d,t,os⟩:=by
 refine code_tree ?_
 with_reducible refine seg_valD (by with_unfolding_all exact hh) Rp [] 28 (dA 0x60861871c6186046) (dM 4) (Fin.again (.block [] (lawE x F))) [] [.u fun _=>oI "dict_keyiterator" #[.none,.int 5 0,.int 5 0,.int 5 0]] 2 0 ?_
 intro Tb1 h1 N1 t1 Rp
 refine⟨rfl,code_tree ?_⟩
 with_reducible refine seg_valD (by with_unfolding_all exact hh) Rp [] 11 (dA 0x0) [] (Fin.done Flow.next) [] [.d] 0 0 ?_
 intro Tb2 h2 N2 t2 Rp
 exact K _ _ _ Rp
theorem WOk.bd{q w:Int}{r:Nat}{v:Option Int}(h:WOk q r w v):∀y,v=some y→-(q*q+1)<y∧y<q*q+1:=by
 intro y e
 subst e
 exact h.2
theorem r_loop(bb:Bool)(ph:Ph)(x:W2)(A:Around)(hh:A.handled=none)(hA:A.depth<380)(R:Result→Shared→Prop)(g:G)(hs:g.s<4)(hq:1000<g.q)(hq2:g.q≤2^30)(hm:g.m=g.q*g.q+1)(F it nd l o D:Addr)(full:List Ent)(hne:full≠[])(hl:full.length<75)(Tf:Nat→Option Int)(hT:TabIs full Tf)(W:Nat→Int)(hW:∀i,i<5→WOk g.q i (W i) (Tf i))
 (n kl0:Nat) (ks us:Nat→Nat) (p up:Nat) (hp:p<5) (ce:Int) (uc:Nat) (hce:0≤ce) (cn:Int) (un:Nat) (hcn:-9≤cn∧cn≤9)
 (k kr kc kt ko ke kw kh kl kd:Nat) (vr vt vo ve vw vh vl vd:Value) (sg:Addr) (N t:Nat) (h:Heap) (gl:Array GenState) (hgb:AllBare gl) (d os) (T:Cells) (hE:EsOk g.s full T)
 (Rp:Rep x.B N h ((it,KIt nd ((0:Nat):Int))::(nd,namesO x.B g.s ks us 5)::(l,Lst (itemsOf full) n)::(o,HdO D)::(D,HdD x kl0 l)::(F,frT bb x g k sg kr vr kc cn un kt vt ko vo ke ve (tlR x ph kw vw kh vh kl vl kd vd))::(F+1,oC (some (.int (p:Int) up)))::(F+6,oC (some (.ref nd)))::(F+7,oC (some (.ref o)))::(F+8,oC (some (.int ce uc)))::T) 0)
 (K:∀h' N' t' gl' full' n' T' kr vr al kw vw kh vh kl vl kd vd,AllBare gl'→full'≠[]→full'.length≤full.length+10→EsOk g.s full' T'→(∀z∈T,z∈T')→TabIs full' (twT g.q cn (mdOf g ce) p Tf)→Rep x.B N' h' ((nd,namesO x.B g.s ks us 5)::(l,Lst (itemsOf full') n')::(o,HdO D)::(D,HdD x kl0 l)::(F,frT bb x g k sg kr vr kc cn un kt vt ko vo ke ve (tlR x (phB al) kw vw kh vh kl vl kd vd))::(F+1,oC (some (.int (p:Int) up)))::(F+6,oC (some (.ref nd)))::(F+7,oC (some (.ref o)))::(F+8,oC (some (.int ce uc)))::T') 0→R (.ok .next) ⟨h',gl',d,t',os⟩):
 codeAny (MB x.B) A (loopOf (rS x) (.ref it) (lawE x F)) R ⟨h,gl,d,t,os⟩:=by
 have hmd:mdOf g ce=g.q*g.q+1∨mdOf g ce= -(g.q*g.q+1):=by unfold mdOf;split<;>omega
 have bd:∀{T:Nat→Option Int} {W:Nat→Int},(∀i,i<5→WOk g.q i (W i) (T i))→∀i v,i<5→T i=some v→-g.m<v∧v<g.m:=fun h i v hi e=>by rw[hm];exact(h i hi).bd v e
 have W1:=row_ok (k:=cn) (by exact zqas hq) hmd hp (show 0<5 by decide) hW
 have W2:=row_ok (k:=cn) (by exact zqas hq) hmd hp (show 1<5 by decide) W1
 have W3:=row_ok (k:=cn) (by exact zqas hq) hmd hp (show 2<5 by decide) W2
 have W4:=row_ok (k:=cn) (by exact zqas hq) hmd hp (show 3<5 by decide) W3
 refine r_turn bb ph x A hh hA R g hs hq hq2 hm F it nd l o D full hne (by omega) Tf hT (bd hW) n kl0 ks us 0 p up (by decide) hp ce uc hce cn un hcn k kr kc kt ko ke kw kh kl kd vr vt vo ve vw vh vl vd sg N t h gl hgb d os T hE Rp fun h' N' t' gl full1 n1 T1 kr al kw vw kh vh kl vl kd vd hgb hne hl1 hE hs1 hT Rp=>?_
 refine r_turn bb (phB al) x A hh hA R g hs hq hq2 hm F it nd l o D full1 hne (by omega) _ hT (bd W1) n1 kl0 ks us 1 p up (by decide) hp ce uc hce cn un hcn k kr kc kt ko ke kw kh kl kd _ vt vo ve vw vh vl vd sg N' t' h' gl hgb d os T1 hE Rp fun h' N' t' gl full2 n2 T2 kr al kw vw kh vh kl vl kd vd hgb hne hl2 hE hs2 hT Rp=>?_
 refine r_turn bb (phB al) x A hh hA R g hs hq hq2 hm F it nd l o D full2 hne (by omega) _ hT (bd W2) n2 kl0 ks us 2 p up (by decide) hp ce uc hce cn un hcn k kr kc kt ko ke kw kh kl kd _ vt vo ve vw vh vl vd sg N' t' h' gl hgb d os T2 hE Rp fun h' N' t' gl full3 n3 T3 kr al kw vw kh vh kl vl kd vd hgb hne hl3 hE hs3 hT Rp=>?_
 refine r_turn bb (phB al) x A hh hA R g hs hq hq2 hm F it nd l o D full3 hne (by exact zqgU hl hl1 hl2 hl3) _ hT (bd W3) n3 kl0 ks us 3 p up (by decide) hp ce uc hce cn un hcn k kr kc kt ko ke kw kh kl kd _ vt vo ve vw vh vl vd sg N' t' h' gl hgb d os T3 hE Rp fun h' N' t' gl full4 n4 T4 kr al kw vw kh vh kl vl kd vd hgb hne hl4 hE hs4 hT Rp=>?_
 refine r_turn bb (phB al) x A hh hA R g hs hq hq2 hm F it nd l o D full4 hne (by exact zqgV hl hl1 hl2 hl3 hl4) _ hT (bd W4) n4 kl0 ks us 4 p up (by decide) hp ce uc hce cn un hcn k kr kc kt ko ke kw kh kl kd _ vt vo ve vw vh vl vd sg N' t' h' gl hgb d os T4 hE Rp fun h' N' t' gl full5 n5 T5 kr al kw vw kh vh kl vl kd vd hgb hne hl5 hE hs5 hT Rp=>?_
 refine r_end x A hh R F it nd g.s ks us N' t' h' gl d os _ Rp fun h' N' t' Rp=>?_
 exact K h' N' t' gl full5 n5 T5 kr _ al kw vw kh vh kl vl kd vd hgb hne (by omega) hE (fun z m=>hs5 z (hs4 z (hs3 z (hs2 z (hs1 z m))))) hT Rp
noncomputable abbrev tlC(x:W2)(ph:Option Bool)(kc:Nat)(cn:Int)(un kt:Nat)(vt:Value)(ko:Nat)(vo:Value)(ke:Nat)(ve:Value)(kw:Nat)(vw:Value)(kh:Nat)(vh:Value)(kl:Nat)(vl:Value)(kd:Nat)(vd:Value):List DictEntry:=match ph with
 |none=>[]
 |some al=>En x.B n_count kc (.int cn un)::tlP x true kt vt ko vo ke ve (tlR x (phB al) kw vw kh vh kl vl kd vd)
theorem c_turn(bb:Bool)(ph:Option Bool)(x:W2)(A:Around)(hh:A.handled=none)(hA:A.depth<380)(R:Result→Shared→Prop)(g:G)(w:Int)(hw:g.Wheel w)(ha:Quart g.a)(hv:Quart g.v)(hs:g.s<4)(hq:1000<g.q)(hq2:g.q≤2^30)(hm:g.m=g.q*g.q+1)(F it yl:Addr)(ys:Array Value)(ny j:Nat)(ce:Int)(uc:Nat)(hj:ys[j]? =some (.int ce uc))(hce:0≤ce)(sg nd l o D:Addr)(n0 p1 p2 m1 m2 n kl0:Nat)(ks us:Nat→Nat)(P1 P2:Nat→Int)(cs1 cs2:List Clr)
 (full:List Ent) (hne:full≠[]) (hl:full.length<75) (Tf:Nat→Option Int) (hT:TabIs full Tf) (W:Nat→Int) (hW:∀i,i<5→WOk g.q i (W i) (Tf i))
 (k kr kc kt ko ke kw kh kl kd un:Nat) (cn:Int) (vr vt vo ve vw vh vl vd:Value) (pl pp oc:Option Value) (N t:Nat) (h:Heap) (gl:Array GenState) (hgb:AllBare gl) (d os) (T:Cells) (hE:EsOk g.s full T) (hP1:g.Pic P1 cs1 T) (hP2:g.Pic P2 cs2 T)
 (Rp:Rep x.B N h ((it,ListIt yl (j:Int))::(yl,Lst ys ny)::(sg,Lst #[.ref p1,.ref p2] n0)::(p1,Lst (refsOf cs1) m1)::(p2,Lst (refsOf cs2) m2)::(F,g.fr bb x (En x.B n_strings k (.ref sg)::En x.B n_row kr vr::tlC x ph kc cn un kt vt ko vo ke ve kw vw kh vh kl vl kd vd))::(F+1,oC pl)::g.c F ((F+5,oC pp)::(F+6,oC (some (.ref nd)))::(F+7,oC (some (.ref o)))::(F+8,oC oc)::(nd,namesO x.B g.s ks us 5)::(l,Lst (itemsOf full) n)::(o,HdO D)::(D,HdD x kl0 l)::T)) 0)
 (K:∀h' N' t' gl' full' n T' cs1 cs2 m1 m2 kr kc kt ko ke kw kh kl kd un cn' vr vt vo ve vw vh vl vd ph pl pp oc,cn'=ce/5%19-9→AllBare gl'→full'≠[]→full'.length≤full.length+10→TabIs full' (twT g.q cn' (mdOf g ce) (ce%5).toNat Tf)→EsOk g.s full' T'→g.Pic (twP g.n cn' (ce%5).toNat P1) cs1 T'→g.Pic (twP g.n cn' (ce%5).toNat P2) cs2 T'→Rep x.B N' h' ((it,ListIt yl ((j+1:Nat):Int))::(yl,Lst ys ny)::(sg,Lst #[.ref p1,.ref p2] n0)::(p1,Lst (refsOf cs1) m1)::(p2,Lst (refsOf cs2) m2)::(F,g.fr bb x (En x.B n_strings k (.ref sg)::En x.B n_row kr vr::tlC x (some ph) kc cn' un kt vt ko vo ke ve kw vw kh vh kl vl kd vd))::(F+1,oC pl)::g.c F ((F+5,oC pp)::(F+6,oC (some (.ref nd)))::(F+7,oC (some (.ref o)))::(F+8,oC oc)::(nd,namesO x.B g.s ks us 5)::(l,Lst (itemsOf full') n)::(o,HdO D)::(D,HdD x kl0 l)::T')) 0→codeAny (MB x.B) A (loopOf (stmtAt x.B 288 11) (.ref it) (lawE x F)) R ⟨h',gl',d,t',os⟩):
 codeAny (MB x.B) A (loopOf (stmtAt x.B 288 11) (.ref it) (lawE x F)) R ⟨h,gl,d,t,os⟩:=by
 let sb:=bb
 let sb2:=ph;cases bb<;>rcases ph with _|_|_
 all_goals
  obtain⟨nd,rfl⟩:=Nat.exists_eq_add_of_le' (show 290≤nd from(Rp.cells _ (nth_mem (n:=14) rfl)).2)
  obtain⟨p,hp,hp5⟩:∃p:Nat,ce%5=p∧p<5:=⟨(ce%5).toNat,by exact zqgW,by exact zqcs⟩
  obtain⟨e1,he1⟩:∃z,ce/5=z:=⟨_,rfl⟩
  obtain⟨e2,he2⟩:∃z,ce/5%19=z:=⟨_,rfl⟩
  have hc9:-9≤e2-9∧e2-9≤9:=by exact zqgX he2
  refine code_tree ?_
  with_reducible refine seg_callD (by with_unfolding_all exact hh) Rp [] 13 (dA 0x6) [] (cB "list_iterator.__next__" [.ref it]) [] [] 0 0 ?_
  intro Tb1 h1 N1 t1 Rp kk1
  refine li_next Rp 0 1 rfl rfl hj rfl fun hn1 Rp=>?_
  try dsimp only[setN] at Rp
  refine seg_callD hh Rp [aI "int.__mod__" [.int (ce) uc,.int 5 (t1+0)] ((p:Int)),aI "int.__floordiv__" [.int (ce) uc,.int 5 (t1+2)] (e1),aI "int.__mod__" [.int (e1) (t1+3),.int 19 (t1+4)] (e2)] 109 (dA 0x630130c3cb3cc4060861c61860460861c61860460861c61860461860461860440d30933d3) (dM 33) (loopOf (pS x) (.ref (N1+4)) (lawE x F)) [(N1+4,oI "list_iterator" #[.ref sg,.int 0 0])] [.k,.k,.k,.k,.k,.u (dW [En x.B n_count (t1+8) (.int (e2-9) (t1+7))]),.u fun _=>oC (some (.int ((↑p:Int)) (t1+1))),.k,.k,.k,.k,.k,.k,.u fun _=>oC (some (.int (ce) uc))] 5 9 ?_ (aC (fun _ _ _ _ _ _ _ K=>i_mod (B:=x.B) (i:=(ce)) (j:=(5)) (c:=(p:Int)) (by decide) (by rw[Int.fmod_eq_emod_of_nonneg _ (by decide)];omega) K) (aC (fun _ _ _ _ _ _ _ K=>i_fdiv (B:=x.B) (i:=(ce)) (j:=(5)) (c:=e1) (by decide) (by first|assumption|decide|rfl) (by first|assumption|(rw[Int.fdiv_eq_ediv_of_nonneg _ (by decide)];omega)) K) (aC (fun _ _ _ _ _ _ _ K=>i_mod (B:=x.B) (i:=(e1)) (j:=(19)) (c:=e2) (by decide) (by rw[Int.fmod_eq_emod_of_nonneg _ (by decide)];exact zqgY he1 he2) K) aN)))
  intro Tb2 h2 N2 t2 Rp kk2
  have Rp:=(((Rp.mov 14 12).mov 5 12).mov 1 12).mov 1 12
  refine p_loop sb (match sb2 with|none=>false|some _=>true) x (A.under _) hh (by show A.depth+0<380;exact zqel hA) _ g w hw ha hv F (N1+4) sg n0 p1 p2 m1 m2 P1 P2 cs1 cs2 p _ hp5 ce uc hce (e2-9) _ hc9 k kr vr _ kt ko ke vt vo ve (match sb2 with|none=>[]|some q=>tlR x (phB q) kw vw kh vh kl vl kd vd) pp _ _ _ _ _ _ _ (hP1.mono fun z m=>List.mem_append_right [_,_,_,_,_,_,_,_] m) (hP2.mono fun z m=>List.mem_append_right [_,_,_,_,_,_,_,_] m) Rp fun h2 N2 t2 cs1' cs2' m1' m2' T1 kt vt ko vo ke ve hP1 hP2 hs1 Rp1=>?_
  obtain⟨T2,q2,Rp,hs2⟩:=Rep.keep [_,_,_,_,_,_,_,_,_,_,_] [(it,ListIt yl ((j+1:Nat):Int)),(yl,Lst ys ny),(F+6,oC (some (.ref (nd+290)))),(F+7,oC (some (.ref o))),(nd+290,namesO x.B g.s ks us 5),(l,Lst (itemsOf full) n),(o,HdO D),(D,HdD x kl0 l)] [_,_,_,_,_,_,_,_,_,_] Rp hs1 Rp1
  dsimp only[List.cons_append,List.nil_append] at Rp
  have n2:NoTup [(it,ListIt yl ((j+1:Nat):Int)),(yl,Lst ys ny),(F+6,oC (some (.ref (nd+290)))),(F+7,oC (some (.ref o))),(nd+290,namesO x.B g.s ks us 5),(l,Lst (itemsOf full) n),(o,HdO D),(D,HdD x kl0 l)]:=
   .cons (c:="list_iterator") rfl (by decide) (.cons (c:="list") rfl (by decide) (.cons (c:="cell") rfl (by decide) (.cons (c:="cell") rfl (by decide) (.cons (c:="dict") rfl (by decide) (.cons (c:="list") rfl (by decide) (.consR (c:=255) rfl (.cons (c:="dict") rfl (by decide) .nil)))))))
  have hP1:=hP1.pull q2 n2
  have hP2:=hP2.pull q2 n2
  show wpAny ..
  with_reducible refine seg_callD (by with_unfolding_all exact hh) Rp [] 27 (dA 0x6514514054512) (dM 3) (loopOf (rS x) (.ref (N2+0)) (lawE x F)) [(N2+0,oI "dict_keyiterator" #[.ref (nd+290),.int 0 0,.int 5 0,.int 5 0])] [] 1 0 ?_
  intro Tb3 h3 N3 t3 Rp kk3
  have Rp:=((((((((((Rp.mov 15 1).mov 16 2).mov 17 3).mov 18 4).mov 7 5).mov 8 6).mov 17 7).mov 18 8).mov 15 9).mov 16 11)
  refine r_loop sb (match sb2 with|none=>.no|some q=>phB q) x (A.under _) hh (by show A.depth+0<380;exact zqel hA) _ g hs hq hq2 hm F _ (nd+290) l o D full hne hl Tf hT W hW n kl0 ks us p _ hp5 ce uc hce (e2-9) _ hc9 k _ _ kt ko ke kw kh kl kd _ vt vo ve vw vh vl vd sg _ _ _ gl hgb d os _ ((hE.mono hs2).mono fun z m=>List.mem_append_right [_,_,_,_,_,_,_,_,_] m) Rp fun h5 N5 t5 gl' full' n' T3 kr vr ph' kw vw kh vh kl vl kd vd hgb hne hl hE hs3 hT Rp1=>?_
  obtain⟨T4,q4,Rp,hs4⟩:=Rep.keep [_,_,_,_,_,_,_,_,_,_] [(sg,Lst #[.ref p1,.ref p2] n0),(p1,Lst (refsOf cs1') m1'),(p2,Lst (refsOf cs2') m2'),(F+2,oC (some (.int g.n g.un))),(F+3,oC (some (.float (fl (g.a*2^22)) g.ua))),(F+4,oC (some (.float (fl (g.v*2^22)) g.uv))),(F+5,oC (some (.ref p2))),(it,ListIt yl ((j+1:Nat):Int)),(yl,Lst ys ny)] [_,_,_,_,_,_,_,_,_] Rp hs3 Rp1
  dsimp only[List.cons_append,List.nil_append] at Rp
  have n4:NoTup [(sg,Lst #[.ref p1,.ref p2] n0),(p1,Lst (refsOf cs1') m1'),(p2,Lst (refsOf cs2') m2'),(F+2,oC (some (.int g.n g.un))),(F+3,oC (some (.float (fl (g.a*2^22)) g.ua))),(F+4,oC (some (.float (fl (g.v*2^22)) g.uv))),(F+5,oC (some (.ref p2))),(it,ListIt yl ((j+1:Nat):Int)),(yl,Lst ys ny)]:=
   .cons (c:="list") rfl (by decide) (.cons (c:="list") rfl (by decide) (.cons (c:="list") rfl (by decide) (.cons (c:="cell") rfl (by decide) (.cons (c:="cell") rfl (by decide) (.cons (c:="cell") rfl (by decide) (.cons (c:="cell") rfl (by decide) (.cons (c:="list_iterator") rfl (by decide) (.cons (c:="list") rfl (by decide) .nil))))))))
  have hE:EsOk g.s full' T4:=fun e m=>⟨(hE e m).1,pull_mem q4 n4 rfl (hE e m).2⟩
  show wpAny ..
  with_reducible refine seg_valD (by with_unfolding_all exact hh) Rp [] 11 (dA 0x0) [] (Fin.again (loopOf (stmtAt x.B 288 11) (.ref it) (lawE x F))) [] [] 0 0 ?_
  intro Tb4 h4 N4 t4 Rp
  have Rp:=((((((((((((((Rp.mov 0 17).mov 0 17).mov 0 17).mov 0 17).mov 12 0).mov 13 1).mov 7 2).mov 8 3).mov 9 4).mov 7 13).mov 7 13).mov 7 13)))
  have ep:(ce%5).toNat=p:=by omega
  exact⟨rfl,K _ _ _ gl' full' n' T4 cs1' cs2' m1' m2' kr _ kt ko ke kw kh kl kd _ (e2-9) vr vt vo ve vw vh vl vd ph' _ _ _ (by rw[he2]) hgb hne hl (by rw[ep];exact hT) hE (by rw[ep];exact hP1.mono hs4) (by rw[ep];exact hP2.mono hs4) Rp⟩
end Mine
namespace Mine
noncomputable def Five.norm(w:Five):Nat:=w.w0.natAbs+w.w1.natAbs+w.w2.natAbs+w.w3.natAbs+w.w4.natAbs
theorem na3(a k b c:Int):(a+k*b+k*c).natAbs≤a.natAbs+k.natAbs*b.natAbs+k.natAbs*c.natAbs:=by
 have h1:=Int.natAbs_add_le (a+k*b) (k*c)
 have h2:=Int.natAbs_add_le a (k*b)
 rw[Int.natAbs_mul] at h1 h2
 omega
theorem na2(a k b:Int):(a+ -k*b).natAbs≤a.natAbs+k.natAbs*b.natAbs:=by
 have h2:=Int.natAbs_add_le a (-k*b)
 rw[Int.natAbs_mul,Int.natAbs_neg] at h2
 exact h2
theorem Five.norm_tw(w:Five)(p:Nat)(hp:p<5)(k:Int)(hk:k.natAbs≤9):(w.tw p k).norm≤10*w.norm:=by
 obtain⟨w0,w1,w2,w3,w4⟩:=w
 have z:∀x:Int,k.natAbs*x.natAbs≤9*x.natAbs:=fun x=>Nat.mul_le_mul_right _ hk
 have z0:=z w0
 have z1:=z w1
 have z2:=z w2
 have z3:=z w3
 have z4:=z w4
 rcases(by exact zqae hp:p=0∨p=1∨p=2∨p=3∨p=4) with rfl|rfl|rfl|rfl|rfl<;>simp only[Five.tw,Five.norm]
 ·have h1:=na3 w0 k w1 w4
  have h2:=na2 w2 k w3
  omega
 ·have h1:=na3 w3 k w2 w4
  have h2:=na2 w1 k w0
  omega
 ·have h1:=na3 w0 k w1 w2
  have h2:=na2 w4 k w3
  omega
 ·have h1:=na3 w3 k w1 w4
  have h2:=na2 w2 k w0
  omega
 ·have h1:=na3 w0 k w2 w4
  have h2:=na2 w1 k w3
  omega
noncomputable def cent(m v:Int):Int:=if 2*(v%m)>m then v%m-m else v%m
theorem cent_is{m v Z a:Int}(hm:200000<m)(hZ:Z.natAbs≤100000)(h:v=Z+m*a):cent m v=Z:=by
 have e:v%m=Z%m:=by rw[h];exact Int.add_mul_emod_self_left ..
 unfold cent
 rw[e]
 rcases Int.lt_or_le Z 0 with c|c
 ·have:Z%m=Z+m:=by
   rw[←Int.add_emod_right]
   exact Int.emod_eq_of_lt (by omega) (by omega)
  rw[this]
  split<;>omega
 ·have:Z%m=Z:=Int.emod_eq_of_lt c (by omega)
  rw[this]
  split<;>omega
noncomputable def due(f s:Nat→Int)(a b c d:Nat):Int:=(f a-f b)*(s c-s d)- (s a-s b)*(f c-f d)
theorem minor{n l r x y x' y' a b a' b' D E D' E' Z:Int}(h1:D=l*x+n*a)(h2:E=r*y+n*b)(h3:D'=l*x'+n*a')(h4:E'=r*y'+n*b')(h:x*y'-y*x'=Z):
 (Z*l*r- (D*E'-E*D'))%n=0:=by
 subst h1 h2 h3 h4 h
 refine Int.emod_eq_zero_of_dvd ⟨-(l*x*b'+a*r*y'+n*a*b'- (r*y*a'+b*l*x'+n*b*a')),?_⟩
 grind
structure Close (n q l r:Int) (v:Nat→Int) (f s:Nat→Int):Prop where
 c1:(cent (q*q+1) (-1*v 3)*l*r-due f s 0 1 4 5)%n=0
 c2:(cent (q*q+1) (-1*v 0)*l*r-due f s 1 2 3 4)%n=0
 c3:(cent (q*q+1) (-q*(v 2+v 4))*l*r-due f s 1 2 4 5)%n=0
 c4:(cent (q*q+1) (-q*(v 1+v 4))*l*r-due f s 3 4 0 1)%n=0
 c5:(cent (q*q+1) (-q*(v 1+v 2))*l*r-due f s 2 3 1 4)%n=0
theorem cz1{q w t v:Int}(h:v=1*w+(q*q+1)*t):-1*v= -w+(q*q+1)* -t:=by grind
theorem cz2{q w t v w' t' v':Int}(h:v=q*w+(q*q+1)*t)(h':v'=q*w'+(q*q+1)*t'):-q*(v+v')=(w+w')+(q*q+1)*(-(w+w')-q*(t+t')):=by grind
theorem sum3{n l D D' D'' x x' x'' a a' a'':Int}(h:D=l*x+n*a)(h':D'=l*x'+n*a')(h'':D''=l*x''+n*a''):D+D'+D''=l*(x+x'+x'')+n*(a+a'+a''):=by grind
theorem Bal.close{x y:Six}{w:Five}(h:Bal x y w):x.x0*y.x4-y.x0*x.x4= -w.w3∧x.x1*y.x3-y.x1*x.x3= -w.w0∧x.x1*y.x4-y.x1*x.x4=w.w2+w.w4∧x.x3*y.x0-y.x3*x.x0=w.w1+w.w4∧x.x2*(y.x1+y.x2+y.x3)-y.x2*(x.x1+x.x2+x.x3)=w.w1+w.w2:=by
 obtain⟨sx,sy,m01,m02,m03,m12,m13,m23⟩:=h
 refine⟨?_,m13,?_,?_,?_⟩<;>grind
theorem close_ok{n q l r:Int}{T:Nat→Option Int}{f s:Nat→Int}{x y:Six}{w:Five}(hq:1000<q)(hb:Bal x y w)(hf:ColOk n l f x)(hs:ColOk n r s y)(hT:∀i,i<5→WOk q i (w.at i) (T i))(hn:w.norm≤100000):
 Close n q l r (fun i=>(T i).getD 0) f s:=by
 have hm:200000<q*q+1:=by
  have:=Int.mul_le_mul (show 1000≤q by exact zqaY hq) (show 1000≤q by exact zqaY hq) (by decide) (by exact zqba hq)
  omega
 obtain⟨e1,e2,e3,e4,e5⟩:=hb.close
 unfold Five.norm at hn
 obtain⟨a0,f0⟩:=hf 0 (by decide)
 obtain⟨a1,f1⟩:=hf 1 (by decide)
 obtain⟨a2,f2⟩:=hf 2 (by decide)
 obtain⟨a3,f3⟩:=hf 3 (by decide)
 obtain⟨a4,f4⟩:=hf 4 (by decide)
 obtain⟨b0,s0⟩:=hs 0 (by decide)
 obtain⟨b1,s1⟩:=hs 1 (by decide)
 obtain⟨b2,s2⟩:=hs 2 (by decide)
 obtain⟨b3,s3⟩:=hs 3 (by decide)
 obtain⟨b4,s4⟩:=hs 4 (by decide)
 obtain⟨t0,h0⟩:=(hT 0 (by decide)).getD
 obtain⟨t1,h1⟩:=(hT 1 (by decide)).getD
 obtain⟨t2,h2⟩:=(hT 2 (by decide)).getD
 obtain⟨t3,h3⟩:=(hT 3 (by decide)).getD
 obtain⟨t4,h4⟩:=(hT 4 (by decide)).getD
 refine⟨?_,?_,?_,?_,?_⟩
 ·rw[cent_is (Z:=-w.w3) hm (by exact zqgZ hn) (cz1 h3)]
  exact minor f0 s0 f4 s4 e1
 ·rw[cent_is (Z:=-w.w0) hm (by exact zqha hn) (cz1 h0)]
  exact minor f1 s1 f3 s3 e2
 ·rw[cent_is (Z:=w.w2+w.w4) hm (by exact zqhb hn) (cz2 h2 h4)]
  exact minor f1 s1 f4 s4 e3
 ·rw[cent_is (Z:=w.w1+w.w4) hm (by exact zqhc hn) (cz2 h1 h4)]
  exact minor f3 s3 f0 s0 e4
 ·rw[cent_is (Z:=w.w1+w.w2) hm (by exact zqhd hn) (cz2 h1 h2)]
  have k1:f 1-f 4=(f 1-f 2)+(f 2-f 3)+(f 3-f 4):=by exact zqem
  have k2:s 1-s 4=(s 1-s 2)+(s 2-s 3)+(s 3-s 4):=by exact zqem
  unfold due
  rw[k1,k2]
  exact minor f2 s2 (sum3 f1 f2 f3) (sum3 s1 s2 s3) e5
end Mine
namespace Mine
open PySem PySem.W PySem.W.X PyProof.Rows PySem.Spec PySem.Calls
noncomputable def LInv(g:G)(P1 P2:Nat→Int)(Tf:Nat→Option Int)(i:Nat):Prop:=
 ∃(x y:Six) (w:Five),ColOk g.n g.l P1 x∧ColOk g.n g.r P2 y∧Bal x y w∧(∀i,i<5→WOk g.q i (w.at i) (Tf i))∧w.norm≤10^i
theorem LInv.step{g:G}{P1 P2:Nat→Int}{Tf:Nat→Option Int}{i:Nat}(h:LInv g P1 P2 Tf i)(hq:0<g.q){md:Int}(hmd:md=g.q*g.q+1∨md= -(g.q*g.q+1)){p:Nat}(hp:p<5){k:Int}(hk:k.natAbs≤9):LInv g (twP g.n k p P1) (twP g.n k p P2) (twT g.q k md p Tf) (i+1):=by
 obtain⟨x,y,w,a,b,c,e,f⟩:=h
 refine⟨x.tw p k,y.tw p k,w.tw p k,a.tw p hp k,b.tw p hp k,c.tw p hp k,tw_T hq hmd hp e,?_⟩
 have:=w.norm_tw p hp k hk
 rw[Nat.pow_succ]
 omega
theorem c_end(x:W2)(A:Around)(hh:A.handled=none)(R:Result→Shared→Prop)(F it l:Addr)(items:Array Value)(n j:Nat)(hj:items[j]? =none)(N t:Nat)(h:Heap)(gl d os)(rest:Cells)
 (Rp:Rep x.B N h ((it,ListIt l (j:Int))::(l,Lst items n)::rest) 0)
 (K:∀h' N' t',Rep x.B N' h' rest 0→R (.ok .next) ⟨h',gl,d,t',os⟩):
 codeAny (MB x.B) A (loopOf (stmtAt x.B 288 11) (.ref it) (lawE x F)) R ⟨h,gl,d,t,os⟩:=by
 refine code_tree ?_
 with_reducible refine seg_callD (by with_unfolding_all exact hh) Rp [] 13 (dA 0x6) [] (cB "list_iterator.__next__" [.ref it]) [] [] 0 0 ?_
 intro Tb1 h1 N1 t1 Rp kk1
 refine li_end hh Rp 0 1 rfl rfl hj rfl fun h2 N2 a2 e2 Rp=>?_
 with_reducible refine seg_valD (by with_unfolding_all exact hh) Rp [] 12 (dA 0x6) [] (Fin.again (.block [] (lawE x F))) [] [] 0 0 ?_
 intro Tb3 h3 N3 t3 Rp
 refine⟨rfl,code_tree ?_⟩
 with_reducible refine seg_valD (by with_unfolding_all exact hh) Rp [] 11 (dA 0x0) [] (Fin.done Flow.next) [] [.d,.d,.d,.d] 0 0 ?_
 intro Tb4 h4 N4 t4 Rp
 exact K _ _ _ Rp
theorem LInv.mono{g:G}{P1 P2:Nat→Int}{Tf:Nat→Option Int}{i j:Nat}(h:LInv g P1 P2 Tf i)(q:i≤j):LInv g P1 P2 Tf j:=by
 obtain⟨x,y,w,a,b,c,e,f⟩:=h
 exact⟨x,y,w,a,b,c,e,Nat.le_trans f (Nat.pow_le_pow_right (by decide) q)⟩
theorem md_of(g:G)(hm:g.m=g.q*g.q+1)(ce:Int):mdOf g ce=g.q*g.q+1∨mdOf g ce= -(g.q*g.q+1):=by
 unfold mdOf
 rw[hm]
 split
 ·exact .inl rfl
 ·exact .inr rfl
section
variable (bb:Bool) (x:W2) (A:Around) (hh:A.handled=none) (hA:A.depth<380) (R:Result→Shared→Prop) (g:G) (w:Int) (hw:g.Wheel w) (ha:Quart g.a) (hv:Quart g.v) (hs:g.s<4) (hq:1000<g.q) (hq2:g.q≤2^30) (hm:g.m=g.q*g.q+1) (F it yl:Addr) (ys:Array Value) (ny:Nat) (hys:∀(j:Nat) v,ys[j]? =some v→∃c u,v=.int c u∧0≤c) (hy5:ys.size≤5) (sg nd l o D:Addr) (n0 p1 p2 kl0:Nat) (ks us:Nat→Nat) (k:Nat) (d:Drawn) (os:OsState)
 (K:∀h' N' t' gl (full:List Ent) (P1 P2:Nat→Int) (Tf:Nat→Option Int) (n:Nat) (T:Cells) (cs1 cs2:List Clr) (m1 m2 kr kc kt ko ke kw kh kl kd un:Nat) (cn:Int) (vr vt vo ve vw vh vl vd:Value) (ph:Bool) (pl pp oc:Option Value),AllBare gl→LInv g P1 P2 Tf 5→full≠[]→full.length<75→TabIs full Tf→EsOk g.s full T→g.Pic P1 cs1 T→g.Pic P2 cs2 T→Rep x.B N' h' ((sg,Lst #[.ref p1,.ref p2] n0)::(p1,Lst (refsOf cs1) m1)::(p2,Lst (refsOf cs2) m2)::(F,g.fr bb x (En x.B n_strings k (.ref sg)::En x.B n_row kr vr::tlC x (some ph) kc cn un kt vt ko vo ke ve kw vw kh vh kl vl kd vd))::(F+1,oC pl)::g.c F ((F+5,oC pp)::(F+6,oC (some (.ref nd)))::(F+7,oC (some (.ref o)))::(F+8,oC oc)::(nd,namesO x.B g.s ks us 5)::(l,Lst (itemsOf full) n)::(o,HdO D)::(D,HdD x kl0 l)::T)) 0→R (.ok .next) ⟨h',gl,d,t',os⟩)
include hh hA hw ha hv hs hq hq2 hm hys hy5 K
theorem c_loop:∀(k' j:Nat) (_:ys.size=j+k') (full:List Ent) (P1 P2:Nat→Int) (Tf:Nat→Option Int) (n:Nat) (T:Cells) (cs1 cs2:List Clr) (m1 m2 kr kc kt ko ke kw kh kl kd un:Nat) (cn:Int) (vr vt vo ve vw vh vl vd:Value) (ph:Bool) (pl pp oc:Option Value) (_:LInv g P1 P2 Tf j) (_:full≠[]) (_:full.length≤1+10*j) (_:TabIs full Tf) (_:EsOk g.s full T) (_:g.Pic P1 cs1 T) (_:g.Pic P2 cs2 T) (N t:Nat) (h:Heap) (gl:Array GenState) (_:AllBare gl)
 (_:Rep x.B N h ((it,ListIt yl (j:Int))::(yl,Lst ys ny)::(sg,Lst #[.ref p1,.ref p2] n0)::(p1,Lst (refsOf cs1) m1)::(p2,Lst (refsOf cs2) m2)::(F,g.fr bb x (En x.B n_strings k (.ref sg)::En x.B n_row kr vr::tlC x (some ph) kc cn un kt vt ko vo ke ve kw vw kh vh kl vl kd vd))::(F+1,oC pl)::g.c F ((F+5,oC pp)::(F+6,oC (some (.ref nd)))::(F+7,oC (some (.ref o)))::(F+8,oC oc)::(nd,namesO x.B g.s ks us 5)::(l,Lst (itemsOf full) n)::(o,HdO D)::(D,HdD x kl0 l)::T)) 0),
 codeAny (MB x.B) A (loopOf (stmtAt x.B 288 11) (.ref it) (lawE x F)) R ⟨h,gl,d,t,os⟩:=by
 intro k'
 induction k' with
 |zero=>
  intro j hz full P1 P2 Tf n T cs1 cs2 m1 m2 kr kc kt ko ke kw kh kl kd un cn vr vt vo ve vw vh vl vd ph pl pp oc hI hne hl hT hE hP1 hP2 N t h gl hgb Rp
  refine c_end x A hh R F it yl ys ny j (by rw[Array.getElem?_eq_none_iff];exact zqcD hz) N t h gl d os _ Rp fun h' N' t' Rp=>?_
  exact K _ _ _ gl full P1 P2 Tf n T cs1 cs2 m1 m2 kr kc kt ko ke kw kh kl kd un cn vr vt vo ve vw vh vl vd ph pl pp oc hgb (hI.mono (by omega)) hne (by omega) hT hE hP1 hP2 Rp
 |succ k' ih=>
  intro j hz full P1 P2 Tf n T cs1 cs2 m1 m2 kr kc kt ko ke kw kh kl kd un cn vr vt vo ve vw vh vl vd ph pl pp oc hI hne hl hT hE hP1 hP2 N t h gl hgb Rp
  obtain⟨c,u,hv',hc⟩:=hys j ys[j] (Array.getElem?_eq_getElem (by exact zqbh hz))
  have hI':=hI
  obtain⟨x6,y6,w5,_,_,_,hW,_⟩:=hI'
  refine c_turn bb (some ph) x A hh hA R g w hw ha hv hs hq hq2 hm F it yl ys ny j c u (by rw[Array.getElem?_eq_getElem (by exact zqbh hz),hv']) hc sg nd l o D n0 p1 p2 m1 m2 n kl0 ks us P1 P2 cs1 cs2 full hne (by omega) Tf hT w5.at hW k kr kc kt ko ke kw kh kl kd un cn vr vt vo ve vw vh vl vd pl pp oc N t h gl hgb d os T hE hP1 hP2 Rp ?_
  intro h' N' t' gl' full' n T cs1 cs2 m1 m2 kr kc kt ko ke kw kh kl kd un cn' vr vt vo ve vw vh vl vd ph pl pp oc hcn hgb hne hl' hT hE hP1 hP2 Rp
  exact ih (j+1) (by exact zqcE hz) full' _ _ _ n T cs1 cs2 m1 m2 kr kc kt ko ke kw kh kl kd un cn' vr vt vo ve vw vh vl vd ph pl pp oc (hI.step (by exact zqas hq) (md_of g hm c) (by exact zqcs) (by exact zqen hcn)) hne (by exact zqhe hl hl') hT hE hP1 hP2 N' t' h' gl' hgb Rp
theorem c_loop0(hpos:0<ys.size)(full:List Ent)(P1 P2:Nat→Int)(Tf:Nat→Option Int)(n:Nat)(T:Cells)(cs1 cs2:List Clr)(m1 m2 kr kc kt ko ke kw kh kl kd un:Nat)(cn:Int)(vr vt vo ve vw vh vl vd:Value)(pl pp oc:Option Value)(hI:LInv g P1 P2 Tf 0)(hne:full≠[])(hl:full.length≤1)(hT:TabIs full Tf)(hE:EsOk g.s full T)(hP1:g.Pic P1 cs1 T)(hP2:g.Pic P2 cs2 T)(N t:Nat)(h:Heap)(gl:Array GenState)(hgb:AllBare gl)
 (Rp:Rep x.B N h ((it,ListIt yl ((0:Nat):Int))::(yl,Lst ys ny)::(sg,Lst #[.ref p1,.ref p2] n0)::(p1,Lst (refsOf cs1) m1)::(p2,Lst (refsOf cs2) m2)::(F,g.fr bb x (En x.B n_strings k (.ref sg)::En x.B n_row kr vr::tlC x none kc cn un kt vt ko vo ke ve kw vw kh vh kl vl kd vd))::(F+1,oC pl)::g.c F ((F+5,oC pp)::(F+6,oC (some (.ref nd)))::(F+7,oC (some (.ref o)))::(F+8,oC oc)::(nd,namesO x.B g.s ks us 5)::(l,Lst (itemsOf full) n)::(o,HdO D)::(D,HdD x kl0 l)::T)) 0):
 codeAny (MB x.B) A (loopOf (stmtAt x.B 288 11) (.ref it) (lawE x F)) R ⟨h,gl,d,t,os⟩:=by
 obtain⟨c,u,hv',hc⟩:=hys 0 ys[0] (Array.getElem?_eq_getElem (by exact zqeo hpos))
 have hI':=hI
 obtain⟨x6,y6,w5,_,_,_,hW,_⟩:=hI'
 refine c_turn bb none x A hh hA R g w hw ha hv hs hq hq2 hm F it yl ys ny 0 c u (by rw[Array.getElem?_eq_getElem (by exact zqeo hpos),hv']) hc sg nd l o D n0 p1 p2 m1 m2 n kl0 ks us P1 P2 cs1 cs2 full hne (by omega) Tf hT w5.at hW k kr kc kt ko ke kw kh kl kd un cn vr vt vo ve vw vh vl vd pl pp oc N t h gl hgb d os T hE hP1 hP2 Rp ?_
 intro h' N' t' gl' full' n T cs1 cs2 m1 m2 kr kc kt ko ke kw kh kl kd un cn' vr vt vo ve vw vh vl vd ph pl pp oc hcn hgb hne hl' hT hE hP1 hP2 Rp
 exact c_loop bb x A hh hA R g w hw ha hv hs hq hq2 hm F it yl ys ny hys hy5 sg nd l o D n0 p1 p2 kl0 ks us k d os K (ys.size-1) 1 (by exact zqhf hpos) full' _ _ _ n T cs1 cs2 m1 m2 kr kc kt ko ke kw kh kl kd un cn' vr vt vo ve vw vh vl vd ph pl pp oc (hI.step (by exact zqas hq) (md_of g hm c) (by exact zqcs) (by exact zqen hcn)) hne (by exact zqhg hl hl') hT hE hP1 hP2 N' t' h' gl' hgb Rp
end
noncomputable abbrev sixC(c0 c1 c2 c3 c4 c5:Int)(u0 u1 u2 u3 u4 u5:Nat):Array Value:=#[.int c0 u0,.int c1 u1,.int c2 u2,.int c3 u3,.int c4 u4,.int c5 u5]
structure YsOk (ys:Array Value):Prop where
 at':∀(j:Nat) v,ys[j]? =some v→∃c u,v=.int c u∧0≤c
 s5:ys.size≤5
 s0:0<ys.size
theorem ys_ok{c0 c1 c2 c3 c4 c5:Int}{u0 u1 u2 u3 u4 u5:Nat}(h1:0≤c1)(h2:0≤c2)(h3:0≤c3)(h4:0≤c4)(h5:0≤c5){e:Nat}(he:e<3):YsOk (slicePick (sixC c0 c1 c2 c3 c4 c5 u0 u1 u2 u3 u4 u5) (some 1) (some (4+(e:Int))) none):=by
 obtain⟨ys,hy⟩:∃ys,slicePick (sixC c0 c1 c2 c3 c4 c5 u0 u1 u2 u3 u4 u5) (some 1) (some (4+(e:Int))) none=ys:=⟨_,rfl⟩
 rw[hy]
 have z:∃n,ys=(#[.int c1 u1,.int c2 u2,.int c3 u3,.int c4 u4,.int c5 u5]:Array Value).extract 0 n∧0<n:=by
  rcases(by omega:e=0∨e=1∨e=2) with rfl|rfl|rfl
  ·exact⟨3,hy.symm.trans (by rfl'),by decide⟩
  ·exact⟨4,hy.symm.trans (by rfl'),by decide⟩
  ·exact⟨5,hy.symm.trans (by rfl'),by decide⟩
 clear hy
 obtain⟨n,rfl,hn⟩:=z
 refine⟨fun j v e=>?_,by simp;omega,by simp;omega⟩
 rw[Array.getElem?_extract] at e
 split at e
 ·rw[Nat.zero_add] at e
  rcases j with _|_|_|_|_|j
  ·cases e;exact⟨_,_,rfl,h1⟩
  ·cases e;exact⟨_,_,rfl,h2⟩
  ·cases e;exact⟨_,_,rfl,h3⟩
  ·cases e;exact⟨_,_,rfl,h4⟩
  ·cases e;exact⟨_,_,rfl,h5⟩
  ·simp at e
 ·cases e
theorem w11(bb:Bool)(x:W2)(A:Around)(hh:A.handled=none)(hA:A.depth<380)(Q:Flow→Shared→Prop)(g:G)(w:Int)(hw:g.Wheel w)(ha:Quart g.a)(hv:Quart g.v)(hs:g.s<4)(hq:1000<g.q)(hq2:g.q≤2^30)(hm:g.m=g.q*g.q+1)(F:Addr)(c0 c1 c2 c3 c4 c5:Int)(u0 u1 u2 u3 u4 u5 nc:Nat)(h0:0≤c0)(h1:0≤c1)(h2:0≤c2)(h3:0≤c3)(h4:0≤c4)(h5:0≤c5)(sg nd l o D:Addr)(n0 p1 p2 kl0:Nat)(ks us:Nat→Nat)(k:Nat)(full:List Ent)(P1 P2:Nat→Int)(Tf:Nat→Option Int)(n:Nat)(T:Cells)(cs1 cs2:List Clr)(m1 m2 kr:Nat)(vr:Value)(pl pp oc:Option Value)(hI:LInv g P1 P2 Tf 0)(hne:full≠[])(hl:full.length≤1)(hT:TabIs full Tf)(hE:EsOk g.s full T)(hP1:g.Pic P1 cs1 T)(hP2:g.Pic P2 cs2 T)(N t:Nat)(h:Heap)(gl:Array GenState)(hgb:AllBare gl)(d:Drawn)(os:OsState)
 (Rp:Rep x.B N h ((g.cl,Lst (sixC c0 c1 c2 c3 c4 c5 u0 u1 u2 u3 u4 u5) nc)::(sg,Lst #[.ref p1,.ref p2] n0)::(p1,Lst (refsOf cs1) m1)::(p2,Lst (refsOf cs2) m2)::(F,g.fr bb x (En x.B n_strings k (.ref sg)::En x.B n_row kr vr::[]))::(F+1,oC pl)::g.c F ((F+5,oC pp)::(F+6,oC (some (.ref nd)))::(F+7,oC (some (.ref o)))::(F+8,oC oc)::(nd,namesO x.B g.s ks us 5)::(l,Lst (itemsOf full) n)::(o,HdO D)::(D,HdD x kl0 l)::T)) 0)
 (K:∀h' N' t' gl (full:List Ent) (P1 P2:Nat→Int) (Tf:Nat→Option Int) (n:Nat) (T:Cells) (cs1 cs2:List Clr) (m1 m2 kr kc kt ko ke kw kh kl kd un:Nat) (cn:Int) (vr vt vo ve vw vh vl vd:Value) (ph:Bool) (pl pp oc:Option Value),AllBare gl→LInv g P1 P2 Tf 5→full≠[]→full.length<75→TabIs full Tf→EsOk g.s full T→g.Pic P1 cs1 T→g.Pic P2 cs2 T→Rep x.B N' h' ((sg,Lst #[.ref p1,.ref p2] n0)::(p1,Lst (refsOf cs1) m1)::(p2,Lst (refsOf cs2) m2)::(F,g.fr bb x (En x.B n_strings k (.ref sg)::En x.B n_row kr vr::tlC x (some ph) kc cn un kt vt ko vo ke ve kw vw kh vh kl vl kd vd))::(F+1,oC pl)::g.c F ((F+5,oC pp)::(F+6,oC (some (.ref nd)))::(F+7,oC (some (.ref o)))::(F+8,oC oc)::(nd,namesO x.B g.s ks us 5)::(l,Lst (itemsOf full) n)::(o,HdO D)::(D,HdD x kl0 l)::T)) 0→wpAny (MB x.B) A (execsZ (bodyOf (fdOf x.B 288) |>.drop 12) (lawE x F)) Q (fun _ _=>False) ⟨h',gl,d,t',os⟩):
 wpAny (MB x.B) A (execsZ (bodyOf (fdOf x.B 288) |>.drop 11) (lawE x F)) Q (fun _ _=>False) ⟨h,gl,d,t,os⟩:=by
 obtain⟨e,he,he3⟩:∃e:Nat,c0%3=e∧e<3:=⟨(c0%3).toNat,by exact zqhh,by exact zqhi⟩
 have hy:=ys_ok (c0:=c0) (u0:=u0) (u1:=u1) (u2:=u2) (u3:=u3) (u4:=u4) (u5:=u5) h1 h2 h3 h4 h5 he3
 obtain⟨ys,ey⟩:∃ys,slicePick (sixC c0 c1 c2 c3 c4 c5 u0 u1 u2 u3 u4 u5) (some 1) (some (4+(e:Int))) none=ys:=⟨_,rfl⟩
 rw[ey] at hy
 let sb:=bb
 cases bb
 all_goals
  refine cut 1 ?_
  with_reducible refine seg_callD (by with_unfolding_all exact hh) Rp [] 23 (dA 0x618628a) [] (cB "list.__getitem__" [.ref (g.cl),.int 0 (t+2)]) [] [] 0 3 ?_
  intro Tb6 h6 N6 t6 Rp kk6
  refine l_get Rp 0 rfl (by decide) (by decide) rfl ?_
  refine seg_callD hh Rp [aI "int.__mod__" [.int (c0) u0,.int 3 (t6+0)] ((e:Int))] 24 (dA 0x71c7042) (dM 3) (cB "list.__getitem__" [.ref (g.cl),.ref (N6+0)]) [(N6+0,oI "slice" #[.int 1 (t+0),.int (4+(↑e:Int)) (t6+2),.none])] [] 1 3 ?_ (aC (fun _ _ _ _ _ _ _ K=>i_mod (B:=x.B) (i:=(c0)) (j:=(3)) (c:=(e:Int)) (by decide) (by rw[Int.fmod_eq_emod_of_nonneg _ (by decide)];exact zqhj he) K) aN)
  intro Tb7 h7 N7 t7 Rp kk7
  refine l_slice Rp 1 0 rfl rfl (.int _ _) (.int _ _) .none (by simp) (by show 6≤2^24;decide) ey fun h8 N8 a8 Rp=>?_
  show wpAny ..
  with_reducible refine seg_callD (by with_unfolding_all exact hh) Rp [] 22 (dA 0x6181186) (dM 3) (loopOf (stmtAt x.B 288 11) (.ref (N8+0)) (lawE x F)) [(N8+0,oI "list_iterator" #[.ref a8,.int 0 0])] [.k,.d] 1 0 ?_
  intro Tb9 h9 N9 t9 Rp kk9
  refine c_loop0 sb x A hh hA _ g w hw ha hv hs hq hq2 hm F _ _ ys _ hy.at' hy.s5 sg nd l o D n0 p1 p2 kl0 ks us k d os ?_ hy.s0 full P1 P2 Tf n _ cs1 cs2 m1 m2 kr 0 0 0 0 0 0 0 0 0 0 vr .none .none .none .none .none .none .none pl pp oc hI hne hl hT (hE.mono fun z m=>.tail _ m) (hP1.mono fun z m=>.tail _ m) (hP2.mono fun z m=>.tail _ m) _ _ _ gl hgb (Rp.mov 2 18)
  intro h9 N9 t9 gl full P1 P2 Tf n T cs1 cs2 m1 m2 kr kc kt ko ke kw kh kl kd un cn vr vt vo ve vw vh vl vd ph pl pp oc hgb hI hne hl hT hE hP1 hP2 Rp
  show wpAny ..
  with_reducible refine seg_valD (by with_unfolding_all exact hh) Rp [] 11 (dA 0x0) [] Flow.next [] [] 0 0 ?_
  intro Tb10 h10 N10 t10 Rp
  exact K _ _ _ gl full P1 P2 Tf n T cs1 cs2 m1 m2 kr kc kt ko ke kw kh kl kd un cn vr vt vo ve vw vh vl vd ph pl pp oc hgb hI hne hl hT hE hP1 hP2 Rp
noncomputable def fE(x:W2):Expr:=compE (stmtAt x.B 288 12)
noncomputable def hE(x:W2):Expr:=eltE (fE x)
noncomputable abbrev fEnv(x:W2)(F C:Addr):Env:=cenvOf (lawE x F) (fE x) C [(n_size,F+2)]
noncomputable abbrev hEnv(x:W2)(F C D:Addr):Env:=cenvOf (fEnv x F C) (hE x) D [(n_size,F+2)]
noncomputable def OutIs(P:Nat→Int)(j:Nat)(o:Array Value):Prop:=o.size=j∧∀i,i<j→∃u,o[i]? =some (.int (P i) u)
theorem OutIs.push{P:Nat→Int}{j:Nat}{o:Array Value}(h:OutIs P j o)(u:Nat):OutIs P (j+1) (o.push (.int (P j) u)):=by
 refine⟨by rw[Array.size_push,h.1],fun i hi=>?_⟩
 rcases Nat.lt_or_ge i j with c|c
 ·obtain⟨v,e⟩:=h.2 i c
  exact⟨v,by rw[Array.getElem?_push,if_neg (by rw[h.1];omega)];exact e⟩
 ·obtain rfl:i=j:=by omega
  exact⟨u,by rw[Array.getElem?_push,if_pos h.1.symm]⟩
theorem q_turn(bb:Bool)(x:W2)(A:Around)(hh:A.handled=none)(hA:A.depth<390)(R:Result→Shared→Prop)(g:G)(w:Int)(hw:g.Wheel w)(ha:Quart g.a)(hv:Quart g.v)(F C D acc it l:Addr)(P:Nat→Int)(cs:List Clr)(o:Array Value)(j n1 nv:Nat)(hj:j<6)(ho:OutIs P j o)(kz:Nat)(v0:Value)(N t:Nat)(h:Heap)(gl d os)(rest:Cells)(hP:g.Pic P cs rest)
 (Rp:Rep x.B N h ((D,cond bb (oD #[En x.B n_colour kz v0] 1) (oD #[] 0))::(acc,Lst o nv)::(it,ListIt l (j:Int))::(l,Lst (refsOf cs) n1)::(F+2,oC (some (.int g.n g.un)))::rest) 0)
 (K:∀h' N' t' o kz v0 nv,OutIs P (j+1) o→Rep x.B N' h' ((D,oD #[En x.B n_colour kz v0] 1)::(acc,Lst o nv)::(it,ListIt l ((j+1:Nat):Int))::(l,Lst (refsOf cs) n1)::(F+2,oC (some (.int g.n g.un)))::rest) 0→codeAny (MB x.B) A (.compLoop (hE x) 0 (.ref it) (.ref acc) (hEnv x F C D)) R ⟨h',gl,d,t',os⟩):
 codeAny (MB x.B) A (.compLoop (hE x) 0 (.ref it) (.ref acc) (hEnv x F C D)) R ⟨h,gl,d,t,os⟩:=by
 let sb:=bb
 cases bb
 all_goals
  obtain⟨c0,T0,e0,f0,g0⟩:=hP.get hj
  refine code_tree ?_
  with_reducible refine seg_callD (by with_unfolding_all exact hh) Rp [] 13 (dA 0x8) [] (cB "list_iterator.__next__" [.ref it]) [] [] 0 0 ?_
  intro Tb1 h1 N1 t1 Rp kk1
  refine li_next Rp 2 3 rfl rfl (refs_get e0) rfl fun hn1 Rp=>?_
  try dsimp only[setN] at Rp
  with_reducible refine seg_callD (by with_unfolding_all exact hh) Rp [] 27 (dA 0x4a181086) [] (cR 283 [.ref (c0.p),.int (g.n) (g.un),.int 1 (t1+1)]) [] [.u (dW [En x.B n_colour (t1+0) (.ref (c0.p))])] 0 2 ?_
  intro Tb2 h2 N2 t2 Rp kk2
  have b0:=hw.kk f0.1 f0.2.1
  have Rp:=(Rep.tail [_,_,_,_,_] Rp g0).mov 5 0
  refine law_hue x (A.under _) hh (by show A.depth+0<800;exact zqcd hA) _ _ (P j) g.n 1 g.a g.v b0.1 b0.2.1 b0.2.2.1 f0.1 b0.2.2.2.1 b0.2.2.2.2 hw.n1 (by decide) ha hv c0.p c0.r c0.g c0.b f0.2.2 _ _ _ _ _ _ _ _ _ Rp fun h4 N4 t4 v4 Rp=>?_
  have Rp:=Rep.tail [_,_,_,_,_] (Rp.mov 0 5) g0.symm
  show wpAny ..
  with_reducible refine seg_callD (by with_unfolding_all exact hh) Rp [] 12 (dA 0x0) [] (cB "list.append" [.ref acc,.int (P j) v4]) [] [] 0 0 ?_
  intro Tb3 h3 N3 t3 Rp kk3
  have ho1:=ho.1
  refine l_append (items:=o) Rp 1 rfl (by omega) rfl fun h5 Rp=>?_
  try dsimp only[setN] at Rp
  with_reducible refine seg_valD (by with_unfolding_all exact hh) Rp [] 11 (dA 0x0) [] (Fin.again (.compLoop (hE x) 0 (.ref it) (.ref acc) (hEnv x F C D))) [] [] 0 0 ?_
  intro Tb6 h6 N6 t6 Rp
  exact⟨rfl,K _ _ _ _ _ _ _ (ho.push _) Rp⟩
theorem q_end(x:W2)(A:Around)(hh:A.handled=none)(R:Result→Shared→Prop)(F C D acc it l:Addr)(co ao:Obj)(items:Array Value)(n j:Nat)(hj:items[j]? =none)(N t:Nat)(h:Heap)(gl d os)(rest:Cells)
 (Rp:Rep x.B N h ((D,co)::(acc,ao)::(it,ListIt l (j:Int))::(l,Lst items n)::rest) 0)
 (K:∀h' N' t',Rep x.B N' h' ((D,co)::(acc,ao)::(l,Lst items n)::rest) 0→R (.ok .next) ⟨h',gl,d,t',os⟩):
 codeAny (MB x.B) A (.compLoop (hE x) 0 (.ref it) (.ref acc) (hEnv x F C D)) R ⟨h,gl,d,t,os⟩:=by
 refine code_tree ?_
 with_reducible refine seg_callD (by with_unfolding_all exact hh) Rp [] 13 (dA 0x8) [] (cB "list_iterator.__next__" [.ref it]) [] [] 0 0 ?_
 intro Tb1 h1 N1 t1 Rp kk1
 refine li_end hh Rp 2 3 rfl rfl hj rfl fun h2 N2 a2 e2 Rp=>?_
 with_reducible refine seg_valD (by with_unfolding_all exact hh) Rp [] 12 (dA 0x6) [] (Fin.done Flow.next) [] [.d,.d,.k,.k,.d] 0 0 ?_
 intro Tb3 h3 N3 t3 Rp
 exact K _ _ _ Rp
theorem f_end(x:W2)(A:Around)(hh:A.handled=none)(R:Result→Shared→Prop)(F C acc it l:Addr)(co ao:Obj)(items:Array Value)(n j:Nat)(hj:items[j]? =none)(N t:Nat)(h:Heap)(gl d os)(rest:Cells)
 (Rp:Rep x.B N h ((C,co)::(acc,ao)::(it,ListIt l (j:Int))::(l,Lst items n)::rest) 0)
 (K:∀h' N' t',Rep x.B N' h' ((C,co)::(acc,ao)::(l,Lst items n)::rest) 0→R (.ok .next) ⟨h',gl,d,t',os⟩):
 codeAny (MB x.B) A (.compLoop (fE x) 0 (.ref it) (.ref acc) (fEnv x F C)) R ⟨h,gl,d,t,os⟩:=by
 refine code_tree ?_
 with_reducible refine seg_callD (by with_unfolding_all exact hh) Rp [] 13 (dA 0x8) [] (cB "list_iterator.__next__" [.ref it]) [] [] 0 0 ?_
 intro Tb1 h1 N1 t1 Rp kk1
 refine li_end hh Rp 2 3 rfl rfl hj rfl fun h2 N2 a2 e2 Rp=>?_
 with_reducible refine seg_valD (by with_unfolding_all exact hh) Rp [] 12 (dA 0x6) [] (Fin.done Flow.next) [] [.d,.d,.k,.k,.d] 0 0 ?_
 intro Tb3 h3 N3 t3 Rp
 exact K _ _ _ Rp
section
variable (x:W2) (A:Around) (hh:A.handled=none) (hA:A.depth<390) (R:Result→Shared→Prop) (g:G) (w:Int) (hw:g.Wheel w) (ha:Quart g.a) (hv:Quart g.v) (F C D acc it l:Addr) (P:Nat→Int) (cs:List Clr) (n1:Nat) (gl:Array GenState) (d:Drawn) (os:OsState) (rest:Cells) (hP:g.Pic P cs rest)
 (K:∀h' N' t' o kz v0 nv,OutIs P 6 o→Rep x.B N' h' ((D,oD #[En x.B n_colour kz v0] 1)::(acc,Lst o nv)::(l,Lst (refsOf cs) n1)::(F+2,oC (some (.int g.n g.un)))::rest) 0→R (.ok .next) ⟨h',gl,d,t',os⟩)
include hh hA hw ha hv hP K
theorem q_loop:∀(k j:Nat) (_:6=j+k) (o:Array Value) (_:OutIs P j o) (kz:Nat) (v0:Value) (nv N t:Nat) (h:Heap)
 (_:Rep x.B N h ((D,oD #[En x.B n_colour kz v0] 1)::(acc,Lst o nv)::(it,ListIt l (j:Int))::(l,Lst (refsOf cs) n1)::(F+2,oC (some (.int g.n g.un)))::rest) 0),
 codeAny (MB x.B) A (.compLoop (hE x) 0 (.ref it) (.ref acc) (hEnv x F C D)) R ⟨h,gl,d,t,os⟩
 |0,j,e,o,ho,kz,v0,nv,N,t,h,Rp=>by
  obtain rfl:j=6:=by omega
  exact q_end x A hh R F C D acc it l _ _ _ n1 6 (by rw[Array.getElem?_eq_none_iff,refsOf_size,hP.len];decide) N t h gl d os _ Rp fun h' N' t' Rp=>K _ _ _ _ _ _ _ ho Rp
 |k+1,j,e,o,ho,kz,v0,nv,N,t,h,Rp=>by
  refine q_turn true x A hh hA R g w hw ha hv F C D acc it l P cs o j n1 nv (by omega) ho kz v0 N t h gl d os rest hP Rp fun h' N' t' o kz v0 nv ho Rp=>?_
  exact q_loop k (j+1) (by omega) o ho kz v0 nv N' t' h' Rp
theorem q_loop0(N t:Nat)(h:Heap)
 (Rp:Rep x.B N h ((D,oD #[] 0)::(acc,Lst #[] 0)::(it,ListIt l ((0:Nat):Int))::(l,Lst (refsOf cs) n1)::(F+2,oC (some (.int g.n g.un)))::rest) 0):
 codeAny (MB x.B) A (.compLoop (hE x) 0 (.ref it) (.ref acc) (hEnv x F C D)) R ⟨h,gl,d,t,os⟩:=by
 refine q_turn false x A hh hA R g w hw ha hv F C D acc it l P cs #[] 0 n1 0 (by decide) ⟨rfl,fun i hi=>absurd hi (by omega)⟩ 0 .none N t h gl d os rest hP Rp fun h' N' t' o kz v0 nv ho Rp=>?_
 exact q_loop x A hh hA R g w hw ha hv F C D acc it l P cs n1 gl d os rest hP K 5 1 rfl o ho kz v0 nv N' t' h' Rp
end
theorem f_turn(bb:Bool)(x:W2)(A:Around)(hh:A.handled=none)(hA:A.depth<380)(R:Result→Shared→Prop)(g:G)(w:Int)(hw:g.Wheel w)(ha:Quart g.a)(hv:Quart g.v)(F C acc it so l:Addr)(P:Nat→Int)(cs:List Clr)(items:Array Value)(j n0 n1 nv0:Nat)(outs:Array Value)(ho:outs.size≤10)(hj:items[j]? =some (.ref l))(kz:Nat)(v0:Value)(N t:Nat)(h:Heap)(gl d os)(rest:Cells)(hP:g.Pic P cs rest)
 (Rp:Rep x.B N h ((C,cond bb (oD #[En x.B n_painted kz v0] 1) (oD #[] 0))::(acc,Lst outs nv0)::(it,ListIt so (j:Int))::(so,Lst items n0)::(l,Lst (refsOf cs) n1)::(F+2,oC (some (.int g.n g.un)))::rest) 0)
 (K:∀h' N' t' p o kz v0 np,OutIs P 6 o→Rep x.B N' h' ((C,oD #[En x.B n_painted kz v0] 1)::(acc,Lst (outs.push (.ref p)) (nv0+1))::(it,ListIt so ((j+1:Nat):Int))::(so,Lst items n0)::(l,Lst (refsOf cs) n1)::(F+2,oC (some (.int g.n g.un)))::(p,Lst o np)::rest) 0→codeAny (MB x.B) A (.compLoop (fE x) 0 (.ref it) (.ref acc) (fEnv x F C)) R ⟨h',gl,d,t',os⟩):
 codeAny (MB x.B) A (.compLoop (fE x) 0 (.ref it) (.ref acc) (fEnv x F C)) R ⟨h,gl,d,t,os⟩:=by
 let sb:=bb
 cases bb
 all_goals
  refine code_tree ?_
  with_reducible refine seg_callD (by with_unfolding_all exact hh) Rp [] 13 (dA 0x8) [] (cB "list_iterator.__next__" [.ref it]) [] [] 0 0 ?_
  intro Tb1 h1 N1 t1 Rp kk1
  refine li_next Rp 2 3 rfl rfl hj rfl fun hn1 Rp=>?_
  try dsimp only[setN] at Rp
  with_reducible refine seg_callD (by with_unfolding_all exact hh) Rp [] 32 (dA 0x18a04a286086) (dM 15) (.compStart (hE x) 0 (.ref (N1+0)) (.ref (N1+1)) (hEnv x F C (N1+2))) [(N1+2,oD #[] 0),(N1+1,oL #[] 0),(N1+0,oI "list_iterator" #[.ref l,.int 0 0])] [.u (dW [En x.B n_painted (t1+0) (.ref l)])] 3 1 ?_
  intro Tb2 h2 N2 t2 Rp kk2
  refine comp_start (by rfl') Rp 2 rfl ?_
  have Rp:=(Rp.mov 7 3).mov 8 4
  refine q_loop0 x (A.under _) hh (by show A.depth+0<390;exact zqcm hA) _ g w hw ha hv F C (N1+2) (N1+1) _ l P cs n1 gl d os _ (hP.mono fun z m=>List.mem_append_right [_,_,_,_] m) (fun h3 N3 t3 o k3 v3 nv ho' Rp=>?_) _ _ _ Rp
  show wpAny ..
  with_reducible refine seg_callD (by with_unfolding_all exact hh) Rp [] 16 (dA 0x2186) [] (cB "list.append" [.ref acc,.ref (N1+1)]) [] [.d] 0 0 ?_
  intro Tb4 h4 N4 t4 Rp kk4
  refine l_append (items:=outs) Rp 4 rfl (by exact zqbw ho) rfl fun h5 Rp=>?_
  try dsimp only[setN] at Rp
  with_reducible refine seg_valD (by with_unfolding_all exact hh) Rp [] 11 (dA 0x0) [] (Fin.again (.compLoop (fE x) 0 (.ref it) (.ref acc) (fEnv x F C))) [] [] 0 0 ?_
  intro Tb6 h6 N6 t6 Rp
  exact⟨rfl,K _ _ _ _ o _ _ _ ho' (((Rp.mov 0 6).mov 0 5).mov 0 5)⟩
noncomputable abbrev frX(bb al:Bool)(x:W2)(g:G)(k:Nat)(sg:Addr)(kr:Nat)(vr:Value)(kc:Nat)(cn:Int)(un kt:Nat)(vt:Value)(ko:Nat)(vo:Value)(ke:Nat)(ve:Value)(kw:Nat)(vw:Value)(kh:Nat)(vh:Value)(kl:Nat)(vl:Value)(kd:Nat)(vd:Value)(tl:List DictEntry):Obj:=
 g.fr bb x (En x.B n_strings k (.ref sg)::En x.B n_row kr vr::En x.B n_count kc (.int cn un)::En x.B n_told kt vt::En x.B n_on ko vo::En x.B n_end ke ve::En x.B n_weight kw vw::En x.B n_hooked kh vh::cond al (En x.B n_laid kl vl::En x.B n_due kd vd::tl) tl)
theorem w12(bb al:Bool)(x:W2)(A:Around)(hh:A.handled=none)(hA:A.depth<370)(Q:Flow→Shared→Prop)(g:G)(w:Int)(hw:g.Wheel w)(ha:Quart g.a)(hv:Quart g.v)(F sg:Addr)(n0 p1 p2 m1 m2:Nat)(P1 P2:Nat→Int)(cs1 cs2:List Clr)(k kr kc kt ko ke kw kh kl kd un:Nat)(cn:Int)(vr vt vo ve vw vh vl vd:Value)(N t:Nat)(h:Heap)(gl d os)(rest:Cells)(hP1:g.Pic P1 cs1 rest)(hP2:g.Pic P2 cs2 rest)
 (Rp:Rep x.B N h ((sg,Lst #[.ref p1,.ref p2] n0)::(p1,Lst (refsOf cs1) m1)::(p2,Lst (refsOf cs2) m2)::(F,g.fr bb x (En x.B n_strings k (.ref sg)::En x.B n_row kr vr::tlC x (some al) kc cn un kt vt ko vo ke ve kw vw kh vh kl vl kd vd))::(F+2,oC (some (.int g.n g.un)))::rest) 0)
 (K:∀h' N' t' q1 q2 o1 o2 k1 k2 n1 n2,OutIs P1 6 o1→OutIs P2 6 o2→Rep x.B N' h' ((q1,Lst o1 n1)::(q2,Lst o2 n2)::(F,frX bb al x g k sg kr vr kc cn un kt vt ko vo ke ve kw vw kh vh kl vl kd vd [En x.B n_first k1 (.ref q1),En x.B n_second k2 (.ref q2)])::(F+2,oC (some (.int g.n g.un)))::rest) 0→wpAny (MB x.B) A (execsZ (bodyOf (fdOf x.B 288) |>.drop 13) (lawE x F)) Q (fun _ _=>False) ⟨h',gl,d,t',os⟩):
 wpAny (MB x.B) A (execsZ (bodyOf (fdOf x.B 288) |>.drop 12) (lawE x F)) Q (fun _ _=>False) ⟨h,gl,d,t,os⟩:=by
 let sb:=bb
 cases bb<;>cases al
 all_goals
  refine cut 1 ?_
  with_reducible refine seg_callD (by with_unfolding_all exact hh) Rp [] 26 (dA 0x186046189) (dM 15) (.compStart (fE x) 0 (.ref (N+0)) (.ref (N+1)) (fEnv x F (N+2))) [(N+2,oD #[] 0),(N+1,oL #[] 0),(N+0,oI "list_iterator" #[.ref sg,.int 0 0])] [] 3 0 ?_
  intro Tb1 h1 N1 t1 Rp kk1
  refine comp_start (by rfl') Rp 2 rfl ?_
  refine f_turn false x A hh (by exact zqaH hA) _ g w hw ha hv F (N+2) (N+1) _ sg p1 P1 cs1 #[.ref p1,.ref p2] 0 n0 m1 0 #[] (by decide) rfl 0 .none _ _ _ _ _ _ _ (hP1.mono fun z m=>List.mem_append_right [_,_] m) (Rp.mov 7 5) fun h2 N2 t2 q1 o1 kp1 vp1 np1 ho1 Rp=>?_
  refine f_turn true x A hh (by exact zqaH hA) _ g w hw ha hv F (N+2) (N+1) _ sg p2 P2 cs2 #[.ref p1,.ref p2] 1 n0 m2 _ _ (by show 1≤10;decide) rfl kp1 vp1 _ _ _ _ _ _ _ (hP2.mono fun z m=>List.mem_append_right [_,_,_] m) ((Rp.mov 7 4).mov 6 5) fun h3 N3 t3 q2 o2 kp2 vp2 np2 ho2 Rp=>?_
  refine f_end x A hh _ F (N+2) (N+1) _ sg _ _ #[.ref p1,.ref p2] n0 2 rfl _ _ _ _ _ _ _ Rp fun h4 N4 t4 Rp=>?_
  show wpAny ..
  with_reducible refine seg_valD (by with_unfolding_all exact hh) Rp [] 76 (dA 0x3513511821881861811821881861811821881861811861c11c71c2186) (dM 8) Flow.next [] [.d,.d,.d,.d,.k,.k,.d,.k,.u (dW [En x.B n_first (t4+0) (.ref q1),En x.B n_second (t4+1) (.ref q2)])] 3 2 ?_
  intro Tb5 h5 N5 t5 Rp
  exact K _ _ _ q1 q2 o1 o2 _ _ _ _ ho1 ho2 ((Rp.mov 2 0).mov 1 3)
theorem h_getD(x:W2)(A:Around)(hh:A.handled=none)(hA:A.depth<500)(R:Result→Shared→Prop)(s r0:Nat)(hs:s<4)(hr:r0<5)(o D l:Addr)(full:List Ent)(hne:full≠[])(kl n u ud:Nat)(vd:List Nat)(cs:Cells)(hE:EsOk s full cs)(gl d os)(N t:Nat)(h:Heap)
 (Rp:Rep x.B N h ((l,Lst (itemsOf full) n)::(o,HdO D)::(D,HdD x kl l)::cs) 0)
 (K1:∀e,full.find? (fun e=>Nat.beq e.r r0)=some e→∀h' N' t',Rep x.B N' h' ((l,Lst (itemsOf full) n)::(o,HdO D)::(D,HdD x kl l)::cs) 0→R (.ok (.ret (.str (S e.v) e.tv))) ⟨h',gl,d,t',os⟩)
 (K2:full.find? (fun e=>Nat.beq e.r r0)=none→∀h' N' t',Rep x.B N' h' ((l,Lst (itemsOf full) n)::(o,HdO D)::(D,HdD x kl l)::cs) 0→R (.ok (.ret (.str (S vd) ud))) ⟨h',gl,d,t',os⟩):
 codeAny (MB x.B) A (.call (.ref 202) ⟨[.ref o,.str (S (nm s r0)) u,.str (S vd) ud],[]⟩) R ⟨h,gl,d,t,os⟩:=by
 refine enterD hh Rp (by exact zqdx hA) 27 (dA 0x2182182181041) (bodyOf (fdOf x.B 202)) (envOf (fdOf x.B 202) 202 (N+0)) [(N+0,oF #[En x.B n_self (t+0) (.ref o),En x.B n_name (t+1) (.str (S (nm s r0)) u),En x.B n_default (t+2) (.str (S vd) ud)] 3)] 1 3 (by rfl') ?_
 intro Tb1 h1 N1 t1 Rp
 with_reducible refine seg_callD (by with_unfolding_all exact hh) Rp [] 36 (dA 0x6248041041201041201041206) [] (cB "str.lower" [.str (S (nm s r0)) u]) [] [] 0 0 ?_
 intro Tb2 h2 N2 t2 Rp kk2
 refine s_low (low_k false hs hr) (len_k false hs hr) ?_
 with_reducible refine seg_callD (by with_unfolding_all exact hh) Rp [] 15 (dA 0x1) [] (.call (.ref 154) ⟨[.ref o,.str (S (nm s r0)) t2],[(n_name,.bool true)]⟩) [] [] 0 0 ?_
 intro Tb3 h3 N3 t3 Rp kk3
 refine conv_n x (A.under _) hh (by show A.depth+1<600;exact zqdy hA) _ (nm s r0) (srchN x _ (nm_ok false hs hr).1 (nm_ok false hs hr).2) _ _ _ _ _ _ _ _ _ Rp fun h' N' t' Rp=>?_
 with_reducible refine seg_callD (by with_unfolding_all exact hh) Rp [] 49 (dA 0x61c11c7241208041048041041206086) (dM 3) (loopOf (stmtAt x.B 202 1) (.ref (N'+0)) (envOf (fdOf x.B 202) 202 (N+0))) [(N'+0,oI "list_iterator" #[.ref l,.int 0 0])] [.u (dU [(1,.str (S (nm s r0)) t2)] [] 3)] 1 2 ?_
 intro Tb4 h4 N4 t4 Rp kk4
 refine g_loop0 x (A.under _) hh (by show A.depth+1<800;exact zqdz hA) _ s r0 hs hr o l _ _ full n _ _ _ _ ((o,HdO D)::(D,HdD x kl l)::cs) (fun e he=>⟨(hE e he).1,.tail _ (.tail _ (hE e he).2)⟩) gl d os (fun e he h' N' t' Rp=>?_) (fun he h' N' t' k3 k4 v3 v4 Rp=>?_) hne _ _ _ Rp
 ·show wpAny ..
  with_reducible refine seg_valD (by with_unfolding_all exact hh) Rp [] 11 (dA 0x0) [] (Flow.ret (.str (S e.v) (e.tv))) [] [] 0 0 ?_
  intro Tb5 h5 N5 t5 Rp
  exact K1 e he _ _ _ Rp
 ·show wpAny ..
  with_reducible refine seg_valD (by with_unfolding_all exact hh) Rp [] 14 (dA 0x6) [] (Flow.ret (.str (S vd) ud)) [] [.d] 0 0 ?_
  intro Tb5 h5 N5 t5 Rp
  exact K2 he _ _ _ Rp
noncomputable def subE:Expr→Expr
 | .Subscript v _ _=>v
 | .Call _ (a::_) _ _=>a
 | .BinOp _ _ r _=>r
 |e=>e
noncomputable def uS(x:W2):Stmt:=stmtAt x.B 288 13
noncomputable def mE(x:W2):Expr:=subE (subE (subE (subE (compE ((forB (uS x)).headD default)))))
noncomputable abbrev mEnv(x:W2)(F C:Addr):Env:=cenvOf (lawE x F) (mE x) C [(n_table,F+7),(n_names,F+6)]
noncomputable abbrev rowsO(two:Bool)(r1 r2 w1 w2:Nat):Obj:=cond two (oT #[.str (S (rowL r1)) w1,.str (S (rowL r2)) w2]) (oT #[.str (S (rowL r1)) w1])
theorem dg0:dg 0=[48]:=rfl
theorem h_getD2(x:W2)(A:Around)(hh:A.handled=none)(hA:A.depth<500)(R:Result→Shared→Prop)(s r0:Nat)(hs:s<4)(hr:r0<5)(o D l:Addr)(full:List Ent)(hne:full≠[])(Tf:Nat→Option Int)(hT:TabIs full Tf)(kl n u ud:Nat)(cs:Cells)(hE:EsOk s full cs)(gl d os)(N t:Nat)(h:Heap)
 (Rp:Rep x.B N h ((l,Lst (itemsOf full) n)::(o,HdO D)::(D,HdD x kl l)::cs) 0)
 (K:∀v tv h' N' t',v=dg ((Tf r0).getD 0)→Rep x.B N' h' ((l,Lst (itemsOf full) n)::(o,HdO D)::(D,HdD x kl l)::cs) 0→R (.ok (.ret (.str (S v) tv))) ⟨h',gl,d,t',os⟩):
 codeAny (MB x.B) A (.call (.ref 202) ⟨[.ref o,.str (S (nm s r0)) u,.str (S [48]) ud],[]⟩) R ⟨h,gl,d,t,os⟩:=by
 refine h_getD x A hh hA R s r0 hs hr o D l full hne kl n u ud [48] cs hE gl d os N t h Rp (fun e he h' N' t' Rp=>?_) (fun he h' N' t' Rp=>?_)
 ·refine K _ _ _ _ _ ?_ Rp
  have:=hT r0 hr
  rw[show fnd full r0=some e from he] at this
  cases q:Tf r0 with
  |none=>rw[q] at this;cases this
  |some w=>rw[q] at this;exact Option.some.inj this
 ·refine K _ _ _ _ _ ?_ Rp
  have:=hT r0 hr
  rw[show fnd full r0=none from he] at this
  cases q:Tf r0 with
  |none=>exact dg0.symm
  |some w=>rw[q] at this;cases this
theorem mt_next(x:W2){A:Around}{R:Result→Shared→Prop}{h:Heap}{gl:Array GenState}{d:Drawn}{t:Nat}{os:OsState}{N i:Nat}{tab:Cells}{it T:Addr}{two:Bool}{r r1 r2 w w1 w2:Nat}(hi:(i=0∧r=r1∧w=w1)∨(two=true∧i=1∧r=r2∧w=w2))(hh:A.handled=none)(Rp:Rep x.B N h ((it,TupIt T (i:Int))::(T,rowsO two r1 r2 w1 w2)::tab) 0)
 (K:∀h' N' t',Rep x.B N' h' ((it,TupIt T ((i+1:Nat):Int))::(T,rowsO two r1 r2 w1 w2)::tab) 0→R (.ok (.ret (.str (S (rowL r)) w))) ⟨h',gl,d,t',os⟩):
 codeAny (MB x.B) A (.call (.builtin "tuple_iterator.__next__") ⟨[.ref it],[]⟩) R ⟨h,gl,d,t,os⟩:=by
 with_reducible refine seg_codeD (by with_unfolding_all exact hh) Rp [] 18 (dA 0x861c6186) [] (.ok (.ret (.str (S (rowL r)) w))) [] [.u fun _=>TupIt T ((i+1:Nat):Int)] 0 0 ?_ aN ?_
 ·rcases hi with⟨rfl,rfl,rfl⟩|⟨rfl,rfl,rfl,rfl⟩
  ·cases two
   all_goals rfl'
  ·rfl'
 ·intro Tb1 h1 N1 t1 Rp
  exact K _ _ _ Rp
theorem m_turn(bb two:Bool)(x:W2)(A:Around)(hh:A.handled=none)(hA:A.depth<390)(R:Result→Shared→Prop)(F C acc it s nd l o D:Addr)(sh:Nat)(hs:sh<4)(i r r1 r2 w w1 w2:Nat)(hr:r<5)(hi:(i=0∧r=r1∧w=w1)∨(two=true∧i=1∧r=r2∧w=w2))(full:List Ent)(hne:full≠[])(Tf:Nat→Option Int)(hT:TabIs full Tf)(hTb:((Tf r).getD 0).natAbs<10^100)(kl n:Nat)(ks us:Nat→Nat)(outs:Array Value)(ho:outs.size≤10)(nv kz:Nat)(vz:Value)(N t:Nat)(h:Heap)(gl d os)(cs:Cells)(hE:EsOk sh full cs)
 (Rp:Rep x.B N h ((it,TupIt s (i:Int))::(s,rowsO two r1 r2 w1 w2)::(C,cond bb (oD #[En x.B n_row kz vz] 1) (oD #[] 0))::(acc,Lst outs nv)::(nd,namesO x.B sh ks us 5)::(l,Lst (itemsOf full) n)::(o,HdO D)::(D,HdD x kl l)::(F+6,oC (some (.ref nd)))::(F+7,oC (some (.ref o)))::cs) 0)
 (K:∀h' N' t' u kz vz,Rep x.B N' h' ((it,TupIt s ((i+1:Nat):Int))::(s,rowsO two r1 r2 w1 w2)::(C,oD #[En x.B n_row kz vz] 1)::(acc,Lst (outs.push (.int ((Tf r).getD 0) u)) (nv+1))::(nd,namesO x.B sh ks us 5)::(l,Lst (itemsOf full) n)::(o,HdO D)::(D,HdD x kl l)::(F+6,oC (some (.ref nd)))::(F+7,oC (some (.ref o)))::cs) 0→codeAny (MB x.B) A (.compLoop (mE x) 0 (.ref it) (.ref acc) (mEnv x F C)) R ⟨h',gl,d,t',os⟩):
 codeAny (MB x.B) A (.compLoop (mE x) 0 (.ref it) (.ref acc) (mEnv x F C)) R ⟨h,gl,d,t,os⟩:=by
 let sb:=bb
 cases bb
 all_goals
  refine code_tree ?_
  with_reducible refine seg_callD (by with_unfolding_all exact hh) Rp [] 13 (dA 0x6) [] (cB "tuple_iterator.__next__" [.ref it]) [] [] 0 0 ?_
  intro Tb1 h1 N1 t1 Rp kk1
  refine mt_next x hi hh Rp fun h2 N2 t2 Rp=>?_
  with_reducible refine seg_callD (by with_unfolding_all exact hh) Rp [] 48 (dA 0xa28a20e34c04104130104130104130f041108) [] (cB "dict.__getitem__" [.ref nd,.str (S (rowL r)) w]) [] [.k,.k,.u (dW [En x.B n_row (t2+0) (.str (S (rowL r)) w)])] 0 1 ?_
  intro Tb3 h3 N3 t3 Rp kk3
  refine d_get hr Rp 4 rfl ?_
  show wpAny ..
  with_reducible refine seg_callD (by with_unfolding_all exact hh) Rp [] 14 (dA 0x1) [] (cR 202 [.ref o,.str (S (nm sh r)) (us r),.str (S [48]) (t3+1+0)]) [] [] 0 1 ?_
  intro Tb4 h4 N4 t4 Rp kk4
  have Rp:=((Rp.mov 5 0).mov 6 1).mov 7 2
  refine h_getD2 x (A.under _) hh (by show A.depth+0<500;omega) _ sh r hs hr o D l full hne Tf hT kl n _ _ _ (hE.mono fun z m=>List.mem_append_right [_,_,_,_,_,_,_] m) gl d os _ _ _ Rp fun v tv h4 N4 t4 hv Rp=>?_
  show wpAny ..
  with_reducible refine seg_callD (by with_unfolding_all exact hh) Rp [] 13 (dA 0x0) [] (.call (.type "int") ⟨[.str (S v) tv],[]⟩) [] [] 0 0 ?_
  intro Tb5 h5 N5 t5 Rp kk5
  refine int_sv x (A.under _) hh _ _ hTb v hv _ _ _ _ _ _ _ _ Rp fun h5 N5 t5 u5 Rp=>?_
  show wpAny ..
  with_reducible refine seg_callD (by with_unfolding_all exact hh) Rp [] 12 (dA 0x0) [] (cB "list.append" [.ref acc,.int ((Tf r).getD 0) u5]) [] [] 0 0 ?_
  intro Tb6 h6 N6 t6 Rp kk6
  refine l_append (items:=outs) Rp 6 rfl (by exact zqbw ho) rfl fun h6 Rp=>?_
  try dsimp only[setN] at Rp
  with_reducible refine seg_valD (by with_unfolding_all exact hh) Rp [] 11 (dA 0x0) [] (Fin.again (.compLoop (mE x) 0 (.ref it) (.ref acc) (mEnv x F C))) [] [] 0 0 ?_
  intro Tb7 h7 N7 t7 Rp
  exact⟨rfl,K _ _ _ _ _ _ (((Rp.mov 0 7).mov 0 7).mov 0 7)⟩
theorem m_end(two:Bool)(x:W2)(A:Around)(hh:A.handled=none)(R:Result→Shared→Prop)(F C acc it s:Addr)(r1 r2 w1 w2:Nat)(ao:Obj)(kz:Nat)(vz:Value)(N t:Nat)(h:Heap)(gl d os)(rest:Cells)
 (Rp:Rep x.B N h ((it,TupIt s ((cond two 2 1:Nat):Int))::(s,rowsO two r1 r2 w1 w2)::(C,oD #[En x.B n_row kz vz] 1)::(acc,ao)::rest) 0)
 (K:∀h' N' t',Rep x.B N' h' ((s,rowsO two r1 r2 w1 w2)::(C,oD #[En x.B n_row kz vz] 1)::(acc,ao)::rest) 0→R (.ok .next) ⟨h',gl,d,t',os⟩):
 codeAny (MB x.B) A (.compLoop (mE x) 0 (.ref it) (.ref acc) (mEnv x F C)) R ⟨h,gl,d,t,os⟩:=by
 cases two
 all_goals
  refine code_tree ?_
  with_reducible refine seg_valD (by with_unfolding_all exact hh) Rp [] 27 (dA 0x60861c6186046) (dM 4) (Fin.done Flow.next) [] [.d] 2 0 ?_
  intro Tb1 h1 N1 t1 Rp
  exact K _ _ _ Rp
theorem m_all(two:Bool)(x:W2)(A:Around)(hh:A.handled=none)(hA:A.depth<390)(R:Result→Shared→Prop)(F C acc it s nd l o D:Addr)(sh:Nat)(hs:sh<4)(r1 r2 w1 w2:Nat)(hr1:r1<5)(hr2:r2<5)(full:List Ent)(hne:full≠[])(Tf:Nat→Option Int)(hT:TabIs full Tf)(hTb:∀r,r<5→((Tf r).getD 0).natAbs<10^100)(kl n:Nat)(ks us:Nat→Nat)(N t:Nat)(h:Heap)(gl d os)(cs:Cells)(hE:EsOk sh full cs)
 (Rp:Rep x.B N h ((it,TupIt s ((0:Nat):Int))::(s,rowsO two r1 r2 w1 w2)::(C,oD #[] 0)::(acc,Lst #[] 0)::(nd,namesO x.B sh ks us 5)::(l,Lst (itemsOf full) n)::(o,HdO D)::(D,HdD x kl l)::(F+6,oC (some (.ref nd)))::(F+7,oC (some (.ref o)))::cs) 0)
 (K:∀h' N' t' u1 u2 nv kz vz,Rep x.B N' h' ((s,rowsO two r1 r2 w1 w2)::(C,oD #[En x.B n_row kz vz] 1)::(acc,Lst (cond two #[.int ((Tf r1).getD 0) u1,.int ((Tf r2).getD 0) u2] #[.int ((Tf r1).getD 0) u1]) nv)::(nd,namesO x.B sh ks us 5)::(l,Lst (itemsOf full) n)::(o,HdO D)::(D,HdD x kl l)::(F+6,oC (some (.ref nd)))::(F+7,oC (some (.ref o)))::cs) 0→R (.ok .next) ⟨h',gl,d,t',os⟩):
 codeAny (MB x.B) A (.compLoop (mE x) 0 (.ref it) (.ref acc) (mEnv x F C)) R ⟨h,gl,d,t,os⟩:=by
 refine m_turn false two x A hh hA R F C acc it s nd l o D sh hs 0 r1 r1 r2 w1 w1 w2 hr1 (.inl ⟨rfl,rfl,rfl⟩) full hne Tf hT (hTb _ hr1) kl n ks us #[] (by decide) 0 0 .none N t h gl d os cs hE Rp fun h' N' t' u1 kz vz Rp=>?_
 cases two
 ·exact m_end false x A hh R F C acc it s r1 r2 w1 w2 _ kz vz _ _ _ _ _ _ _ Rp fun h' N' t' Rp=>K _ _ _ u1 0 _ kz vz Rp
 ·refine m_turn true true x A hh hA R F C acc it s nd l o D sh hs 1 r2 r1 r2 w2 w1 w2 hr2 (.inr ⟨rfl,rfl,rfl,rfl⟩) full hne Tf hT (hTb _ hr2) kl n ks us _ (by show 1≤10;decide) _ kz vz _ _ _ _ _ _ cs hE Rp fun h' N' t' u2 kz vz Rp=>?_
  exact m_end true x A hh R F C acc it s r1 r2 w1 w2 _ kz vz _ _ _ _ _ _ _ Rp fun h' N' t' Rp=>K _ _ _ u1 u2 _ kz vz Rp
section
variable {B:Base} {A:Around} {R:Result→Shared→Prop} {h:Heap} {gl:Array GenState} {d:Drawn} {t:Nat} {os:OsState} {N u v c n j:Nat} {a b:Int} {it l st:Addr} {items:Array Value} {rest:Cells}
theorem sum_step(Rp:Rep B N h ((it,ListIt l (j:Int))::(l,Lst items n)::(st,Lst #[.int a u] c)::rest) 0)(e:items[j]? =some (.int b v))(hb:InLong b)(hs:InLong (a+b))
 (K:∀h',Rep B N h' ((it,ListIt l ((j+1:Nat):Int))::(l,Lst items n)::(st,Lst #[.int (a+b) t] c)::rest) 0→codeAny (MB B) A (.builtin "sum.loop" ⟨[.ref it,.ref st,rawInt 0,rawInt 0],[]⟩) R ⟨h',gl,d,t+1,os⟩):
 codeAny (MB B) A (.builtin "sum.loop" ⟨[.ref it,.ref st,rawInt 0,rawInt 0],[]⟩) R ⟨h,gl,d,t,os⟩:=by
 refine codeAny_builtin F.entry_sum_loop ?_
 rw[Around.under_plainId F.plain_sum_loop _]
 show wpAny _ A.in1 (seqItems? (.ref st) >>= _) _ _ _
 refine wpAny_bind (wpAny_seqItems (Rp.at (n:=2) rfl) rfl ?_)
 show wpAny _ A.in1 (tryCatch (pyNext (.ref it)) _ >>= _) _ _ _
 refine wpAny_bind (wpAny_tryCatch (pyNext_of ⟨_,Rp.at (n:=0) rfl,rfl⟩ slot_listiter_next (li_next Rp 0 1 rfl rfl e rfl fun h' Rp=>?_)))
 dsimp only[setN] at Rp
 have hc:((decide (-(2^63)≤b)&&decide (b<2^63))&&(decide (-(2^63)≤a+b)&&decide (a+b<2^63)))=true:=by
  simp only[Bool.and_eq_true,decide_eq_true_eq]
  exact⟨hb,hs⟩
 show wpAny _ A.in1 (if(_:Bool)=true then(mkInt (a+b) >>= _) else _) _ _ _
 split
 ·refine wpAny_bind (wpAny_mkInt ?_)
  show wpAny _ A.in1 (updateSeq st (fun _=>#[.int (a+b) t]) >>= _) _ _ _
  refine wpAny_bind ?_
  have q:=Rp.upd (n:=2) (f:=Obj.mapSeq fun _=>#[.int (a+b) t]) rfl rfl rfl
  exact wpAny_updateSeq (Rp.at (n:=2) rfl) rfl (wpAny_pure ⟨plainId_quiet F.plain_sum_loop _,K _ q⟩)
 ·rename_i hneg
  exact absurd hc hneg
theorem sum_end(hh:A.handled=none)(Rp:Rep B N h ((it,ListIt l (j:Int))::(l,Lst items n)::(st,Lst #[.int a u] c)::rest) 0)(e:items[j]? =none)
 (K:∀h' N' t',Rep B N' h' ((l,Lst items n)::rest) 0→R (.ok (.ret (.int a u))) ⟨h',gl,d,t',os⟩):
 codeAny (MB B) A (.builtin "sum.loop" ⟨[.ref it,.ref st,rawInt 0,rawInt 0],[]⟩) R ⟨h,gl,d,t,os⟩:=by
 refine codeAny_builtin F.entry_sum_loop ?_
 rw[Around.under_plainId F.plain_sum_loop _]
 show wpAny _ A.in1 (seqItems? (.ref st) >>= _) _ _ _
 refine wpAny_bind (wpAny_seqItems (Rp.at (n:=2) rfl) rfl ?_)
 show wpAny _ A.in1 (tryCatch (pyNext (.ref it)) _ >>= _) _ _ _
 refine wpAny_bind (wpAny_tryCatch (pyNext_of ⟨_,Rp.at (n:=0) rfl,rfl⟩ slot_listiter_next (li_end hh Rp 0 1 rfl rfl e rfl fun h' N' a' e' Rp=>?_)))
 dsimp only[setN] at Rp
 refine⟨⟨_,Rp.at (n:=0) rfl,rfl⟩,?_⟩
 exact wpAny_pure (K _ _ _ (Rp.sub (List.Sublist.cons _ (.cons _ (.cons _ (.cons₂ _ (.cons _ (.refl _))))))))
end
theorem sum12(two:Bool)(x:W2)(A:Around)(hh:A.handled=none)(R:Result→Shared→Prop)(acc:Addr)(y1 y2:Int)(b1:y1.natAbs<2^62)(b2:y2.natAbs<2^62)(u1 u2 nv:Nat)(N t:Nat)(h:Heap)(gl d os)(rest:Cells)
 (Rp:Rep x.B N h ((acc,Lst (cond two #[.int y1 u1,.int y2 u2] #[.int y1 u1]) nv)::rest) 0)
 (K:∀h' N' t' u,Rep x.B N' h' rest 0→R (.ok (.ret (.int (cond two (y1+y2) y1) u))) ⟨h',gl,d,t',os⟩):
 codeAny (MB x.B) A (.call (.builtin "sum") ⟨[.ref acc],[]⟩) R ⟨h,gl,d,t,os⟩:=by
 refine code_tree ?_
 with_reducible refine seg_valD (by with_unfolding_all exact hh) Rp [] 11 (dA 0x0) [] (Fin.again (.builtin "sum" ⟨[.ref acc],[]⟩)) [] [] 0 0 ?_
 intro Tb1 h1 N1 t1 Rp
 refine⟨Code.quiet_builtin _ (by decide+kernel),code_tree ?_⟩
 with_reducible refine seg_valD (by with_unfolding_all exact hh) Rp [] 22 (dA 0x6181186) (dM 7) (Fin.again (.builtin "sum.loop" ⟨[.ref (N1+0),.ref (N1+1),.int 0 0,.int 0 0],[]⟩)) [(N1+1,oL #[.int 0 (t1+0)] 0),(N1+0,oI "list_iterator" #[.ref acc,.int 0 0])] [] 2 1 ?_
 intro Tb2 h2 N2 t2 Rp
 refine⟨Code.quiet_builtin _ (by decide+kernel),?_⟩
 have Rp:=(Rp.mov 1 0).mov 2 1
 have hh':A.in1.handled=none:=hh
 cases two
 ·refine sum_step (j:=0) (b:=y1) Rp rfl (by unfold InLong;exact zqct b1) (by unfold InLong;exact zqep b1) fun h3 Rp=>?_
  refine sum_end (j:=1) hh Rp rfl fun h4 N4 t4 Rp=>?_
  rw[Int.zero_add]
  exact K _ _ _ _ (Rp.sub (.cons _ (.refl _)))
 ·refine sum_step (j:=0) (b:=y1) Rp rfl (by unfold InLong;exact zqct b1) (by unfold InLong;exact zqep b1) fun h3 Rp=>?_
  refine sum_step (j:=1) (b:=y2) Rp rfl (by unfold InLong;exact zqct b2) (by unfold InLong;omega) fun h3 Rp=>?_
  refine sum_end (j:=2) hh Rp rfl fun h4 N4 t4 Rp=>?_
  rw[Int.zero_add]
  exact K _ _ _ _ (Rp.sub (.cons _ (.refl _)))
noncomputable abbrev tlV(x:W2)(dd:Bool)(q1 q2:Addr)(z1:Nat)(v1:Value)(z2:Nat)(v2:Value)(z3:Nat)(v3:Value)(z4:Nat)(v4:Value)(z5:Nat)(v5:Value)(z6:Nat)(v6:Value)(z7:Nat)(v7:Value)(z8 z9:Nat):List DictEntry:=
 En x.B n_first z8 (.ref q1)::En x.B n_second z9 (.ref q2)::En x.B n_rows z1 v1::En x.B n_turned z2 v2::En x.B n_a z3 v3::En x.B n_b z4 v4::En x.B n_c z5 v5::En x.B n_d z6 v6::cond dd [En x.B n_due z7 v7] []
theorem u_s2(bb al dd:Bool)(hdd:al=true→dd=false)(x:W2)(A:Around)(hh:A.handled=none)(Q:Flow→Shared→Prop)(g:G)(hm0:8≤g.m)(hm1:g.m<2^64)(F q1 q2 sg:Addr)(X v:Int)(hv:X%g.m=v)(iv:Nat)
 (k kr kc kt ko ke kw kh kl kd un:Nat) (cn:Int) (vr vt vo ve vh vl vd:Value) (z1 z2 z3 z4 z5 z6 z7 z8 z9:Nat) (v1 v2 v3 v4 v5 v6 v7:Value) (N t:Nat) (h:Heap) (gl:Array GenState) (d os) (rest:Cells)
 (Rp:Rep x.B N h ((F,frX bb al x g k sg kr vr kc cn un kt vt ko vo ke ve kw (.int v iv) kh vh kl vl kd vd (tlV x dd q1 q2 z1 v1 z2 v2 z3 v3 z4 v4 z5 v5 z6 v6 z7 v7 z8 z9))::rest) 0)
 (K:∀h' N' t' iv,Rep x.B N' h' ((F,frX bb al x g k sg kr vr kc cn un kt vt ko vo ke ve kw (.int (cent g.m X) iv) kh vh kl vl kd vd (tlV x dd q1 q2 z1 v1 z2 v2 z3 v3 z4 v4 z5 v5 z6 v6 z7 v7 z8 z9))::rest) 0→wpAny (MB x.B) A (execsZ ((forB (uS x)).drop 2) (lawE x F)) Q noE ⟨h',gl,d,t',os⟩):
 wpAny (MB x.B) A (execsZ ((forB (uS x)).drop 1) (lawE x F)) Q noE ⟨h,gl,d,t,os⟩:=by
 have v0:=Int.emod_nonneg X (show g.m≠0 by exact zqaV hm0)
 have vm:=Int.emod_lt_of_pos X (show 0<g.m by exact zqan hm0)
 rw[hv] at v0 vm
 obtain⟨v2',hv2⟩:∃z,2*v=z:=⟨_,rfl⟩
 obtain⟨rb,hrb⟩:∃b,decide (v2'>g.m)=b:=⟨_,rfl⟩
 have hce:cent g.m X=cond rb (v-g.m) v:=by
  unfold cent
  rw[hv,hv2]
  cases rb
  ·rw[if_neg (of_decide_eq_false hrb)];rfl
  ·rw[if_pos (of_decide_eq_true hrb)];rfl
 rw[hce] at K
 let sb:=bb
 cases bb<;>cases al<;>cases dd<;>try exact absurd (hdd rfl) (by decide)
 all_goals
  refine cut 1 ?_
  with_reducible refine seg_callD (by with_unfolding_all exact hh) Rp [] 16 (dA 0x6) [] (cB "int.__mul__" [.int 2 (t+0),.int (v) iv]) [] [] 0 1 ?_
  intro Tb1 h1 N1 t1 Rp kk1
  refine i_mul (c:=v2') (.inl (intBits_le_64 (by decide) (by decide))) hv2 ?_
  show wpAny ..
  with_reducible refine seg_callD (by with_unfolding_all exact hh) Rp [] 15 (dA 0x6) [] (cB "int.__gt__" [.int (v2') t1,.int (g.m) (g.um)]) [] [] 0 0 ?_
  intro Tb2 h2 N2 t2 Rp kk2
  refine i_gt hrb ?_
  show wpAny ..
  cases rb
  ·with_reducible refine seg_valD (by with_unfolding_all exact hh) Rp [] 20 (dA 0x2186) [] Flow.next [] [.u (dW [])] 0 1 ?_
   intro Tb3 h3 N3 t3 Rp
   exact K _ _ _ _ Rp
  ·with_reducible refine seg_valD (by with_unfolding_all exact hh) Rp [] 27 (dA 0x2181186) [] Flow.next [] [.u (dW [En x.B n_weight kw (.int (v-g.m) (t2+0))])] 0 2 ?_
   intro Tb3 h3 N3 t3 Rp
   exact K _ _ _ _ Rp
theorem u_s3(bb al dd:Bool)(hdd:al=true→dd=false)(x:W2)(A:Around)(hh:A.handled=none)(Q:Flow→Shared→Prop)(g:G)(F q1 q2 sg:Addr)(o1 o2:Array Value)(n1 n2:Nat)(P1 P2:Nat→Int)(ho1:OutIs P1 6 o1)(ho2:OutIs P2 6 o2)(hp1:∀i,i<6→0≤P1 i∧P1 i<1024)(hp2:∀i,i<6→0≤P2 i∧P2 i<1024)(a b c d:Nat)(ha:a<6)(hb:b<6)(hc:c<6)(hd:d<6)(vw:Value)
 (k kr kc kt ko ke kw kh kl kd un:Nat) (cn:Int) (vr vt vo ve vh vl vd:Value) (z1 z2 z3 z4 z5 z6 z7 z8 z9:Nat) (v1 v2 v7:Value) (ua ub uc ud:Nat) (N t:Nat) (h:Heap) (gl:Array GenState) (dr os) (rest:Cells)
 (Rp:Rep x.B N h ((q1,Lst o1 n1)::(q2,Lst o2 n2)::(F,frX bb al x g k sg kr vr kc cn un kt vt ko vo ke ve kw vw kh vh kl vl kd vd (tlV x dd q1 q2 z1 v1 z2 v2 z3 (.int (a:Int) ua) z4 (.int (b:Int) ub) z5 (.int (c:Int) uc) z6 (.int (d:Int) ud) z7 v7 z8 z9))::rest) 0)
 (K:∀h' N' t' u z7,Rep x.B N' h' ((q1,Lst o1 n1)::(q2,Lst o2 n2)::(F,frX bb al x g k sg kr vr kc cn un kt vt ko vo ke ve kw vw kh vh kl vl kd (cond al (.int (due P1 P2 a b c d) u) vd) (tlV x (!al) q1 q2 z1 v1 z2 v2 z3 (.int (a:Int) ua) z4 (.int (b:Int) ub) z5 (.int (c:Int) uc) z6 (.int (d:Int) ud) z7 (cond al v7 (.int (due P1 P2 a b c d) u)) z8 z9))::rest) 0→wpAny (MB x.B) A (execsZ ((forB (uS x)).drop 3) (lawE x F)) Q noE ⟨h',gl,dr,t',os⟩):
 wpAny (MB x.B) A (execsZ ((forB (uS x)).drop 2) (lawE x F)) Q noE ⟨h,gl,dr,t,os⟩:=by
 obtain⟨fa,efa⟩:=ho1.2 a ha
 obtain⟨fb,efb⟩:=ho1.2 b hb
 obtain⟨fc,efc⟩:=ho1.2 c hc
 obtain⟨fd,efd⟩:=ho1.2 d hd
 obtain⟨sa,esa⟩:=ho2.2 a ha
 obtain⟨sb',esb⟩:=ho2.2 b hb
 obtain⟨sc,esc⟩:=ho2.2 c hc
 obtain⟨sd,esd⟩:=ho2.2 d hd
 have b1:=hp1 a ha
 have b2:=hp1 b hb
 have b3:=hp1 c hc
 have b4:=hp1 d hd
 have b5:=hp2 a ha
 have b6:=hp2 b hb
 obtain⟨m1,hm1⟩:∃z,(P1 a-P1 b)*(P2 c-P2 d)=z:=⟨_,rfl⟩
 obtain⟨m2,hm2⟩:∃z,(P2 a-P2 b)*(P1 c-P1 d)=z:=⟨_,rfl⟩
 have hdue:due P1 P2 a b c d=m1-m2:=by unfold due;rw[hm1,hm2]
 rw[hdue] at K
 let sb:=bb
 cases bb<;>cases al<;>cases dd<;>try exact absurd (hdd rfl) (by decide)
 all_goals
  refine cut 1 ?_
  with_reducible refine seg_callD (by with_unfolding_all exact hh) Rp [] 20 (dA 0x6186208) [] (cB "list.__getitem__" [.ref q1,.int ((↑a:Int)) ua]) [] [] 0 0 ?_
  intro Tb1 h1 N1 t1 Rp kk1
  refine l_get Rp 0 rfl (by exact zqaw) (by exact zqaB ha) (by rw[Int.toNat_natCast];exact efa) ?_
  with_reducible refine seg_callD (by with_unfolding_all exact hh) Rp [] 19 (dA 0x6186208) [] (cB "list.__getitem__" [.ref q1,.int ((↑b:Int)) ub]) [] [] 0 0 ?_
  intro Tb2 h2 N2 t2 Rp kk2
  refine l_get Rp 0 rfl (by exact zqaw) (by exact zqaB hb) (by rw[Int.toNat_natCast];exact efb) ?_
  with_reducible refine seg_callD (by with_unfolding_all exact hh) Rp [] 24 (dA 0x1c71c8201) [] (cB "list.__getitem__" [.ref q2,.int ((↑c:Int)) uc]) [] [] 0 1 ?_
  intro Tb3 h3 N3 t3 Rp kk3
  refine l_get Rp 1 rfl (by exact zqaw) (by exact zqaB hc) (by rw[Int.toNat_natCast];exact esc) ?_
  with_reducible refine seg_callD (by with_unfolding_all exact hh) Rp [] 19 (dA 0x71c7208) [] (cB "list.__getitem__" [.ref q2,.int ((↑d:Int)) ud]) [] [] 0 0 ?_
  intro Tb4 h4 N4 t4 Rp kk4
  refine l_get Rp 1 rfl (by exact zqaw) (by exact zqaB hd) (by rw[Int.toNat_natCast];exact esd) ?_
  with_reducible refine seg_callD (by with_unfolding_all exact hh) Rp [] 17 (dA 0x1) [] (cB "int.__mul__" [.int (P1 a-P1 b) (t2+0),.int (P2 c-P2 d) (t4+0)]) [] [] 0 1 ?_
  intro Tb5 h5 N5 t5 Rp kk5
  refine i_mul (c:=m1) (.inl (intBits_le_64 (by exact zqeq b1 b2) (by exact zqer b1 b2))) hm1 ?_
  show wpAny ..
  with_reducible refine seg_callD (by with_unfolding_all exact hh) Rp [] 19 (dA 0x71c7208) [] (cB "list.__getitem__" [.ref q2,.int ((↑a:Int)) ua]) [] [] 0 0 ?_
  intro Tb6 h6 N6 t6 Rp kk6
  refine l_get Rp 1 rfl (by exact zqaw) (by exact zqaB ha) (by rw[Int.toNat_natCast];exact esa) ?_
  with_reducible refine seg_callD (by with_unfolding_all exact hh) Rp [] 19 (dA 0x71c7208) [] (cB "list.__getitem__" [.ref q2,.int ((↑b:Int)) ub]) [] [] 0 0 ?_
  intro Tb7 h7 N7 t7 Rp kk7
  refine l_get Rp 1 rfl (by exact zqaw) (by exact zqaB hb) (by rw[Int.toNat_natCast];exact esb) ?_
  with_reducible refine seg_callD (by with_unfolding_all exact hh) Rp [] 24 (dA 0x186188201) [] (cB "list.__getitem__" [.ref q1,.int ((↑c:Int)) uc]) [] [] 0 1 ?_
  intro Tb8 h8 N8 t8 Rp kk8
  refine l_get Rp 0 rfl (by exact zqaw) (by exact zqaB hc) (by rw[Int.toNat_natCast];exact efc) ?_
  with_reducible refine seg_callD (by with_unfolding_all exact hh) Rp [] 19 (dA 0x6186208) [] (cB "list.__getitem__" [.ref q1,.int ((↑d:Int)) ud]) [] [] 0 0 ?_
  intro Tb9 h9 N9 t9 Rp kk9
  refine l_get Rp 0 rfl (by exact zqaw) (by exact zqaB hd) (by rw[Int.toNat_natCast];exact efd) ?_
  with_reducible refine seg_callD (by with_unfolding_all exact hh) Rp [] 17 (dA 0x1) [] (cB "int.__mul__" [.int (P2 a-P2 b) (t7+0),.int (P1 c-P1 d) (t9+0)]) [] [] 0 1 ?_
  intro Tb10 h10 N10 t10 Rp kk10
  refine i_mul (c:=m2) (.inl (intBits_le_64 (by exact zqeq b5 b6) (by exact zqer b5 b6))) hm2 ?_
  show wpAny ..
  with_reducible refine seg_valD (by with_unfolding_all exact hh) Rp [] 23 (dA 0x4201) [] Flow.next [] [.k,.k,.u (dW [En x.B n_due (t10+1+1) (.int (m1-m2) (t10+1+0))])] 0 2 ?_
  intro Tb11 h11 N11 t11 Rp
  first|exact K _ _ _ _ z7 Rp|exact K _ _ _ _ _ Rp
theorem u_s4(bb al:Bool)(x:W2)(A:Around)(hh:A.handled=none)(Q:Flow→Shared→Prop)(g:G)(hn:0<g.n)(hl0:0<g.l)(hl:g.l≤1024)(hr0:0<g.r)(hr:g.r≤1024)(F q1 q2 sg:Addr)(w du:Int)(hdu:(w*g.l*g.r-du)%g.n=0)(uw u:Nat)
 (k kr kc kt ko ke kw kh kl kd un:Nat) (cn:Int) (vr vt vo ve vh vl vd:Value) (z1 z2 z3 z4 z5 z6 z7 z8 z9:Nat) (v1 v2 v3 v4 v5 v6 v7:Value) (N t:Nat) (h:Heap) (gl:Array GenState) (dr os) (rest:Cells)
 (Rp:Rep x.B N h ((F,frX bb al x g k sg kr vr kc cn un kt vt ko vo ke ve kw (.int w uw) kh vh kl vl kd (cond al (.int du u) vd) (tlV x (!al) q1 q2 z1 v1 z2 v2 z3 v3 z4 v4 z5 v5 z6 v6 z7 (cond al v7 (.int du u)) z8 z9))::(F+2,oC (some (.int g.n g.un)))::rest) 0)
 (K:∀h' N' t',Rep x.B N' h' ((F,frX bb al x g k sg kr vr kc cn un kt vt ko vo ke ve kw (.int w uw) kh vh kl vl kd (cond al (.int du u) vd) (tlV x (!al) q1 q2 z1 v1 z2 v2 z3 v3 z4 v4 z5 v5 z6 v6 z7 (cond al v7 (.int du u)) z8 z9))::(F+2,oC (some (.int g.n g.un)))::rest) 0→Q .next ⟨h',gl,dr,t',os⟩):
 wpAny (MB x.B) A (execsZ ((forB (uS x)).drop 3) (lawE x F)) Q noE ⟨h,gl,dr,t,os⟩:=by
 obtain⟨a1,ha1⟩:∃z,w*g.l=z:=⟨_,rfl⟩
 obtain⟨a2,ha2⟩:∃z,a1*g.r=z:=⟨_,rfl⟩
 rw[ha1,ha2] at hdu
 let sb:=bb
 cases bb<;>cases al
 all_goals
  refine cut 1 ?_
  with_reducible refine seg_callD (by with_unfolding_all exact hh) Rp [] 17 (dA 0x186) [] (cB "int.__mul__" [.int (w) uw,.int (g.l) (g.ul)]) [] [] 0 0 ?_
  intro Tb1 h1 N1 t1 Rp kk1
  refine i_mul (c:=a1) (.inr (intBits_le_64 (by exact zqes hl0) (by exact zqco hl))) ha1 ?_
  show wpAny ..
  with_reducible refine seg_callD (by with_unfolding_all exact hh) Rp [] 14 (dA 0x6) [] (cB "int.__mul__" [.int (a1) t1,.int (g.r) (g.ur)]) [] [] 0 0 ?_
  intro Tb2 h2 N2 t2 Rp kk2
  refine i_mul (c:=a2) (.inr (intBits_le_64 (by exact zqes hr0) (by exact zqco hr))) ha2 ?_
  show wpAny ..
  with_reducible refine seg_callD (by with_unfolding_all exact hh) Rp [] 21 (dA 0x7046) [] (cB "int.__mod__" [.int (a2-du) (t2+1+0),.int (g.n) (g.un)]) [] [] 0 1 ?_
  intro Tb3 h3 N3 t3 Rp kk3
  refine i_mod (c:=0) (by exact zqaG hn) (by rw[Int.fmod_eq_emod_of_nonneg _ (by exact zqam hn)];exact hdu) ?_
  show wpAny ..
  with_reducible refine seg_valD (by with_unfolding_all exact hh) Rp [] 17 (dA 0x1) [] Flow.next [] [] 0 1 ?_
  intro Tb4 h4 N4 t4 Rp
  show wpAny _ _ (execsZ ..) ..
  with_reducible refine seg_valD (by with_unfolding_all exact hh) Rp [] 11 (dA 0x0) [] Flow.next [] [] 0 0 ?_
  intro Tb5 h5 N5 t5 Rp
  exact K _ _ _ Rp
structure Cls where
 two:Bool
 r1:Nat
 r2:Nat
 tu:Int
 a:Nat
 b:Nat
 c:Nat
 d:Nat
noncomputable abbrev Cls.row(q:Cls)(s:Addr)(u:Nat→Nat):Obj:=oT #[.ref s,.int q.tu (u 0),.int (q.a:Int) (u 1),.int (q.b:Int) (u 2),.int (q.c:Int) (u 3),.int (q.d:Int) (u 4)]
noncomputable abbrev q5(r:Nat→Nat):Obj:=oT #[.ref (r 0),.ref (r 1),.ref (r 2),.ref (r 3),.ref (r 4)]
theorem tq_next(x:W2){A:Around}{R:Result→Shared→Prop}{h:Heap}{gl:Array GenState}{d:Drawn}{t:Nat}{os:OsState}{N j:Nat}{tab:Cells}{it T:Addr}{w:Nat→Nat}(hj:j<5)(hh:A.handled=none)(Rp:Rep x.B N h ((it,TupIt T (j:Int))::(T,q5 w)::tab) 0)
 (K:∀h' N' t',Rep x.B N' h' ((it,TupIt T ((j+1:Nat):Int))::(T,q5 w)::tab) 0→R (.ok (.ret (.ref (w j)))) ⟨h',gl,d,t',os⟩):
 codeAny (MB x.B) A (.call (.builtin "tuple_iterator.__next__") ⟨[.ref it],[]⟩) R ⟨h,gl,d,t,os⟩:=by
 with_reducible refine seg_codeD (by with_unfolding_all exact hh) Rp [] 18 (dA 0x861c6186) [] (.ok (.ret (.ref (w j)))) [] [.u fun _=>TupIt T ((j+1:Nat):Int)] 0 0 ?_ aN ?_
 ·rcases(by exact zqae hj:j=0∨j=1∨j=2∨j=3∨j=4) with rfl|rfl|rfl|rfl|rfl
  all_goals rfl'
 ·intro Tb1 h1 N1 t1 Rp
  exact K _ _ _ Rp
noncomputable abbrev tlU(x:W2)(lt al:Bool)(z1:Nat)(v1:Value)(z2:Nat)(v2:Value)(z3:Nat)(v3:Value)(z4:Nat)(v4:Value)(z5:Nat)(v5:Value)(z6:Nat)(v6:Value)(z7:Nat)(v7:Value)(z8:Nat)(v8:Value)(z9:Nat)(v9:Value):List DictEntry:=
 En x.B n_first z8 v8::En x.B n_second z9 v9::cond lt (En x.B n_rows z1 v1::En x.B n_turned z2 v2::En x.B n_a z3 v3::En x.B n_b z4 v4::En x.B n_c z5 v5::En x.B n_d z6 v6::cond al [] [En x.B n_due z7 v7]) []
theorem mul_bd2{a b:Int}{m n:Nat}(ha:a.natAbs≤m)(hb:b.natAbs≤n):(a*b).natAbs≤m*n:=by
 rw[Int.natAbs_mul]
 exact Nat.mul_le_mul ha hb
noncomputable def Cls.sum(q:Cls)(Tf:Nat→Option Int):Int:=cond q.two ((Tf q.r1).getD 0+(Tf q.r2).getD 0) ((Tf q.r1).getD 0)
theorem u_turn(bb al lt two:Bool)(x:W2)(A:Around)(hh:A.handled=none)(hA:A.depth<380)(R:Result→Shared→Prop)(g:G)(F it T rj s q1 q2 nd l o D sg:Addr)(o1 o2:Array Value)(n1 n2:Nat)(P1 P2:Nat→Int)(ho1:OutIs P1 6 o1)(ho2:OutIs P2 6 o2)(q:Cls)(r:Nat→Nat)(j:Nat)(hj:j<5)(hr:r j=rj)(hq:q.two=two)(w1 w2:Nat)(u ks us:Nat→Nat)(full:List Ent)(hne:full≠[])(Tf:Nat→Option Int)(hT:TabIs full Tf)(hTb:∀r,r<5→((Tf r).getD 0).natAbs<2^62)(htu:q.tu.natAbs≤2^30)(hm0:8≤g.m)(hm1:g.m<2^64)(hgn:0<g.n)(hl0:0<g.l)(hgl:g.l≤1024)(hr0:0<g.r)(hgr:g.r≤1024)(hp1:∀i,i<6→0≤P1 i∧P1 i<1024)(hp2:∀i,i<6→0≤P2 i∧P2 i<1024)(ha:q.a<6)(hb:q.b<6)(hc:q.c<6)(hd:q.d<6)(hcl:(cent g.m (q.tu*q.sum Tf)*g.l*g.r-due P1 P2 q.a q.b q.c q.d)%g.n=0)(n kl0:Nat)(hs:g.s<4)(hr1:q.r1<5)(hr2:q.r2<5)
 (k kr kc kt ko ke kw kh kl kd un:Nat) (cn:Int) (vr vt vo ve vw vh vl vd:Value) (z1 z2 z3 z4 z5 z6 z7 z8 z9:Nat) (v1 v2 v3 v4 v5 v6 v7:Value) (N t:Nat) (h:Heap) (gl:Array GenState) (d os) (cs:Cells) (hE:EsOk g.s full cs)
 (Rp:Rep x.B N h ((it,TupIt T (j:Int))::(T,q5 r)::(rj,q.row s u)::(s,rowsO two q.r1 q.r2 w1 w2)::(q1,Lst o1 n1)::(q2,Lst o2 n2)::(F,frX bb al x g k sg kr vr kc cn un kt vt ko vo ke ve kw vw kh vh kl vl kd vd (tlU x lt al z1 v1 z2 v2 z3 v3 z4 v4 z5 v5 z6 v6 z7 v7 z8 (.ref q1) z9 (.ref q2)))::(F+2,oC (some (.int g.n g.un)))::(F+6,oC (some (.ref nd)))::(F+7,oC (some (.ref o)))::(nd,namesO x.B g.s ks us 5)::(l,Lst (itemsOf full) n)::(o,HdO D)::(D,HdD x kl0 l)::cs) 0)
 (K:∀h' N' t' vw vd z1 v1 z2 v2 z3 v3 z4 v4 z5 v5 z6 v6 z7 v7,Rep x.B N' h' ((it,TupIt T ((j+1:Nat):Int))::(T,q5 r)::(rj,q.row s u)::(s,rowsO two q.r1 q.r2 w1 w2)::(q1,Lst o1 n1)::(q2,Lst o2 n2)::(F,frX bb al x g k sg kr vr kc cn un kt vt ko vo ke ve kw vw kh vh kl vl kd vd (tlU x true al z1 v1 z2 v2 z3 v3 z4 v4 z5 v5 z6 v6 z7 v7 z8 (.ref q1) z9 (.ref q2)))::(F+2,oC (some (.int g.n g.un)))::(F+6,oC (some (.ref nd)))::(F+7,oC (some (.ref o)))::(nd,namesO x.B g.s ks us 5)::(l,Lst (itemsOf full) n)::(o,HdO D)::(D,HdD x kl0 l)::cs) 0→codeAny (MB x.B) A (loopOf (uS x) (.ref it) (lawE x F)) R ⟨h',gl,d,t',os⟩):
 codeAny (MB x.B) A (loopOf (uS x) (.ref it) (lawE x F)) R ⟨h,gl,d,t,os⟩:=by
 let sb:=bb
 let stwo:=two;let sal:=al;let slt:=lt;cases bb<;>cases al<;>cases lt<;>cases two
 all_goals
  refine for_turn (pyNext_of ⟨_,Rp.at (n:=0) rfl,rfl⟩ PySem.F.slot_tuple_iterator_next (tq_next x hj hh Rp fun h7 N7 t7 Rp=>?_))
  rw[hr]
  show wpAny _ _ (letOwnedTupleGo _ _ _) _ _ _
  with_reducible refine seg_valD (by with_unfolding_all exact hh) Rp [] 12 (dA 0x6) [] () [] [] 0 0 ?_
  intro Tb1 h1 N1 t1 Rp
  with_reducible refine seg_valD (by with_unfolding_all exact hh) Rp [] 139 (dA 0xb3cb3cb3cb3cb3cb3c6086246186046086246186046086246186046086246186046086246186046086246186046086246186046188048208) (dM 8) () [] [.k,.k,.k,.k,.k,.k,.u (dW [En x.B n_rows (t1+0) (.ref s),En x.B n_turned (t1+1) (.int (q.tu) (u 0)),En x.B n_a (t1+2) (.int ((↑q.a:Int)) (u 1)),En x.B n_b (t1+3) (.int ((↑q.b:Int)) (u 2)),En x.B n_c (t1+4) (.int ((↑q.c:Int)) (u 3)),En x.B n_d (t1+5) (.int ((↑q.d:Int)) (u 4))])] 3 6 ?_
  intro Tb2 h2 N2 t2 Rp
  show wpAny _ _ (execsZ ..) ..
  refine cut 1 ?_
  with_reducible refine seg_callD (by with_unfolding_all exact hh) Rp [] 33 (dA 0x18904924c041301) (dM 15) (.compStart (mE x) 0 (.ref (N2+0)) (.ref (N2+1)) (mEnv x F (N2+2))) [(N2+2,oD #[] 0),(N2+1,oL #[] 0),(N2+0,oI "tuple_iterator" #[.ref s,.int 0 0])] [] 3 0 ?_
  intro Tb3 h3 N3 t3 Rp kk3
  refine comp_startT (by rfl') Rp 2 rfl ?_
  have Rp:=((((((((Rp.mov 2 0).mov 6 1).mov 13 4).mov 14 5).mov 15 6).mov 16 7).mov 15 8).mov 16 9)
  refine m_all stwo x (A.under _) hh (by show A.depth+0<390;exact zqcm hA) _ F (N2+2) (N2+1) _ s nd l o D g.s hs q.r1 q.r2 w1 w2 hr1 hr2 full hne Tf hT (fun r hr=>Nat.lt_of_lt_of_le (hTb r hr) (by decide)) kl0 n ks us _ _ _ _ _ _ _ (hE.mono fun z m=>List.mem_append_right [_,_,_,_,_,_,_] m) Rp fun h4 N4 t4 ux uy nv kz vz Rp=>?_
  show wpAny ..
  with_reducible refine seg_callD (by with_unfolding_all exact hh) Rp [] 17 (dA 0x31c7) [] (cB "sum" [.ref (N2+1)]) [] [.k,.d] 0 0 ?_
  intro Tb5 h5 N5 t5 Rp kk5
  refine sum12 stwo x (A.under _) hh _ (N2+1) ((Tf q.r1).getD 0) ((Tf q.r2).getD 0) (hTb _ hr1) (hTb _ hr2) ux uy nv _ _ _ _ _ _ _ (Rp.mov 1 0) fun h5 N5 t5 us5 Rp=>?_
  obtain⟨y,hy⟩:∃z,cond stwo ((Tf q.r1).getD 0+(Tf q.r2).getD 0) ((Tf q.r1).getD 0)=z:=⟨_,rfl⟩
  rw[hy]
  have hyb:y.natAbs≤2^63:=by
   have e1:=hTb _ hr1
   have e2:=hTb _ hr2
   rw[←hy]
   cases stwo
   ·show((Tf q.r1).getD 0).natAbs≤2^63;exact zqhk e1
   ·show((Tf q.r1).getD 0+(Tf q.r2).getD 0).natAbs≤2^63;exact zqhl e1 e2
  obtain⟨X,hX⟩:∃z,q.tu*y=z:=⟨_,rfl⟩
  have hXb:=mul_bd2 htu hyb
  rw[hX] at hXb
  obtain⟨v,hv⟩:∃z,X%g.m=z:=⟨_,rfl⟩
  show wpAny ..
  with_reducible refine seg_callD (by with_unfolding_all exact hh) Rp [] 13 (dA 0x0) [] (cB "int.__mul__" [.int (q.tu) (u 0),.int (y) us5]) [] [] 0 0 ?_
  intro Tb6 h6 N6 t6 Rp kk6
  refine i_mul (c:=X) (.inl (intBits_le_64 (by exact zqhm htu) (by exact zqhn htu))) hX ?_
  show wpAny ..
  with_reducible refine seg_callD (by with_unfolding_all exact hh) Rp [] 15 (dA 0x52) [] (cR 101 [.int (X) t6,.int (g.m) (g.um)]) [] [] 0 0 ?_
  intro Tb8 h8 N8 t8 Rp kk8
  refine idm_any x (A.under _) hh (by show A.depth+0<470;exact zqcn hA) _ X g.m _ v (by exact zqho hXb) (by exact zqhp hXb) (by exact zqci hm0) (by exact zqdR hm1) rfl (by rw[Int.fmod_eq_emod_of_nonneg _ (by exact zqcg hm0)];exact hv) _ _ _ _ _ _ _ _ _ Rp fun h6 N6 t6 ia iu iv Rp=>?_
  show wpAny ..
  with_reducible refine seg_valD (by with_unfolding_all exact hh) Rp [] 31 (dA 0xf4c1186046186) [] Flow.next [] [.d,.k,.k,.k,.k,.k,.k,.k,.k,.k,.k,.k,.k,.u (dW [En x.B n_weight kw (.int (v) iv)])] 0 2 ?_
  intro Tb9 h9 N9 t9 Rp
  show wpAny _ _ (execsZ ..) ..
  have hcl':(cent g.m X*g.l*g.r-due P1 P2 q.a q.b q.c q.d)%g.n=0:=by
   have e:q.sum Tf=y:=by unfold Cls.sum;rw[hq];exact hy
   rw[e,hX] at hcl
   exact hcl
  refine u_s2 sb sal (match sal with|true=>false|false=>slt) (by intro e;first|rfl|exact absurd (show false=true from e) (by decide)) x _ hh _ g hm0 hm1 F q1 q2 sg X v hv _ k kr kc kt ko ke kw kh kl kd un cn vr vt vo ve vh vl vd _ _ _ _ _ _ z7 z8 z9 _ _ _ _ _ _ v7 _ _ _ _ _ _ _ (Rp.mov 12 0) fun h7 N7 t7 iv Rp=>?_
  refine u_s3 sb sal (match sal with|true=>false|false=>slt) (by intro e;first|rfl|exact absurd (show false=true from e) (by decide)) x _ hh _ g F q1 q2 sg o1 o2 n1 n2 P1 P2 ho1 ho2 hp1 hp2 q.a q.b q.c q.d ha hb hc hd _ k kr kc kt ko ke kw kh kl kd un cn vr vt vo ve vh vl vd _ _ _ _ _ _ z7 z8 z9 _ _ v7 _ _ _ _ _ _ _ _ _ _ _ ((Rp.mov 11 0).mov 12 1) fun h8 N8 t8 ud z7 Rp=>?_
  refine u_s4 sb sal x _ hh _ g hgn hl0 hgl hr0 hgr F q1 q2 sg _ _ hcl' _ ud k kr kc kt ko ke kw kh kl kd un cn vr vt vo ve vh vl vd _ _ _ _ _ _ z7 z8 z9 _ _ _ _ _ _ v7 _ _ _ _ _ _ _ ((Rp.mov 2 0).mov 13 1) fun h9 N9 t9 Rp=>?_
  exact K _ _ _ _ _ _ _ _ _ _ _ _ _ _ _ _ _ z7 (cond sal v7 (.int (due P1 P2 q.a q.b q.c q.d) ud)) ((((((((Rp.mov 11 0).mov 12 1).mov 13 2).mov 7 3).mov 6 4).mov 7 5).mov 12 8).mov 13 9)
noncomputable def Q0:Cls:=⟨false,3,3,-1,0,1,4,5⟩
noncomputable def Q1:Cls:=⟨false,0,0,-1,1,2,3,4⟩
noncomputable def Q2(m:Int):Cls:=⟨true,2,4,-m,1,2,4,5⟩
noncomputable def Q3(m:Int):Cls:=⟨true,1,4,-m,3,4,0,1⟩
noncomputable def Q4(m:Int):Cls:=⟨true,1,2,-m,2,3,1,4⟩
theorem u_end(x:W2)(A:Around)(hh:A.handled=none)(R:Result→Shared→Prop)(F it T:Addr)(r:Nat→Nat)(N t:Nat)(h:Heap)(gl d os)(rest:Cells)
 (Rp:Rep x.B N h ((it,TupIt T ((5:Nat):Int))::(T,q5 r)::rest) 0)
 (K:∀h' N' t',Rep x.B N' h' rest 0→R (.ok .next) ⟨h',gl,d,t',os⟩):
 codeAny (MB x.B) A (loopOf (uS x) (.ref it) (lawE x F)) R ⟨h,gl,d,t,os⟩:=by
 refine code_tree ?_
 with_reducible refine seg_valD (by with_unfolding_all exact hh) Rp [] 27 (dA 0x60861c6186046) (dM 4) (Fin.again (.block [] (lawE x F))) [] [.u fun _=>oI "tuple_iterator" #[.none,.int 5 0]] 2 0 ?_
 intro Tb1 h1 N1 t1 Rp
 refine⟨rfl,code_tree ?_⟩
 with_reducible refine seg_valD (by with_unfolding_all exact hh) Rp [] 11 (dA 0x0) [] (Fin.done Flow.next) [] [.d,.d] 0 0 ?_
 intro Tb2 h2 N2 t2 Rp
 exact K _ _ _ Rp
theorem w13(bb al:Bool)(x:W2)(A:Around)(hh:A.handled=none)(hA:A.depth<370)(Q:Flow→Shared→Prop)(g:G)(F q1 q2 nd l o D sg:Addr)(o1 o2:Array Value)(n1 n2:Nat)(P1 P2:Nat→Int)(ho1:OutIs P1 6 o1)(ho2:OutIs P2 6 o2)(full:List Ent)(hne:full≠[])(Tf:Nat→Option Int)(hT:TabIs full Tf)(hTb:∀r,r<5→((Tf r).getD 0).natAbs<2^62)(hq:0<g.q∧g.q≤2^30)(hm:g.m=g.q*g.q+1)(hm0:8≤g.m)(hm1:g.m<2^64)(hgn:0<g.n)(hl0:0<g.l)(hgl:g.l≤1024)(hr0:0<g.r)(hgr:g.r≤1024)(hp1:∀i,i<6→0≤P1 i∧P1 i<1024)(hp2:∀i,i<6→0≤P2 i∧P2 i<1024)(hcl:Close g.n g.q g.l g.r (fun i=>(Tf i).getD 0) P1 P2)(n kl0:Nat)(hs:g.s<4)(ks us:Nat→Nat)
 (k kr kc kt ko ke kw kh kl kd un:Nat) (cn:Int) (vr vt vo ve vw vh vl vd:Value) (z8 z9:Nat) (N t:Nat) (h:Heap) (gl:Array GenState) (d os) (cs:Cells) (hE:EsOk g.s full cs)
 (Rp:Rep x.B N h ((q1,Lst o1 n1)::(q2,Lst o2 n2)::(F,frX bb al x g k sg kr vr kc cn un kt vt ko vo ke ve kw vw kh vh kl vl kd vd [En x.B n_first z8 (.ref q1),En x.B n_second z9 (.ref q2)])::(F+2,oC (some (.int g.n g.un)))::(F+6,oC (some (.ref nd)))::(F+7,oC (some (.ref o)))::(nd,namesO x.B g.s ks us 5)::(l,Lst (itemsOf full) n)::(o,HdO D)::(D,HdD x kl0 l)::cs) 0)
 (K:∀h' N' t' tab,Rep x.B N' h' tab 0→Q (.ret (.bool true)) ⟨h',gl,d,t',os⟩):
 wpAny (MB x.B) A (execsZ (bodyOf (fdOf x.B 288) |>.drop 13) (lawE x F)) Q (fun _ _=>False) ⟨h,gl,d,t,os⟩:=by
 obtain⟨c1,c2,c3,c4,c5⟩:=hcl
 rw[←hm] at c1 c2 c3 c4 c5
 let sb:=bb
 let sal:=al;cases bb<;>cases al
 all_goals
  refine cut 1 ?_
  with_reducible refine seg_callD (by with_unfolding_all exact hh) Rp [] 105 (dA 0x618118605104f04d041) (dM 8191) (loopOf (uS x) (.ref (N+11)) (lawE x F)) [(N+11,oI "tuple_iterator" #[.ref (N+10),.int 0 0]),(N+10,oT #[.ref (N+1),.ref (N+3),.ref (N+5),.ref (N+7),.ref (N+9)]),(N+9,oT #[.ref (N+8),.int (-g.q) (t+30),.int 2 (t+31),.int 3 (t+32),.int 1 (t+33),.int 4 (t+34)]),(N+8,oT #[.str (S [40,40,41,41,40,41]) (t+28),.str (S [40,41,40,40,41,41]) (t+29)]),(N+7,oT #[.ref (N+6),.int (-g.q) (t+23),.int 3 (t+24),.int 4 (t+25),.int 0 (t+26),.int 1 (t+27)]),(N+6,oT #[.str (S [40,40,41,41,40,41]) (t+21),.str (S [40,40,40,41,41,41]) (t+22)]),(N+5,oT #[.ref (N+4),.int (-g.q) (t+16),.int 1 (t+17),.int 2 (t+18),.int 4 (t+19),.int 5 (t+20)]),(N+4,oT #[.str (S [40,41,40,40,41,41]) (t+14),.str (S [40,40,40,41,41,41]) (t+15)]),(N+3,oT #[.ref (N+2),.int (-1) (t+9),.int 1 (t+10),.int 2 (t+11),.int 3 (t+12),.int 4 (t+13)]),(N+2,oT #[.str (S [40,41,40,41,40,41]) (t+7)]),(N+1,oT #[.ref (N+0),.int (-1) (t+2),.int 0 (t+3),.int 1 (t+4),.int 4 (t+5),.int 5 (t+6)]),(N+0,oT #[.str (S [40,40,41,40,41,41]) (t+0)])] [] 12 35 ?_
  intro Tb1 h1 N1 t1 Rp kk1
  refine u_turn sb sal false false x A hh (by exact zqaH hA) _ g F _ _ _ _ q1 q2 nd l o D sg o1 o2 n1 n2 P1 P2 ho1 ho2 Q0 (fun i=>N+(2*i+1)) 0 (by decide) rfl rfl (t+0) 0 (fun i=>t+(2+i)) ks us full hne Tf hT hTb (by decide) hm0 hm1 hgn hl0 hgl hr0 hgr hp1 hp2 (by decide) (by decide) (by decide) (by decide) c1 n kl0 hs (by decide) (by decide) k kr kc kt ko ke kw kh kl kd un cn vr vt vo ve vw vh vl vd 0 0 0 0 0 0 0 z8 z9 .none .none .none .none .none .none .none _ _ _ gl d os _ (hE.mono fun z m=>List.mem_append_right [_,_,_,_,_,_,_,_] m) ((((((((Rp.mov 2 21).mov 2 21).mov 2 21).mov 2 21).mov 2 21).mov 2 21).mov 2 21).mov 2 21) fun h1 N1 t1 vw vd z1 v1 z2 v2 z3 v3 z4 v4 z5 v5 z6 v6 z7 v7 Rp=>?_
  refine u_turn sb sal true false x A hh (by exact zqaH hA) _ g F _ _ _ _ q1 q2 nd l o D sg o1 o2 n1 n2 P1 P2 ho1 ho2 Q1 (fun i=>N+(2*i+1)) 1 (by decide) rfl rfl (t+7) 0 (fun i=>t+(9+i)) ks us full hne Tf hT hTb (by decide) hm0 hm1 hgn hl0 hgl hr0 hgr hp1 hp2 (by decide) (by decide) (by decide) (by decide) c2 n kl0 hs (by decide) (by decide) k kr kc kt ko ke kw kh kl kd un cn vr vt vo ve vw vh vl vd _ _ _ _ _ _ _ z8 z9 _ _ _ _ _ _ _ _ _ _ gl d os _ (hE.mono fun z m=>List.mem_append_right [_,_,_,_,_,_,_,_] m) ((((Rp.mov 2 21).mov 2 21).mov 18 2).mov 19 3) fun h1 N1 t1 vw vd z1 v1 z2 v2 z3 v3 z4 v4 z5 v5 z6 v6 z7 v7 Rp=>?_
  refine u_turn sb sal true true x A hh (by exact zqaH hA) _ g F _ _ _ _ q1 q2 nd l o D sg o1 o2 n1 n2 P1 P2 ho1 ho2 (Q2 g.q) (fun i=>N+(2*i+1)) 2 (by decide) rfl rfl (t+14) (t+15) (fun i=>t+(16+i)) ks us full hne Tf hT hTb (by show(-g.q).natAbs≤2^30;exact zqcu hq) hm0 hm1 hgn hl0 hgl hr0 hgr hp1 hp2 (by show 1<6;decide) (by show 2<6;decide) (by show 4<6;decide) (by show 5<6;decide) c3 n kl0 hs (by show 2<5;decide) (by show 4<5;decide) k kr kc kt ko ke kw kh kl kd un cn vr vt vo ve vw vh vl vd _ _ _ _ _ _ _ z8 z9 _ _ _ _ _ _ _ _ _ _ gl d os _ (hE.mono fun z m=>List.mem_append_right [_,_,_,_,_,_,_,_] m) ((((Rp.mov 2 21).mov 2 21).mov 16 2).mov 17 3) fun h1 N1 t1 vw vd z1 v1 z2 v2 z3 v3 z4 v4 z5 v5 z6 v6 z7 v7 Rp=>?_
  refine u_turn sb sal true true x A hh (by exact zqaH hA) _ g F _ _ _ _ q1 q2 nd l o D sg o1 o2 n1 n2 P1 P2 ho1 ho2 (Q3 g.q) (fun i=>N+(2*i+1)) 3 (by decide) rfl rfl (t+21) (t+22) (fun i=>t+(23+i)) ks us full hne Tf hT hTb (by show(-g.q).natAbs≤2^30;exact zqcu hq) hm0 hm1 hgn hl0 hgl hr0 hgr hp1 hp2 (by show 3<6;decide) (by show 4<6;decide) (by show 0<6;decide) (by show 1<6;decide) c4 n kl0 hs (by show 1<5;decide) (by show 4<5;decide) k kr kc kt ko ke kw kh kl kd un cn vr vt vo ve vw vh vl vd _ _ _ _ _ _ _ z8 z9 _ _ _ _ _ _ _ _ _ _ gl d os _ (hE.mono fun z m=>List.mem_append_right [_,_,_,_,_,_,_,_] m) ((((Rp.mov 2 21).mov 2 21).mov 14 2).mov 15 3) fun h1 N1 t1 vw vd z1 v1 z2 v2 z3 v3 z4 v4 z5 v5 z6 v6 z7 v7 Rp=>?_
  refine u_turn sb sal true true x A hh (by exact zqaH hA) _ g F _ _ _ _ q1 q2 nd l o D sg o1 o2 n1 n2 P1 P2 ho1 ho2 (Q4 g.q) (fun i=>N+(2*i+1)) 4 (by decide) rfl rfl (t+28) (t+29) (fun i=>t+(30+i)) ks us full hne Tf hT hTb (by show(-g.q).natAbs≤2^30;exact zqcu hq) hm0 hm1 hgn hl0 hgl hr0 hgr hp1 hp2 (by show 2<6;decide) (by show 3<6;decide) (by show 1<6;decide) (by show 4<6;decide) c5 n kl0 hs (by show 1<5;decide) (by show 2<5;decide) k kr kc kt ko ke kw kh kl kd un cn vr vt vo ve vw vh vl vd _ _ _ _ _ _ _ z8 z9 _ _ _ _ _ _ _ _ _ _ gl d os _ (hE.mono fun z m=>List.mem_append_right [_,_,_,_,_,_,_,_] m) ((((Rp.mov 2 21).mov 2 21).mov 12 2).mov 13 3) fun h1 N1 t1 vw vd z1 v1 z2 v2 z3 v3 z4 v4 z5 v5 z6 v6 z7 v7 Rp=>?_
  refine u_end x A hh _ F _ _ (fun i=>N+(2*i+1)) _ _ _ _ _ _ _ Rp fun h2 N2 t2 Rp=>?_
  show wpAny ..
  with_reducible refine seg_valD (by with_unfolding_all exact hh) Rp [] 11 (dA 0x0) [] Flow.next [] [] 0 0 ?_
  intro Tb3 h3 N3 t3 Rp
  show wpAny _ _ (execsZ ..) ..
  refine cut 1 ?_
  with_reducible refine seg_valD (by with_unfolding_all exact hh) Rp [] 12 (dA 0x0) [] (Flow.ret (.bool true)) [] [] 0 0 ?_
  intro Tb4 h4 N4 t4 Rp
  exact K _ _ _ _ Rp
theorem en_callL{B:Base}{A:Around}{R:Result→Shared→Prop}{h:Heap}{gl:Array GenState}{d:Drawn}{t:Nat}{os:OsState}{N n:Nat}{tab:Cells}{l:Addr}{items:Array Value}(hh:A.handled=none)(Rp:Rep B N h tab 0)(i:Nat)(hx:nth tab i=some (l,Lst items n))
 (K:∀h' N' t' e it,Rep B N' h' ((e,EnumO .none (.ref it) 0 .none)::(it,ListIt l ((0:Nat):Int))::tab) 0→R (.ok (.ret (.ref e))) ⟨h',gl,d,t',os⟩):codeAny (MB B) A (.call (.type "enumerate") ⟨[.ref l],[]⟩) R ⟨h,gl,d,t,os⟩:=by
 refine code_tree ?_
 with_reducible refine seg_valD (by with_unfolding_all exact hh) Rp [] 11 (dA 0x0) [] (Fin.again (.builtin "type.__call__" ⟨[.type "enumerate",.ref l],[]⟩)) [] [] 0 0 ?_
 intro Tb1 h1 N1 t1 Rp
 refine⟨Code.quiet_builtin _ (by decide+kernel),code_tree ?_⟩
 with_reducible refine seg_callD (by with_unfolding_all exact hh) Rp [] 11 (dA 0x0) [] (cB "enumerate.__new__" [.type "enumerate",.ref l]) [] [] 0 0 ?_
 intro Tb2 h2 N2 t2 Rp kk2
 refine en_newL hh Rp i hx fun hx Nx tx e it Rp=>?_
 show wpAny ..
 with_reducible refine seg_valD (by with_unfolding_all exact hh) Rp [] 18 (dA 0x6181186) [] (Fin.done (Flow.ret (.ref e))) [] [] 0 0 ?_
 intro Tb3 h3 N3 t3 Rp
 exact K _ _ _ _ _ Rp
theorem rep0(x:W2):Rep x.B 290 x.h₁ [] 0:=by
 refine⟨⟨OldK.refl _,fun a o e=>stat2_ok x.H x.hl e,?_,?_,?_⟩,x.hs,Nat.le_refl _,fun p hp=>(nomatch hp),List.nodup_nil⟩
 ·have hsome:(x.B.stat 2).isSome=true:=by rfl'
  obtain⟨o,e⟩:=Option.isSome_iff_exists.mp hsome
  have hs:x.h₁.get? 2=x.B.stat 2:=by rw[e];exact stat2_ok x.H x.hl e
  refine⟨_,.of_isNs (a:=cStatics) ?_,?_⟩
  ·show(match x.h₁.get? 2 with
    |some o=>(match o.data with| .dict es _=>es.all (fun e=>match e.key with| .str _ _=>true|_=>false)|_=>false)
    |none=>false)=true
   rw[hs]
   rfl'
  ·show(match x.h₁.get? 2 with
    |some o=>(match o.data with| .dict es _=>nsFind es "sys.recursionlimit"|_=>none)
    |none=>none)=none
   rw[hs]
   rfl'
 ·refine⟨#[],?_,.inl rfl⟩
  have q:=x.H _ _ (show(tr x.w.params).get 75=some (Tab #[]) by rfl')
  exact q
 ·refine⟨#[],?_,.inl rfl⟩
  have q:=x.H _ _ (show(tr x.w.params).get 82=some (Tab #[]) by rfl')
  exact q
noncomputable abbrev A0(x:W2):Around:=callerA.under (.func (bodyOf (fdOf x.B 288)) (lawE x 290))
theorem A0_depth(x:W2):(A0 x).depth<310:=Nat.le_of_ble_eq_true (by rfl')
theorem A0_handled(x:W2):(A0 x).handled=none:=by rfl
theorem ints_at{l:List Value}{ns:List Int}(h:IntsAre l ns):∀(i:Nat) v,l[i]? =some v→∃c u,v=.int c u:=by
 induction h with
 |nil=>intro i v e;simp at e
 |cons n t _ ih=>
  intro i v e
  cases i with
  |zero=>cases e;exact⟨_,_,rfl⟩
  |succ i=>exact ih i v e
theorem cells0(t:Nat):CellsOk #[.int 13977 (t+0),.int 531 (t+1),.int 233 (t+2),.int 442 (t+3),.int 50 (t+4),.int 39 (t+5)] 13977:=by
 refine⟨rfl,fun i hi=>?_⟩
 obtain rfl|rfl|rfl|rfl|rfl|rfl:i=0∨i=1∨i=2∨i=3∨i=4∨i=5:=by exact zqaW hi
 all_goals exact⟨_,_,rfl,by decide,by decide⟩
theorem CellsOk.mono{items:Array Value}{m m':Int}(h:CellsOk items m)(e:m≤m'):CellsOk items m':=
 ⟨h.size,fun i hi=>let⟨c,u,a,b,l⟩:=h.at' i hi;⟨c,u,a,b,Int.le_trans l e⟩⟩
noncomputable abbrev rest0:Cells:=[(298,oC none),(297,oC none),(296,oC none),(295,oC none),(294,oC none),(293,oC none),(292,oC none)]
theorem start(x:W2)(ns:List Int)(hi:IntsAre x.vs ns)(hn:ns.length≤63)(R:Result→Shared→Prop)(t:Nat)(gl d os)
 (K:∀(bb:Bool) h' N' t' (cl:Addr) items n ks kc kd ud D pl,CellsOk items 60013977→Rep x.B N' h' ((cl,Lst items n)::(290,fr0 bb x ks kc cl kd D ud)::(291,oC pl)::rest0) 0→
  wpAny (MB x.B) (A0 x) (execsZ (bodyOf (fdOf x.B 288) |>.drop 2) (lawE x 290)) (fun f s'=>R (.ok (.ret (flowVal f))) s') (fun _ _=>False) ⟨h',gl,d,t',os⟩):
 codeAny (MB x.B) callerA (cR 288 [.ref 289]) R ⟨x.h₁,gl,d,t,os⟩:=by
 have hh:callerA.handled=none:=rfl
 have Rp:=rep0 x
 have hys:=slice_ints_uptoW hi (y:=60) (by decide)
 obtain⟨ys,ey⟩:∃ys,slicePick x.vs.toArray none (some 60) none=ys:=⟨_,rfl⟩
 rw[ey] at hys
 have hyl:ys.size≤60:=by
  rw[←Array.length_toList,hys.length,List.length_take];omega
 have hya:∀(i:Nat) v,ys[i]? =some v→∃c u,v=.int c u:=fun i v e=>ints_at hys i v (by rw[Array.getElem?_toList];exact e)
 have hvs:x.vs.toArray.size≤2^24:=by rw[List.size_toArray,hi.length];omega
 refine enterD hh Rp (by decide) 26 (dA 0x28e041) (bodyOf (fdOf x.B 288)) (lawE x 290) [(298,oC none),(297,oC none),(296,oC none),(295,oC none),(294,oC none),(293,oC none),(292,oC none),(291,oC none),(290,oF #[En x.B n_script (t+0) (.ref 289)] 1)] 9 1 (by rfl') ?_
 intro Tb1 h1 N1 t1 Rp
 have Rp:=(Rp.mov 8 0).mov 8 1
 refine cut 1 ?_
 with_reducible refine seg_valD (by with_unfolding_all exact hh) Rp [] 27 (dA 0xc7) (dM 3) Flow.next [(N1+0,oL #[.int 13977 (t1+0),.int 531 (t1+1),.int 233 (t1+2),.int 442 (t1+3),.int 50 (t1+4),.int 39 (t1+5)] 0)] [.u (dW [En x.B n_cells (t1+6) (.ref (N1+0))])] 1 7 ?_
 intro Tb2 h2 N2 t2 Rp
 show wpAny _ _ (execsZ ..) ..
 refine cut 1 ?_
 with_reducible refine seg_callD (by with_unfolding_all exact hh) Rp [] 23 (dA 0x41047041) (dM 3) (cB "list.__getitem__" [.ref 289,.ref (N2+0)]) [(N2+0,oI "slice" #[.none,.int 60 (t2+0),.none])] [] 1 1 ?_
 intro Tb3 h3 N3 t3 Rp kk3
 refine l_sliceS (n:=0) Rp (Rp.kt (by rfl')) 0 rfl .none (.int _ _) .none (by simp) hvs ey fun h21 N21 a21 Rp=>?_
 show wpAny ..
 with_reducible refine seg_callD (by with_unfolding_all exact hh) Rp [] 13 (dA 0x0) [] (.call (.type "enumerate") ⟨[.ref a21],[]⟩) [] [.k,.d] 0 0 ?_
 intro Tb4 h4 N4 t4 Rp kk4
 refine en_callL hh Rp 0 rfl fun h22 N22 t22 e it Rp=>?_
 show wpAny ..
 with_reducible refine seg_callD (by with_unfolding_all exact hh) Rp [] 21 (dA 0x6181186) [] (loopOf (stmtAt x.B 288 1) (.ref e) (lawE x 290)) [] [] 0 0 ?_
 intro Tb5 h5 N5 t5 Rp kk5
 rcases Nat.eq_zero_or_pos ys.size with hz|hz
 ·refine for_turn (pyNext_of ⟨_,Rp.at (n:=0) rfl,rfl⟩ PySem.F.slot_enumerate_next (en_endL (i:=0) hh _ Rp (by rw[Array.getElem?_eq_none_iff];omega) fun h7 N7 t7 a7 v7 Rp=>?_))
  refine⟨⟨_,Rp.at (n:=0) rfl,rfl⟩,?_⟩
  show codeAny _ _ (.block (forE (stmtAt x.B 288 1)) (lawE x 290)) _ _
  with_reducible refine seg_codeD (by with_unfolding_all exact hh) Rp [] 11 (dA 0x0) [] (.ok .next) [] [.d,.d] 0 0 (by rfl') aN ?_
  intro Tb6 h6 N6 t6 Rp
  show wpAny ..
  with_reducible refine seg_valD (by with_unfolding_all exact hh) Rp [] 11 (dA 0x0) [] Flow.next [] [] 0 0 ?_
  intro Tb8 h8 N8 t8 Rp
  exact K false _ _ _ _ _ _ _ _ 0 0 0 _ ((cells0 _).mono (by decide)) Rp
 ·obtain⟨c,u,hv⟩:=hya 0 ys[0] (Array.getElem?_eq_getElem hz)
  refine sc1 x (A0 x) (A0_handled x) _ 290 e it _ _ ys _ 0 _ _ _ _ 13977 c u _ (by rw[Array.getElem?_eq_getElem hz,hv]) (by decide) (cells0 _) (by decide) _ _ _ gl d os rest0 Rp fun h' N' t' items' kd v n ho' Rp=>?_
  refine sc_loop x (A0 x) (A0_handled x) _ 290 e it _ _ ys _ _ _ hya hyl gl d os rest0 (ys.size-1) 1 (by omega) items' _ _ ho' (by omega) _ _ _ _ _ _ _ _ _ Rp fun h' N' t' items' n kd up ud P D ho Rp=>?_
  show wpAny ..
  with_reducible refine seg_valD (by with_unfolding_all exact hh) Rp [] 11 (dA 0x0) [] Flow.next [] [] 0 0 ?_
  intro Tb6 h6 N6 t6 Rp
  exact K true _ _ _ _ _ _ _ _ _ _ _ _ (ho.mono (by omega)) Rp
noncomputable def P10(g:G)(i:Nat):Int:=if i<2 then(g.b+g.l)%g.n else g.b%g.n
noncomputable def P20(g:G)(i:Nat):Int:=if i<4 then g.b%g.n else(g.b+g.r)%g.n
noncomputable def T10(r:Nat):Option Int:=if r=0 then some 1 else none
theorem linv0(g:G)(hq:1000<g.q):LInv g (P10 g) (P20 g) T10 0:=by
 refine⟨⟨0,1,0,0,0⟩,⟨0,0,0,-1,0⟩,⟨1,0,0,0,0⟩,fun i hi=>?_,fun i hi=>?_,⟨rfl,rfl,rfl,rfl,rfl,rfl,rfl,rfl⟩,fun i hi=>?_,by decide⟩
 ·obtain⟨a,ea⟩:=emod_eq (g.b+g.l) g.n
  obtain⟨b,eb⟩:=emod_eq g.b g.n
  unfold P10
  rw[ea,eb]
  rcases(by exact zqae hi:i=0∨i=1∨i=2∨i=3∨i=4) with rfl|rfl|rfl|rfl|rfl
  ·exact⟨0,by simp[Six.at]⟩
  ·exact⟨b-a,by simp[Six.at,Int.mul_sub];omega⟩
  ·exact⟨0,by simp[Six.at]⟩
  ·exact⟨0,by simp[Six.at]⟩
  ·exact⟨0,by simp[Six.at]⟩
 ·obtain⟨a,ea⟩:=emod_eq (g.b+g.r) g.n
  obtain⟨b,eb⟩:=emod_eq g.b g.n
  unfold P20
  rw[ea,eb]
  rcases(by exact zqae hi:i=0∨i=1∨i=2∨i=3∨i=4) with rfl|rfl|rfl|rfl|rfl
  ·exact⟨0,by simp[Six.at]⟩
  ·exact⟨0,by simp[Six.at]⟩
  ·exact⟨0,by simp[Six.at]⟩
  ·exact⟨a-b,by simp[Six.at,Int.mul_sub];omega⟩
  ·exact⟨0,by simp[Six.at]⟩
 ·rcases(by exact zqae hi:i=0∨i=1∨i=2∨i=3∨i=4) with rfl|rfl|rfl|rfl|rfl
  ·have:=Int.mul_pos (show 0<g.q by exact zqas hq) (show 0<g.q by exact zqas hq)
   exact⟨⟨0,by simp[gradeT,Five.at]⟩,by omega,by omega⟩
  all_goals exact rfl
theorem tab0(a tk tv:Nat):TabIs [⟨a,tk,tv,0,false,[49]⟩] T10:=by
 intro r hr
 rcases(by exact zqae hr:r=0∨r=1∨r=2∨r=3∨r=4) with rfl|rfl|rfl|rfl|rfl<;>rfl
theorem pic_of{g:G}{L:List (Int×Nat)}{cs:List Clr}{P:Nat→Int}{T:Cells}(h:g.Cols L cs)(hL:L.length=6)(hP:∀i,i<6→∃k u,L[i]? =some (k,u)∧P i=k%g.n)(hT:∀c∈cs,c.cell∈T):g.Pic P cs T:=by
 refine⟨h.1.trans hL,fun i hi=>?_⟩
 obtain⟨k,u,e1,e2⟩:=hP i hi
 obtain⟨c,e3,e4⟩:=h.2 i k u e1
 exact⟨c,e3,e2▸e4,hT c (List.mem_of_getElem? e3)⟩
theorem mem_rc{cs:List Clr}{c:Clr}{T:Cells}(h:c∈cs):c.cell∈rcells cs T:=by
 unfold rcells
 exact List.mem_append_left _ (List.mem_map_of_mem (List.mem_reverse.mpr h))
theorem mem_rc2{cs:List Clr}{z:Addr×Obj}{T:Cells}(h:z∈T):z∈rcells cs T:=by
 unfold rcells
 exact List.mem_append_right _ h
theorem pic1{g:G}{w3 w4:Nat}{cs1 cs2:List Clr}(h:g.Cols (L1 g w3 w4) cs1):g.Pic (P10 g) cs1 (rcells cs2 (rcells cs1 [])):=by
 refine pic_of h rfl (fun i hi=>?_) (fun c m=>mem_rc2 (mem_rc m))
 rcases(by exact zqaW hi:i=0∨i=1∨i=2∨i=3∨i=4∨i=5) with rfl|rfl|rfl|rfl|rfl|rfl<;>exact⟨_,_,rfl,rfl⟩
theorem pic2{g:G}{w1 w2:Nat}{cs1 cs2:List Clr}(h:g.Cols (L2 g w1 w2) cs2):g.Pic (P20 g) cs2 (rcells cs2 (rcells cs1 [])):=by
 refine pic_of h rfl (fun i hi=>?_) (fun c m=>mem_rc m)
 rcases(by exact zqaW hi:i=0∨i=1∨i=2∨i=3∨i=4∨i=5) with rfl|rfl|rfl|rfl|rfl|rfl<;>exact⟨_,_,rfl,rfl⟩
theorem tab_bd{g:G}{P1 P2:Nat→Int}{Tf:Nat→Option Int}(hI:LInv g P1 P2 Tf 5)(hq:0<g.q)(hq2:g.q≤2^30):∀r,r<5→((Tf r).getD 0).natAbs<2^62:=by
 obtain⟨_,_,_,_,_,_,hW,_⟩:=hI
 intro r hr
 have h2:=Int.mul_le_mul hq2 hq2 (show 0≤g.q by exact zqam hq) (by decide)
 cases e:Tf r with
 |none=>decide
 |some v=>
  have:=(hW r hr).bd v e
  show v.natAbs<2^62
  omega
theorem pic_bd{g:G}{w:Int}(hw:g.Wheel w){P:Nat→Int}{cs:List Clr}{T:Cells}(h:g.Pic P cs T):∀i,i<6→0≤P i∧P i<1024:=by
 intro i hi
 obtain⟨c,_,e,_⟩:=h.at' i hi
 have h1:=e.1
 have h2:=e.2.1
 have h3:=hw.n1
 omega
theorem rc_perm{X Y:Cells}(p:X.Perm Y)(cs:List Clr):(rcells cs X).Perm (rcells cs Y):=p.append_left _
theorem tail1(bb:Bool)(x:W2)(Q:Flow→Shared→Prop)(cl:Addr)(c0 c1 c2 c3 c4 c5:Int)(u0 u1 u2 u3 u4 u5 n ks kc kd ud:Nat)(D:Int)(pl:Option Value)(h0:0≤c0)(h1:0≤c1)(h2:0≤c2)(h3:0≤c3)(h4:0≤c4)(h5:0≤c5)
 (N t:Nat) (h:Heap) (gl d os) (hgb:AllBare gl)
 (Rp:Rep x.B N h ((cl,Lst (sixC c0 c1 c2 c3 c4 c5 u0 u1 u2 u3 u4 u5) n)::(290,fr0 bb x ks kc cl kd D ud)::(291,oC pl)::rest0) 0)
 (K:∀h' N' t' gl' tab,AllBare gl'→Rep x.B N' h' tab 0→Q (.ret (.bool true)) ⟨h',gl',d,t',os⟩):
 wpAny (MB x.B) (A0 x) (execsZ (bodyOf (fdOf x.B 288) |>.drop 2) (lawE x 290)) Q (fun _ _=>False) ⟨h,gl,d,t,os⟩:=by
 have hh:=A0_handled x
 have hA:=A0_depth x
 refine w1 bb x (A0 x) hh Q 290 cl c0 c1 c2 c3 c4 c5 u0 u1 u2 u3 u4 u5 n ks kc kd ud D h0 h1 h2 h3 N t h gl d os _ (((Rp.mov 9 2).mov 9 3).mov 9 4) fun h N t g l1 l2 st k y1 y2 y3 y4 hg hcl Rp=>?_
 subst hcl
 obtain⟨w,hw⟩:=hg.wheel
 have hn1:=hw.n1
 have hn0:=hw.n0
 have hqq:=Int.mul_le_mul hg.q2 hg.q2 (show 0≤g.q by have:=hg.q1;exact zqba this) (by decide)
 have hq1:=hg.q1
 have hmm:=hg.m1
 have hqp:=Int.mul_le_mul (show 1000≤g.q by exact zqaY hq1) (show 1000≤g.q by exact zqaY hq1) (by decide) (by exact zqba hq1)
 have hl1:=hg.l1
 have hl2:=hg.l2
 have hr1:=hg.r1
 have hr2:=hg.r2
 refine w2 bb x (A0 x) hh (by exact zqbD hA) Q 290 g c0 c1 c2 c3 hg l1 l2 st k y1 y2 y3 y4 _ _ _ gl d os _ (Rp.mov 3 7) fun h N t sg p1 p2 n0 n1 n2 k cs1 cs2 hc1 hc2 Rp=>?_
 have Rp:=Rep.tail [_,_,_,_,_,_,_] Rp (rc_perm (rc_out cs1 [_,_,_,_,_,_] []) cs2)
 have Rp:=Rep.tail [_,_,_,_,_,_,_] Rp (rc_out cs2 [_,_,_,_,_,_] _)
 refine w3 bb x (A0 x) hh (by exact zqbD hA) Q 290 g hg.s1 sg k _ _ _ gl d os _ ((Rp.mov 1 0).mov 11 1) fun h N t M kn un kr vr Rp=>?_
 refine w4 bb x (A0 x) hh (by exact zqbD hA) Q 290 g hg.s1 k kr vr sg (M+290) kn un _ _ _ gl d os _ (Rp.mov 12 3) fun h N t o DD l a tk tv kl Rp=>?_
 have Rp:=(((((((((((Rp.mov 14 0).mov 9 1).mov 13 2).mov 14 3).mov 15 5).mov 13 6).mov 14 7).mov 15 8).mov 17 9).mov 12 11).mov 17 12)
 refine w11 bb x (A0 x) hh (by exact zqbD hA) Q g w hw hg.a1 hg.v1 hg.s1 hg.q1 hg.q2 hg.m1 290 c0 c1 c2 c3 c4 c5 u0 u1 u2 u3 u4 u5 n h0 h1 h2 h3 h4 h5 sg (M+290) l o DD n0 p1 p2 kl kn un k [⟨a,tk,tv,0,false,[49]⟩] (P10 g) (P20 g) T10 0 _ cs1 cs2 n1 n2 kr vr pl none none (linv0 g hg.q1) (by simp) (Nat.le_refl _) (tab0 a tk tv) (fun e m=>by obtain rfl:=List.mem_singleton.mp m;exact⟨by show 0<5;decide,.head _⟩) ((pic1 hc1).mono fun z m=>.tail _ m) ((pic2 hc2).mono fun z m=>.tail _ m) _ _ _ gl hgb d os Rp ?_
 intro h N t gl full Pa Pb Tf n T cs1 cs2 m1 m2 kr kc kt ko ke kw kh kl' kd un' cn vr vt vo ve vw vh vl vd ph pl pp oc hgb hI hne hl hT hE hP1 hP2 Rp
 refine w12 bb ph x (A0 x) hh (by exact zqet hA) Q g w hw hg.a1 hg.v1 290 sg n0 p1 p2 m1 m2 Pa Pb cs1 cs2 k kr kc kt ko ke kw kh kl' kd un' cn vr vt vo ve vw vh vl vd _ _ _ gl d os _ (hP1.mono fun z m=>List.mem_append_right [_,_,_,_,_,_,_,_,_,_,_] m) (hP2.mono fun z m=>List.mem_append_right [_,_,_,_,_,_,_,_,_,_,_] m) (Rp.mov 5 4) fun h N t q1 q2 o1 o2 k1 k2 m3 m4 ho1 ho2 Rp=>?_
 have hTb:=tab_bd hI (by exact zqas hq1) hg.q2
 obtain⟨x6,y6,w5,hf,hs,hB,hW,hN⟩:=hI
 refine w13 bb ph x (A0 x) hh (by exact zqet hA) Q g 290 q1 q2 (M+290) l o DD sg o1 o2 m3 m4 Pa Pb ho1 ho2 full hne Tf hT hTb ⟨by exact zqas hq1,hg.q2⟩ hg.m1 (by exact zqhq hmm hqp) (by exact zqhr hqq hmm) (by exact zqan hn0) hl1 (by exact zqeu hn1 hl2) hr1 (by exact zqeu hn1 hr2) (pic_bd hw hP1) (pic_bd hw hP2) (close_ok hg.q1 hB hf hs hW hN) n kl hg.s1 kn un k kr kc kt ko ke kw kh kl' kd un' cn vr vt vo ve vw vh vl vd k1 k2 _ _ _ gl d os _ (hE.mono fun z m=>List.mem_append_right [_,_,_,_,_] m) (((((Rp.mov 4 14).mov 4 14).mov 4 14).mov 4 14).mov 6 14) fun h N t tab Rp=>?_
 exact K _ _ _ _ _ hgb Rp
theorem CellsOk.six{items:Array Value}{m:Int}(h:CellsOk items m):∃c0 c1 c2 c3 c4 c5 u0 u1 u2 u3 u4 u5,items=sixC c0 c1 c2 c3 c4 c5 u0 u1 u2 u3 u4 u5∧0≤c0∧0≤c1∧0≤c2∧0≤c3∧0≤c4∧0≤c5:=by
 obtain⟨c0,u0,e0,a0,_⟩:=h.at' 0 (by decide)
 obtain⟨c1,u1,e1,a1,_⟩:=h.at' 1 (by decide)
 obtain⟨c2,u2,e2,a2,_⟩:=h.at' 2 (by decide)
 obtain⟨c3,u3,e3,a3,_⟩:=h.at' 3 (by decide)
 obtain⟨c4,u4,e4,a4,_⟩:=h.at' 4 (by decide)
 obtain⟨c5,u5,e5,a5,_⟩:=h.at' 5 (by decide)
 refine⟨c0,c1,c2,c3,c4,c5,u0,u1,u2,u3,u4,u5,?_,a0,a1,a2,a3,a4,a5⟩
 refine Array.ext_getElem? fun i=>?_
 rcases(by omega:i=0∨i=1∨i=2∨i=3∨i=4∨i=5∨6≤i) with rfl|rfl|rfl|rfl|rfl|rfl|q
 ·exact e0
 ·exact e1
 ·exact e2
 ·exact e3
 ·exact e4
 ·exact e5
 ·rw[Array.getElem?_eq_none_iff.mpr (by rw[h.size];exact q),Array.getElem?_eq_none_iff.mpr (by exact q)]
theorem law1(w:World)(h₁:Heap)(d:Drawn)(t:Nat)(os:OsState)(ns:List Int)(vs:List Value)(hi:IntsAre vs ns)(hn:ns.length≤63)
 (H:KH h₁ w.params) (hs:h₁.objs.size=290) (hl:h₁.get? 289=some {cls:=.type "list",data:=.seq vs.toArray}):
 wpAny (model PySem.Challenge.pw_ta0116_01 w) callerA (call (.ref 288) [.ref 289]) (Good h₁ os) (fun _ _=>False) ⟨h₁,#[],d,t,os⟩:=by
 have x:∃x:W2,x.w=w∧x.vs=vs∧x.h₁=h₁:=⟨⟨w,vs,h₁,hs,H,hl⟩,rfl,rfl,rfl⟩
 obtain⟨x,rfl,rfl,rfl⟩:=x
 refine wpAny_call ?_
 have fin:∀h' N' t' (gl':Array GenState) tab,AllBare gl'→Rep x.B N' h' tab 0→Good x.h₁ os (.bool true) ⟨h',gl',d,t',os⟩:=fun h' N' t' gl' tab hb Rp=>
  ⟨rfl,(show Inv2 x.h₁ x.w x.vs h' from Rp.inv).old,rfl,hb⟩
 refine start x ns hi hn _ t #[] d os fun bb h' N' t' cl items n ks kc kd ud D pl hc Rp=>?_
 obtain⟨c0,c1,c2,c3,c4,c5,u0,u1,u2,u3,u4,u5,rfl,a0,a1,a2,a3,a4,a5⟩:=hc.six
 exact tail1 bb x _ cl c0 c1 c2 c3 c4 c5 u0 u1 u2 u3 u4 u5 n ks kc kd ud D pl a0 a1 a2 a3 a4 a5 N' t' h' #[] d os AllBare.empty Rp fun h' N' t' gl' tab hb Rp=>fin _ _ _ _ _ hb Rp
theorem law1_holds:PySem.Challenge.rw_ta0116_01.Holds:=top1 fun w h₁ d t os ns vs hi hn H hs hl _=>law1 w h₁ d t os ns vs hi hn H hs hl
end Mine
theorem PySem.Challenge.cw_ta0116_01_holds : PySem.Challenge.rw_ta0116_01.Holds :=
 Mine.law1_holds
