import PyProof.Rows.All
import Wide.All
import OpenK.AllK
import Wide.FinOn
import PyProof.Rows.DivFacts
import PyProof.StrReplace2
import Lean
import PySem.Challenge.RW_ta0116_02
set_option Elab.async false
set_option maxRecDepth 1000000
set_option maxHeartbeats 0
set_option linter.all false
local macro_rules | `(tactic| rfl') => `(tactic| kernel_rfl!)
namespace Mine
theorem nb{a:Int}{c:Nat}(h:0≤a)(k:a<c):a.natAbs<c:=by omega
theorem dl{a m b m' b':Nat}(h:a+m<b)(e:Nat.ble (m'+b) (b'+m)=true):a+m'<b':=by
 have:=Nat.le_of_ble_eq_true e;omega
theorem dO:∀{a:Int},0≤a→a<2^20→(16*a*2^20).natAbs<2^53:=by intros;subst_vars;lia
theorem dR:∀{a:Int},0≤a→a≤2^24→a.natAbs<2^53:=by intros;exact nb ‹_› (Int.lt_of_le_of_lt ‹_› (by decide))
theorem eS:∀{a:Int},a=2^24→a.natAbs<2^53:=by intros;subst_vars;decide
theorem fn:∀{a:Int},0≤a→0≤a:=by intros;assumption
theorem fB:∀{a:Nat},a<800→a+0<900:=by decide
theorem fV:∀{a:Int},16*a*2^20/2^24=a:=by intros;simp+arith
theorem lL:∀{a b c:Int},a*b=c→a*b=c:=by intros;assumption
theorem gF:∀{a:Int},0≤a→0≤16*a:=by lia
theorem gM:∀{a:Int},0≤a→a<2^24→a.natAbs<2^53:=by intros;exact nb ‹_› (Int.lt_trans ‹_› (by decide))
theorem gW:∀{a b:Int},a<2^24→b=2^24-a→0<b:=by intros;subst_vars;lia
theorem gV:∀{a:Int},0≤a→a<2^20→(16*a).natAbs<2^53:=by intros;subst_vars;lia
theorem gU:∀{a:Int},16*a*1048576=16*a*2^20:=by intros;rfl
theorem gT:∀{a:Int},0≤a→0≤16*a*2^20:=by lia
theorem jt:∀{a:Nat},a<60→a≤2^24:=by decide
theorem iQ:∀{a:Int},0<a∧a≤2^24→(2^25-a).natAbs<2^53:=by intros;subst_vars;lia
theorem js:∀{a:Int},0<a∧a≤2^24→2^24-a<2^24:=by intros;rename_i h;cases h<;>lia
theorem jr:∀{a:Int},a<2^24→a≤2^24:=by intros;subst_vars;lia
theorem jU:∀{a b:Int},a=2^24-b→b=0∨b=2^23→a.natAbs<2^53:=by intros;subst_vars;omega
theorem lh:∀{a:Int},0≤a→a<2^24→(2^24-a).natAbs<2^53:=by omega
theorem rA:∀{a:Int},a.natAbs<2^17→-2^64<a:=by omega
theorem ru:∀{a:Int},a.natAbs<2^17→a<2^64:=by omega
theorem my:∀{a:Int},2^24-a≤2^24-a:=by intros;simp
theorem mx:∀{a:Int},a=2^24- (2^24-a):=by intros;simp+arith
theorem mw:∀{a:Int},a≤2^24→a≤2^24:=by intros;assumption
theorem mu:∀{a b:Int},a≤b→a≤b:=by intros;assumption
theorem ms:∀{a:Int},0≤a→a≤2^24→(2^24-a).natAbs<2^53:=by intros;subst_vars;lia
theorem mz:∀{a b c:Int},(2^24-a)*2^24=b*c→(2^24-a)*2^24=b*c:=by intros;assumption
theorem mP:∀{a:Int},a=0∨a=2^23→a.natAbs<2^53:=by intros;rename_i h;rcases h with rfl|rfl<;>decide
theorem mO:∀{a:Nat},0≤(↑a:Int):=by intros;constructor<;>assumption
theorem nI:∀{a:Int},0<a∧a≤2^24→0≤2^24-a:=by intros;rename_i h;cases h<;>lia
theorem nH:∀{a:Int},0<a∧a≤2^24→2^24-a≤2^24:=by intros;rename_i h;cases h<;>lia
theorem n7:∀{a:Nat},a<900→a<1000:=by decide
theorem oS:∀{a:Nat},a<500→a+1<600:=by decide
theorem rB:∀{a:Int},0≤a→¬a<0:=by lia
theorem oR:∀{a:Int},a<2^24→¬a=1*2^24:=by lia
theorem oQ:∀{a:Int},1*2^24-a=2^24-a:=by intros;rfl
theorem vW:∀{a:Nat},a<320→a+0<500:=by decide
theorem vV:∀{a:Nat},a<60→a<1000:=by decide
theorem vU:∀{a b:Int},a/96=b→a/96=b:=by intros;assumption
theorem oP:∀{a b:Int},0<a∧a≤2^24∧0≤b∧b<2→(2*a).natAbs<2^53:=by omega
theorem oO:∀{a b:Int},0<a∧a≤2^24∧0≤b∧b<2→(33554432-2*a).natAbs<2^53:=by omega
theorem oN:∀{a:Int},0<a∧a≤2^24→(2^24-a/2).natAbs<2^53:=by omega
theorem oM:∀{a:Int},0<a∧a≤2^24→0≤2^24-a/2:=by intros;rename_i h;cases h<;>lia
theorem oK:∀{a:Int},2*(2^24-a/2)=2^25-a→(2^24-a/2)*2=2^25-a:=by simp+arith;done
theorem oJ:∀{a:Int},0<a∧a≤2^24→a.natAbs<2^53:=by omega
theorem oH:∀{a:Int},2*2^24- (2^25-a)=a:=by intros;simp+arith
theorem vT:∀{a:Nat},a<40→0<40- (↑a:Int):=by decide
theorem vS:∀{a:Nat},(↑a:Int)+1=(↑(a+1):Int):=by intros;rfl
theorem vR:∀{a:Nat},40- (↑a:Int)-1=40- (↑(a+1):Int):=by intros;simp+arith
theorem qW:∀{a:Int},0≤a→¬16*a<0:=by lia
theorem qV:∀{a:Int},a<2^24→a<2^24:=by intros;assumption
theorem qU:∀{a:Int},a=0∨a=2^23→(2^24+a).natAbs<2^53:=by intros;rename_i h;rcases h with rfl|rfl<;>decide
theorem qT:∀{a:Int},a=2^23→(2^24-a).natAbs<2^53:=by intros;subst_vars;decide
theorem qS:∀{a:Int},0<a→0≤a:=by intros;subst_vars;lia
theorem sO:∀{a:Int},a.natAbs≤100000→a.natAbs<2^17:=by lia
theorem sN:∀{a:Nat},a<500→a<1000:=by decide
theorem sM:∀{a:Int},16777216-a=2^24-a:=by intros;rfl
theorem sL:∀{a:Int},0≤a→a≤2^24→(33554432+a).natAbs<2^53:=by omega
theorem sK:∀{a:Int},a=2^24→0≤a:=by intros;subst_vars;decide
theorem sJ:∀{a:Int},a=2^24→a≤2^24:=by intros;subst_vars;decide
theorem sI:∀{a:Int},0*2^24=0*a:=by intros;simp
theorem z4:∀{a:Nat},a<310→a<800:=by decide
theorem tK:∀{a:Int},a%2=0→a%2=0:=by intros;assumption
theorem vF:∀{a:Nat},a<310→a<600:=by decide
theorem z3:∀{a b:Nat},a+(b+1)=37→a<40:=by lia
theorem sH:∀{a:Nat},a<310→a+0<320:=by decide
theorem tJ:∀{a:Int},a<2^24→0≤2^24-a:=by intros;subst_vars;lia
theorem tI:∀{a b:Nat},(↑a:Int)< (↑b:Int)→a<b:=by simp+arith;done
theorem z2:∀{a:Nat},a%2=0→(↑a:Int)%2=0:=by lia
theorem tH:∀{a:Int},a≤2^24→¬1*2^24<a:=by intros;subst_vars;lia
theorem vE:∀{a:Int},¬a%2=0→a%2=1:=by lia
theorem vD:∀{a b:Int},0<a∧a≤2^24→0≤b∧b<a→0≤2^24- (a-b):=by intros;rename_i h;cases h<;>lia
theorem vC:∀{a b:Int},0≤a∧a<b→2^24- (b-a)≤2^24:=by intros;subst_vars;lia
theorem vB:∀{a b:Int},0≤a∧a<b→2^24-b≤2^24- (b-a):=by intros;subst_vars;lia
theorem vA:∀{a:Int},0≤a→2^24-a≤2^24:=by lia
theorem vz:∀{a b:Int},0<a∧a≤2^24→0≤b∧b<a→0≤2^24-b:=by intros;rename_i h;cases h<;>lia
theorem vy:∀{a b:Int},0≤a∧a<b→2^24-a≤2^24:=by intros;subst_vars;lia
theorem vQ:∀{a b:Int},0≤a∧a<b→2^24-b≤2^24-a:=by intros;subst_vars;lia
theorem vP:∀{a b:Int},2^24-a=2^24-a∨2^24-a=2^24-b:=by intros;simp
theorem vO:∀{a:Int},0<a→¬a=0:=by lia
theorem vN:∀{a b c:Int},a=b∨a=c→a=b∨a=c:=by intros;assumption
theorem vM:∀{a b:Int},a=2^24-b→1*2^24-b=a:=by intros;subst_vars;rfl
theorem vL:∀{a:Int},0*2^24*2^24=0*a:=by intros;simp
theorem vK:∀{a b:Int},a<2^24→b=2^24→¬a=b:=by lia
theorem vJ:∀{a b c d:Int},0≤a→0≤b→c=a∨c=b→c<2^24→d=2^24-c→d.natAbs<2^53:=by intros;subst_vars;omega
theorem vI:∀{a b c d:Int},0≤a→b=c∨b=a→b<2^24→d=2^24-b→c=2^24→d.natAbs<2^53:=by intros;subst_vars;omega
theorem vH:∀{a b c d:Int},0≤a→b=a∨b=c→d=2^24-b→a<2^24→c=2^24→d.natAbs<2^53:=by intros;subst_vars;omega
theorem xi:∀{a:Nat},a<310→a<500:=by decide
theorem Bm:∀{a:Nat},a<330→a+0<460:=by decide
theorem Bl:∀{a:Int},a.natAbs<2^17→-2^58<a:=by omega
theorem Bk:∀{a:Int},a.natAbs<2^17→a<2^58:=by omega
theorem Bj:∀{a:Int},a.natAbs<2^17→-1073741824<a∧a<1073741824:=by omega
theorem Bi:∀{a b:Int},a.natAbs<b.natAbs→¬(↑a.natAbs:Int)≥(↑b.natAbs:Int):=by simp+arith;done
theorem Bh:∀{a:Int},-2^18≤a∧a≤2^18→-2^64<a:=by intros;rename_i h;cases h<;>lia
theorem Bg:∀{a:Int},-2^18≤a∧a≤2^18→a<2^64:=by intros;rename_i h;cases h<;>lia
theorem Bf:∀{a:Nat},a<330→a+0<440:=by decide
theorem Be:∀{a:Int},-2^18≤a∧a≤2^18→-2^37≤a:=by intros;rename_i h;cases h<;>lia
theorem Bd:∀{a:Int},-2^18≤a∧a≤2^18→a≤2^37:=by intros;rename_i h;cases h<;>lia
theorem Bc:∀{a b:Int},a.natAbs<2^17→b.natAbs<a.natAbs→-2^64<b:=by omega
theorem Bb:∀{a b:Int},a.natAbs<2^17→b.natAbs<a.natAbs→b<2^64:=by omega
theorem Ba:∀{a:Int},-2^20<a∧a<2^20→-2^64<a:=by intros;rename_i h;cases h<;>lia
theorem A9:∀{a:Int},-2^20<a∧a<2^20→a<2^64:=by intros;rename_i h;cases h<;>lia
theorem vG:∀{a b:Int},0<a∧a≤2^24∧0≤b∧b<2→a.natAbs<2^53:=by omega
theorem vx:∀{a b:Int},0<a∧a≤2^24∧0≤b∧b<2→0≤a:=by intros;rename_i h;cases h<;>lia
theorem vw:∀{a:Int},a*2=2*a:=by intros;simp+arith
theorem vt:∀{a:Int},2*2^24-2*a=33554432-2*a:=by intros;rfl
theorem vq:∀{a b:Int},0<a∧a≤2^24∧0≤b∧b<2→0≤33554432-2*a:=by omega
theorem vp:∀{a b:Int},(2^25-2*a)/2^24=b→(33554432-2*a)/2^24=b:=by intros;assumption
theorem vo:∀{a b:Int},0<a∧a≤2^24∧0≤b∧b<2→b<2^63:=by intros;rename_i h;cases h<;>lia
theorem vn:∀{a:Int},a%2=1→a%2=1:=by intros;assumption
theorem xe:∀{a:Int},a=0∨a=2^23→(2^23+a/2).natAbs<2^53:=by intros;rename_i h;rcases h with rfl|rfl<;>decide
theorem xd:∀{a:Int},a=0∨a=2^23→(2^24+a)*2^24=(2^23+a/2)*33554432:=by intros;rename_i h;rcases h with rfl|rfl<;>decide
theorem xc:∀{a:Int},a=0→(2^23+a/2).natAbs<2^53:=by intros;subst_vars;decide
theorem xb:∀{a:Int},a=0→2^23+a/2≤8388608:=by intros;subst_vars;decide
theorem xa:∀{a b:Int},a=2^24-b→b=0→a.natAbs<2^53:=by intros;subst_vars;decide
theorem w9:∀{a:Int},a=0→(2^24+a).natAbs<2^53:=by intros;subst_vars;decide
theorem w6:∀{a:Int},a=0→0<2^24+a:=by intros;subst_vars;decide
theorem w5:∀{a b:Int},a=2^24-b→b=0→a*2^24=2^24*(2^24+b):=by intros;subst_vars;rfl
theorem wZ:∀{a:Int},a=2^23→(2^23+a/2).natAbs<2^53:=by intros;subst_vars;decide
theorem wY:∀{a:Int},a=2^23→¬2^23+a/2≤8388608:=by intros;subst_vars;decide
theorem wX:∀{a:Int},a=2^23→a.natAbs<2^53:=by intros;subst_vars;decide
theorem wW:∀{a b:Int},a=2^24-b→b=2^23→a.natAbs<2^53:=by intros;subst_vars;decide
theorem wV:∀{a:Int},a=2^23→0<2^24-a:=by intros;subst_vars;decide
theorem wU:∀{a b:Int},a=2^24-b→a*2^24=2^24*(2^24-b):=by intros;subst_vars;lia
theorem wT:∀{a:Nat},a≤2^10→a≤2^20:=by decide
theorem wS:∀{a:Nat},a<600→a+1<800:=by decide
theorem wR:∀{a:Nat},a<4→a=0∨a=1∨a=2∨a=3:=by decide
theorem A7:∀{a:Nat},a<330→a+0<480:=by decide
theorem wQ:∀{a:Nat},a<310→a<330:=by decide
theorem xh:∀{a:Int},a.natAbs<2^17→-2^19<a:=by omega
theorem xg:∀{a:Int},a.natAbs<2^17→a<2^19:=by omega
theorem xf:∀{a:Int},a<2^24→a<1*2^24:=by intros;assumption
theorem A8:∀{a:Nat},a<310→a<320:=by decide
theorem zZ:∀{a:Int},a.natAbs≤100000→-2^20<a∧a<2^20:=by omega
theorem zY:∀{a:Int},0≤a→a≤5→a=0∨a=1∨a=2∨a=3∨a=4∨a=5:=by lia
theorem zX:∀{a b:Int},2^24-a=2^24- (a-b)∨2^24-a=2^24-a:=by intros;simp
theorem zW:∀{a b:Int},2^24-a=2^24-b∨2^24-a=2^24-a:=by intros;simp
theorem zV:∀{a b:Int},0≤a∧a<b→¬a=0→2^24-a<2^24:=by lia
theorem zU:∀{a:Nat},a<60→a<2000:=by decide
theorem zT:∀{a b:Int},0≤a→a≤2^24→0≤b→b≤2^24→(b-a).natAbs<2^53:=by omega
theorem zS:∀{a:Int},33554432+a=33554432+a:=by intros;rfl
theorem zR:∀{a b:Int},0≤a→a≤2^24→0≤b→b≤2^24→(33554432+a-b).natAbs<2^53:=by omega
theorem zQ:∀{a:Int},a=2^24→a=2^24:=by intros;assumption
theorem zP:∀{a b:Int},a<2^24→b=2^24→a≤b:=by intros;subst_vars;lia
theorem zO:∀{a b c:Int},a=2^24-b→c=2^24→c-b=a:=by intros;subst_vars;rfl
theorem zN:∀{a:Int},a-a=0:=by intros;simp
theorem zM:∀{a:Int},a=2^24→a-1*2^24=0:=by intros;subst_vars;rfl
theorem zL:∀{a b:Int},a=2^24→a-b=2^24-b:=by intros;subst_vars;rfl
theorem zK:∀{a:Int},a=a:=by intros;rfl
theorem zJ:∀{a:Int},0≤a→a≤2^24→(a-0).natAbs<2^53:=by lia
theorem zI:∀{a:Int},0≤a→a≤2^24→(67108864+a).natAbs<2^53:=by omega
theorem zH:∀{a b:Int},0≤a→a≤2^24→0≤b→b≤2^24→(67108864+b-a).natAbs<2^53:=by omega
theorem zG:∀{a:Int},0≤a→a≤2^24→(33554432+a-0).natAbs<2^53:=by omega
theorem zF:∀{a:Int},0<a→a≤2^24→a.natAbs<2^53:=by omega
theorem zE:∀{a:Int},0≤a→a<2^21→(96*a).natAbs<2^53:=by intros;subst_vars;lia
theorem zB:∀{a:Nat},¬(↑a:Int)<0:=by intros;simp
theorem zA:∀{a:Nat},a<2000→a≤2000:=by lia
theorem zz:∀{a:Nat},a<700→a+1<800:=by decide
theorem zy:∀{a:Nat},(↑a:Int)%6=(↑(a%6):Int):=by intros;rfl
theorem zx:∀{a:Nat},0≤(↑(a%6):Int):=by intros;constructor<;>assumption
theorem zw:∀{a:Nat},(↑(a%6):Int)<2^63:=by lia
theorem FS:∀{a:Int} {b:Nat},(a+1)%4=(↑b:Int)→(a+1)%4=(↑b:Int):=by intros;assumption
theorem FR:∀{a:Int} {b:Nat},(a+2)%4=(↑b:Int)→(a+2)%4=(↑b:Int):=by intros;assumption
theorem FQ:∀{a:Nat},a%2=1→(↑a:Int)%2=1:=by lia
theorem FP:∀{a b:Nat},a+(b+1)=37→a+1+b=37:=by simp+arith;done
theorem FO:∀{a:Nat},¬a%2=0→a%2=1:=by simp+arith;done
theorem zv:∀{a b:Int},a/3=b→a/3=b:=by intros;assumption
theorem zu:∀{a b:Int},a%2=b→a%2=b:=by intros;assumption
theorem zt:∀{a:Nat},a<320→a+0<900:=by decide
theorem zs:∀{a:Int},0≤a→0≤a+1:=by lia
theorem zr:∀{a:Nat},a<320→a+0<440:=by decide
theorem zq:∀{a:Nat},a<310→a+0<380:=by decide
theorem zp:∀{a b:Int},a<b→a<b:=by intros;assumption
theorem zo:∀{a b:Int},a≤b→¬b<a:=by lia
theorem zn:∀{a:Nat},a<380→a+1<800:=by decide
theorem zm:∀{a:Nat},a<440→a+1<800:=by decide
theorem zl:∀{a b:Int},0≤a→a<2^20→0≤b→b<2^20→(16*(a+b)).natAbs<2^53:=by lia
theorem zk:∀{a b:Int},(a+b)*2^24=16*(a+b)*1048576:=by intros;simp+arith
theorem zj:∀{a:Nat},a<440→a+1+0<900:=by decide
theorem zi:∀{a b:Int},0≤a→0≤b→0≤a+b:=by lia
theorem zh:∀{a b:Int},a<2^20→b<2^20→a+b<2^21:=by lia
theorem zD:∀{a b:Int},a=b→(a-b)%2=0:=by intros;subst_vars;lia
theorem zC:∀{a b:Int},0*a+1*b=b:=by intros;simp
theorem F0:∀{a:Nat},a<2→a=0∨a=1:=by decide
theorem A6:∀{a:Nat},0<a+1:=by intros;simp
theorem A5:∀{a:Int},¬a<0→0≤a:=by lia
theorem A4:∀{a:Int},0<a→¬a<0:=by intros;subst_vars;lia
theorem A3:∀{a:Nat},a<600→a<1000:=by decide
theorem A2:∀{a:Int},1*2^24+a=2^24+a:=by intros;rfl
theorem A1:∀{a:Int},a=a*1:=by intros;simp
theorem AZ:∀{a:Int},0<a→a≤2^24→(2^24-a).natAbs<2^53:=by lia
theorem AY:∀{a b:Int},a≤2^24→0≤b→b≤a→(2^24-b).natAbs<2^53:=by omega
theorem AX:∀{a b:Int},a≤2^24→0≤b→b≤a→(2^24- (a-b)).natAbs<2^53:=by omega
theorem AW:∀{a b c:Nat},a+3*(b-c)<900→a<1000:=by lia
theorem FZ:∀{a:Nat},a<310→a<380:=by decide
theorem AV:∀{a:Nat},a=11→3<a:=by intros;subst_vars;decide
theorem AU:∀{a b c:Int},a≤b→a=c∨a=b→b<c→a=b:=by lia
theorem AT:∀{a b c:Int},a≤b→a=b∨a=c→b≤c→a=b:=by lia
theorem AS:∀{a b:Int},(a+(a-b)-b)%2=0:=by lia
theorem AR:∀{a b:Int},(a+(b-a)-b)%2=0:=by intros;simp+arith
theorem AQ:∀{a:Int},a<0→a≤0:=by lia
theorem FY:∀{a b:Int},1-a/3%2*2=b→b=1∨b= -1:=by lia
theorem FX:∀{a b:Int},a/6%2*2=b→b=0∨b=2:=by lia
theorem FW:∀{a b:Int},a/12%8=b→0≤b:=by intros;subst_vars;lia
theorem FV:∀{a b:Int},a/12%8=b→b<8:=by intros;subst_vars;lia
theorem FU:∀{a:Int},(a/96%4).toNat<4:=by lia
theorem FT:∀{a:Int},a/96%4=(↑(a/96%4).toNat:Int):=by lia
theorem Fl:∀{a b:Int},(a=0∨a=1∨a=2)∧-9≤b∧b≤9→0≤a∧a≤2∧-2^37≤b∧b≤2^37:=by intros;rename_i h;cases h<;>lia
theorem Fk:∀{a:Nat},a%4<4:=by lia
theorem Fj:∀{a:Nat},(a+1)%4<4:=by lia
theorem Fi:∀{a:Nat},(a+2)%4<4:=by lia
theorem Fh:∀{a:Nat},(a+3)%4<4:=by lia
theorem Fg:∀{a:Int} {b:Nat},a/96%4=(↑b:Int)→(a/96+0)%4=(↑(b%4):Int):=by lia
theorem Ff:∀{a:Int} {b:Nat},a/96%4=(↑b:Int)→(a/96+1)%4=(↑((b+1)%4):Int):=by lia
theorem Fe:∀{a:Int} {b:Nat},a/96%4=(↑b:Int)→(a/96+2)%4=(↑((b+2)%4):Int):=by lia
theorem Fd:∀{a:Int} {b:Nat},a/96%4=(↑b:Int)→(a/96+3)%4=(↑((b+3)%4):Int):=by lia
theorem Fc:∀{a b:Nat},a<b→¬a≥b:=by simp+arith;done
theorem Fb:∀{a b:Nat},¬a<b→a≥b:=by simp+arith;done
theorem Fa:∀{a:Nat},¬0≤-(↑a:Int)-1:=by intros;simp+arith
theorem E9:∀{a:Nat},(-(-(↑a:Int)-1)-1).toNat=a:=by intros;simp+arith
theorem Ho:∀{a:Nat},a<3→a=0∨a=1∨a=2:=by decide
theorem E8:∀{a b:Int},96*a%2^24=b→0≤b:=by intros;subst_vars;lia
theorem E7:∀{a b:Int},96*a%2^24=b→b<2^24:=by intros;subst_vars;lia
theorem E6:∀{a:Int},(2^24- (2^24-a))*2^24=2^24*a:=by intros;simp+arith
theorem E5:∀{a:Int},(2^24- (2^24-a))*2^24=a*2^24:=by intros;simp+arith
theorem E4:∀{a b:Int},(2^24- (2^24- (a-b)))*2^24=(a-b)*2^24:=by intros;simp+arith
theorem E1:∀{a b:Int},96*a=0*2^24+b→2^24- (2^24-b)=16*a*6:=by lia
theorem EZ:∀{a b:Int},96*a=1*2^24+b→2*2^24+b-2^24=16*a*6:=by lia
theorem EY:∀{a b:Int},2^24-a=2^24-a∨2^24-a=2^24- (a-b):=by intros;simp
theorem EX:∀{a b:Int},96*a=2*2^24+b→2*2^24+2^24- (2^24-b)=16*a*6:=by lia
theorem EW:∀{a:Int},a=0→0≤2^24-a:=by intros;subst_vars;decide
theorem EU:∀{a:Int},a=0→2^24-a≤2^24:=by intros;subst_vars;decide
theorem ET:∀{a b:Int},0<a∧a≤2^24→b=0→2^24-a≤2^24-b:=by intros;subst_vars;lia
theorem FN:∀{a:Int},a=0→2^24-a=2^24:=by intros;subst_vars;rfl
theorem FM:∀{a b:Int},96*a=3*2^24+b→b=0→2*2^24+2^24=16*a*6:=by intros;subst_vars;lia
theorem FL:∀{a b:Int},96*a=3*2^24+b→b=0→¬16*a<0:=by intros;subst_vars;lia
theorem FK:∀{a b:Int},96*a=3*2^24+b→4*2^24+b-2^24=16*a*6:=by lia
theorem FJ:∀{a b:Int},0≤a∧a<b→2^24- (b-a)<2^24:=by intros;subst_vars;lia
theorem FI:∀{a b:Int},96*a=4*2^24+b→4*2^24+2^24- (2^24-b)=16*a*6:=by lia
theorem FH:∀{a b:Int},96*a=5*2^24+b→b-2^24=(16*a-2^24)*6:=by lia
theorem FG:∀{a:Int},a<2^20→16*a-2^24<0:=by simp+arith;done
theorem FF:∀{a:Int},16*a-2^24+2^24=16*a:=by intros;simp
theorem FE:∀{a:Nat},a+1<60→a+1<2^63:=by intros;rename_i h;exact dl h rfl
theorem FD:∀{a:Int},0<a→a≠0:=by lia
theorem FC:∀{a b:Nat},a<60→b+0=a→b≤2^24:=by intros;subst_vars;lia
theorem FA:∀{a:Nat},a<550→a<600:=by decide
theorem Fz:∀{a:Nat},a<500→a+1<550:=by decide
theorem Fy:∀{a:Nat},(↑(a+1):Int)-1=(↑a:Int):=by intros;simp
theorem Fx:∀{a:Int},0≤a→a≤2→a=0∨a=1∨a=2:=by lia
theorem Fw:∀{a:Nat},a<53→53=a+1+(52-a):=by decide
theorem Fv:∀{a:Int},a*2^24<0→a<0:=by simp+arith;done
theorem Fu:∀{a:Int},0<a→0<a.natAbs:=by omega
theorem Ft:∀{a b:Int},a<b→¬b<a:=by lia
theorem Fs:∀{a b:Int},a-b=a-b:=by intros;rfl
theorem Fq:∀{a b c:Int},0≤a→a≤2^24→0≤b→b≤2^24→b-a=c*6→c.natAbs<2^53:=by omega
theorem Fp:∀{a b c:Int},a-b=c*6→(a-b)*2^24=c*100663296:=by lia
theorem Fo:∀{a b c:Int},a≤2^24→0≤b→b-a=c*6→-2^24<c:=by lia
theorem Fn:∀{a b c:Int},0≤a→b≤2^24→b-a=c*6→c<2^24:=by lia
theorem Fm:∀{a b:Int},33554432+a-b=33554432+a-b:=by intros;rfl
theorem Es:∀{a b c:Int},0≤a→a≤2^24→0≤b→b≤2^24→2*2^24+a-b=c*6→c.natAbs<2^53:=by omega
theorem Er:∀{a b c:Int},2*2^24+a-b=c*6→(33554432+a-b)*2^24=c*100663296:=by lia
theorem Ep:∀{a b c:Int},0≤a→b≤2^24→2*2^24+a-b=c*6→-2^24<c:=by lia
theorem Eo:∀{a b c:Int},a≤2^24→0≤b→2*2^24+a-b=c*6→c<2^24:=by lia
theorem Em:∀{a b:Int},a=2^24→a+b=2^24+b:=by intros;subst_vars;rfl
theorem El:∀{a:Int},a=2^24→33554432-a=2^24:=by intros;subst_vars;rfl
theorem Ek:∀{a:Int},a-0=a-0:=by intros;rfl
theorem Ej:∀{a b:Int},0≤a→a≤2^24→a=b*6→b.natAbs<2^53:=by intros;subst_vars;lia
theorem Ei:∀{a b:Int},a=b*6→(a-0)*2^24=b*100663296:=by intros;subst_vars;lia
theorem Eh:∀{a b:Int},0≤a→a=b*6→-2^24<b:=by intros;subst_vars;lia
theorem Eg:∀{a b:Int},a≤2^24→a=b*6→b<2^24:=by intros;subst_vars;lia
theorem Ef:∀{a:Int},67108864+a=67108864+a:=by intros;rfl
theorem Ee:∀{a b:Int},67108864+a-b=67108864+a-b:=by intros;rfl
theorem Ed:∀{a b c:Int},0≤a→a≤2^24→0≤b→b≤2^24→4*2^24+b-a=c*6→c.natAbs<2^53:=by omega
theorem Ec:∀{a b c:Int},4*2^24+a-b=c*6→(67108864+a-b)*2^24=c*100663296:=by lia
theorem Eb:∀{a b c:Int},a≤2^24→0≤b→4*2^24+b-a=c*6→-2^24<c:=by lia
theorem Ea:∀{a b c:Int},0≤a→b≤2^24→4*2^24+b-a=c*6→c<2^24:=by lia
theorem D':∀{a:Int},33554432+a-0=33554432+a-0:=by intros;rfl
theorem D9:∀{a b:Int},0≤a→a≤2^24→2*2^24+a=b*6→b.natAbs<2^53:=by omega
theorem D8:∀{a b:Int},2*2^24+a=b*6→(33554432+a-0)*2^24=b*100663296:=by simp+arith;done
theorem D7:∀{a b:Int},0≤a→2*2^24+a=b*6→-2^24<b:=by lia
theorem D6:∀{a b:Int},a≤2^24→2*2^24+a=b*6→b<2^24:=by lia
theorem D5:∀{a b c:Int},0≤a→0≤b→c=a∨c=b→c<2^24→c.natAbs<2^53:=by omega
theorem D4:∀{a b c:Int},0≤a→b=c∨b=a→b<2^24→c=2^24→b.natAbs<2^53:=by intros;subst_vars;omega
theorem D3:∀{a:Int},a=2^24→0<a:=by intros;subst_vars;decide
theorem D2:∀{a b:Int},a*2^24=a*b→a*2^24=a*b:=by intros;assumption
theorem ES:∀{a b c:Int},0≤a→b=a∨b=c→a<2^24→c=2^24→b.natAbs<2^53:=by intros;subst_vars;omega
theorem ER:∀{a:Int},0≤a→a<2^21→(16*a).natAbs<2^53:=by intros;subst_vars;lia
theorem EQ:∀{a:Int},16*a*100663296=96*a*2^24:=by intros;simp+arith
theorem EP:∀{a:Int},(2^24-a)*1=2^24-a:=by intros;simp
theorem EO:∀{a b:Int},a≤2^24→0≤b→b≤a→b.natAbs<2^53:=by omega
theorem EN:∀{a b:Int},a≤2^24→0≤b→b≤a→(a-b).natAbs<2^53:=by lia
theorem EM:∀{a:Nat},0<a→0+a-1<a:=by intros;rename_i h;cases h<;>lia
theorem EL:∀{a:Nat},a≤58→a<60:=by decide
theorem EK:∀{a:Int},a<0→a<0:=by intros;assumption
theorem EJ:∀{a b:Nat},a+1=b→(↑a:Int)+1=(↑b:Int):=by intros;subst_vars;rfl
theorem EI:∀{a b:Nat},a+1≤b→a<b:=by intros;assumption
theorem EH:∀{a b c:Nat},a<b→¬a+1=b→(a+b)/2=c→(↑a:Int)< (↑c:Int):=by intros;subst_vars;lia
theorem EG:∀{a b c:Nat},(a+b)/2=c→((↑a:Int)+(↑b:Int))/2=(↑c:Int):=by intros;subst_vars;rfl
theorem EF:∀{a b:Nat},(↑a:Int)< (↑b:Int)→(↑b:Int)- (↑a:Int)=(↑(b-a):Int):=by lia
theorem EE:∀{a b:Nat},a≤4000*2000→b≤2000*4000→(↑b:Int)+(↑a:Int)≤2^27:=by lia
theorem ED:∀{a:Nat},-2^64< (↑a:Int):=by intros;constructor<;>assumption
theorem EC:∀{a:Nat},a<2000→(↑a:Int)<2^64:=by lia
theorem EB:∀{a b c d:Nat},((↑a:Int)- (↑b:Int))*(↑c:Int)=(↑d:Int)→((↑a:Int)- (↑b:Int))*(↑c:Int)=(↑d:Int):=by intros;assumption
theorem EA:∀{a b c d:Nat},a-b≤c+1→(↑d:Int)< (↑a:Int)→d-b≤c:=by lia
theorem Ez:∀{a b c d:Nat},a+3*(b-c)<900→(↑c:Int)< (↑d:Int)→(↑d:Int)< (↑b:Int)→a+1+3*(d-c)<900:=by lia
theorem Ey:∀{a b c:Nat},a≤b→(↑c:Int)< (↑a:Int)→c≤b:=by lia
theorem Ex:∀{a b c d:Nat},a-b≤c+1→(↑b:Int)< (↑d:Int)→a-d≤c:=by lia
theorem Ew:∀{a b c d:Nat},a+3*(b-c)<900→(↑c:Int)< (↑d:Int)→(↑d:Int)< (↑b:Int)→a+1+3*(b-d)<900:=by lia
theorem Ev:∀{a b:Nat},a≤b→a≤b:=by intros;assumption
theorem Hn:∀{a:Int},1≤a→¬a-1<0:=by lia
theorem Et:∀{a:Int},a<1→a-1<0:=by simp+arith;done
theorem DH:∀{a:Nat},a≤2^20→a≤16777216:=by lia
theorem DG:∀{a:Nat},a≤2^10→(↑a:Int)<2^63:=by decide
theorem DF:∀{a:Nat},a≤2^10→a≤1048576:=by decide
theorem DE:∀{a:Nat},a%6<6:=by lia
theorem DD:∀{a b:Int},a%1000000=b→a%1000000=b:=by intros;assumption
theorem DC:∀{a b:Nat},a=6→(↑(b%6):Int)< (↑a:Int):=by intros;subst_vars;lia
theorem DB:∀{a b c:Int},a%1000000=b→0≤c→0≤c+b:=by intros;subst_vars;lia
theorem DA:∀{a b c d:Int},a%1000000=b→c≤d→c+b≤d+1000000:=by lia
theorem Dz:∀{a b c:Nat},a=b+(c+1)→b<a:=by intros;subst_vars;lia
theorem Hg:∀{a:Int} {b:Nat},(a+0)%4=(↑b:Int)→(a+0)%4=(↑b:Int):=by intros;assumption
theorem Hf:∀{a:Nat},a<1→¬(↑a:Int)=1:=by decide
theorem He:∀{a:Nat},a<2→¬(↑a:Int)=2:=by decide
theorem Hd:∀{a:Int} {b:Nat},(a+3)%4=(↑b:Int)→(a+3)%4=(↑b:Int):=by intros;assumption
theorem Hb:∀{a:Nat},a<3→¬(↑a:Int)=3:=by decide
theorem Ha:∀{a:Nat},¬a<0:=by intros;simp
theorem G9:∀{a b c:Int},-a*b=c→-a*b=c:=by intros;assumption
theorem G8:∀{a:Int},a=0∨a=2→0≤a:=by intros;rename_i h;rcases h with rfl|rfl<;>decide
theorem G7:∀{a:Int},a=0∨a=2→a≤2:=by intros;rename_i h;rcases h with rfl|rfl<;>decide
theorem G6:∀{a:Nat},a%2=0→¬(a+1)%2=0:=by lia
theorem G5:∀{a:Int},a=0∨a=2→¬a=1:=by intros;rename_i h;rcases h with rfl|rfl<;>decide
theorem G4:∀{a:Nat},¬a%2=0→(a+1)%2=0:=by lia
theorem Dy:∀{a b c d:Int},a/3%19-9=b→a/3=c→c%19=d→d-9=b:=by intros;subst_vars;rfl
theorem Dx:∀{a b:Int},a%3=b→a%3=b:=by intros;assumption
theorem Dw:∀{a b:Int},a%19=b→a%19=b:=by intros;assumption
theorem Dv:∀{a b c d e:Int},1-a/3%2*2=b→a/3=c→c%2=d→d*2=e→1-e=b:=by intros;subst_vars;rfl
theorem Du:∀{a b:Int},a*2=b→a*2=b:=by intros;assumption
theorem D1:∀{a b:Int},a/6=b→a/6=b:=by intros;assumption
theorem D0:∀{a b c d:Int},a/6%2*2=b→a/6=c→c%2=d→d*2=b:=by intros;subst_vars;rfl
theorem DZ:∀{a b:Int},a/12=b→a/12=b:=by intros;assumption
theorem DY:∀{a b c:Int},a/12%8=b→a/12=c→c%8=b:=by intros;subst_vars;rfl
theorem DX:∀{a:Int},a%3=0∨a%3=1∨a%3=2:=by lia
theorem DW:∀{a:Int},a%3=0→a%3=0:=by intros;assumption
theorem DV:∀{a:Int},a%3=1→a%3=1:=by intros;assumption
theorem DU:∀{a:Int},a%3=2→a%3=2:=by intros;assumption
theorem DT:∀{a:Int},0≤a→a<8→(16*(a+1)).natAbs<2^53:=by omega
theorem DS:∀{a:Int},(a+1-0)*2^24=16*(a+1)*1048576:=by intros;simp+arith
theorem DR:∀{a:Int},a<8→a+1<2^21:=by lia
theorem DQ:∀{a:Int},0≤a→a<8→(a+1)%2^20=a+1:=by lia
theorem DP:∀{a:Int},0≤a→a<8→(16*a).natAbs<2^53:=by lia
theorem DO:∀{a:Int},(a+1-1)*2^24=16*a*1048576:=by intros;simp+arith
theorem DN:∀{a:Int},a<8→a<2^21:=by lia
theorem DM:∀{a:Int},0≤a→a<8→a%2^20=a:=by lia
theorem DL:∀{a:Nat},a≤5→a≤16777216:=by decide
theorem DK:∀{a:Nat},3≤a→3≤a:=by intros;assumption
theorem DJ:∀{a:Nat},a≤5→a≤5:=by intros;assumption
theorem DI:∀{a:Int},-2^20<a∧a<2^20→a.natAbs≤2^20:=by omega
theorem Hm:∀{a:Nat},a<310→a<480:=by decide
theorem Hl:∀{a:Nat},a<310→a<460:=by decide
theorem Hk:∀{a:Int},-2^41<a∧a<2^41→-2^58<a-1:=by intros;rename_i h;cases h<;>lia
theorem Hj:∀{a:Int},-2^41<a∧a<2^41→a-1<2^58:=by intros;rename_i h;cases h<;>lia
theorem Hi:∀{a:Int},-2^20<a∧a<2^20→-1073741824<a∧a<1073741824:=by omega
theorem Hh:∀{a:Int},¬a≠a:=by intros;simp
theorem Di:∀{a:Int},a=2^24→¬a<1*2^24:=by intros;subst_vars;decide
theorem Dh:∀{a:Nat},a<400→a+0<470:=by decide
theorem Dg:∀{a b:Int},0≤a→b<2^20→-2^58<a-b:=by lia
theorem Df:∀{a b:Int},a<2^20→0≤b→a-b<2^58:=by lia
theorem De:∀{a:Int},a>2^19→a>524288:=by intros;assumption
theorem Dd:∀{a:Int},¬a>2^19→¬a>524288:=by intros;assumption
theorem Dc:∀{a:Nat},a<380→a+1<400:=by decide
theorem Db:∀{a b c:Nat},a<2^b→c*2^b+a<c*2^b+2^b:=by simp+arith;done
theorem C':∀{a b c:Nat},a<2^b→c<a→c+1≤2^b:=by lia
theorem C9:∀{a b c:Nat},a<2^b→c<a→c<2^b:=by lia
theorem C8:∀{a b:Nat},a<60→b≤a→(↑b:Int)+(↑a:Int)≤2^27:=by lia
theorem C7:∀{a:Nat},a<600→a+0<900:=by decide
theorem C6:∀{a b:Nat},a<60→b≤a+a→(↑b:Int)- (↑a:Int)≤4000:=by lia
theorem C5:∀{a:Nat},0<a→0< (↑a:Int):=by simp+arith;done
theorem C3:∀{a:Int},0≤a%1048576:=by lia
theorem C2:∀{a:Int},a%1048576<2^20:=by lia
theorem C1:∀{a:Nat},a<440→a<1000:=by decide
theorem C0:∀{a:Nat},a=4→a≤2^24:=by simp+arith;done
theorem CZ:∀{a b:Int},0≤a→b<2^20→-2^64<a-b:=by lia
theorem CY:∀{a b:Int},a<2^20→0≤b→a-b<2^64:=by lia
theorem CX:∀{a b c d:Int},a*(b-c)=d→a*(b-c)=d:=by intros;assumption
theorem CW:∀{a:Nat},a<440→a+1<470:=by decide
theorem CV:∀{a:Int},0≤a→0≤a+0:=by lia
theorem CU:∀{a:Int},a≤2→a+0<2^63:=by lia
theorem CT:∀{a:Int} {b:Nat},a≤2→b=4→a+0< (↑b:Int):=by lia
theorem CS:∀{a:Int},a≤2→a+1<2^63:=by lia
theorem Dt:∀{a:Int} {b:Nat},a≤2→b=4→a+1< (↑b:Int):=by lia
theorem Ds:∀{a b c d e f g:Int},a-b=c+1048576*d→a+e*(a-b)+1048576*f- (b+e*(a-b)+1048576*g)=c+1048576*(d+f-g):=by lia
theorem Dr:∀{a b:Int},-a≤b∧b≤a→-(10*a)≤b:=by lia
theorem Dq:∀{a b:Int},-a≤b∧b≤a→b≤10*a:=by lia
theorem Dp:∀{a b:Int},a.natAbs<b.natAbs→(1*a).natAbs<b.natAbs:=by simp+arith;done
theorem Do:∀{a:Int},a≤0→1*a≤0:=by simp+arith;done
theorem Dn:∀{a:Int},0≤a→0≤1*a:=by lia
theorem Dm:∀{a b c:Int},a-b=0+1048576*c→0≤a→a<2^20→0≤b→b<2^20→a=b:=by lia
theorem Dl:∀{a b:Int},a=b→b=a:=by intros;subst_vars;rfl
theorem Dk:∀{a b:Int},a=2^24∧b=2^23∨a=2^23∧b=2^24→b≠a:=by lia
theorem Dj:∀{a:Nat},a<1→a=0:=by decide
theorem G3:∀{a b:Int},96*a%2^24=b→2^23*b=b/2*2^24:=by intros;subst_vars;lia
theorem G2:∀{a b c d:Nat},a=b*c→a-b*d+(b*d-a)≤0→b*d=b*c:=by intros;subst_vars;lia
theorem G1:∀{a:Int},¬a=0→¬a<0→0<a:=by lia
theorem G0:∀{a:Nat},a-0≤a:=by intros;constructor<;>assumption
theorem GZ:∀{a b:Nat},a*((b+a-1)/a)+(b+a-1)%a=b+a-1→(b+a-1)%a<a→b≤a*((b+a-1)/a):=by omega
theorem GY:∀{a b:Nat},a≤b*0→a=0:=by simp+arith;done
theorem GX:∀{a b c:Nat},a<4000→b≤a→b-c≤4000:=by lia
theorem GW:∀{a:Int} {b:Nat},a+(↑(b+1):Int)*1000000<2^40→a<2^40:=by lia
theorem GV:∀{a b c d:Nat},a%2^b=c→d*2^b+c<d*2^b+2^b:=by intros;subst_vars;omega
theorem GU:∀{a b:Nat},a<b→a+1≤b:=by intros;assumption
theorem GS:∀{a b c d e:Int},a*b+c=d*e→c.natAbs<a.natAbs→(d*e).natAbs=e.natAbs→e.natAbs<2^17→a.natAbs<2^17→(a*b).natAbs<2^18:=by omega
theorem GR:∀{a:Nat},2≤a→2≤a+1:=by intros;constructor<;>assumption
theorem GQ:∀{a b c d e:Int},a-b+c-d=1048576*e→0≤a→a<2^20→0≤d→d<2^20→b=c→a=d:=by lia
theorem GP:∀{a b c:Int},a=2^24∧b=2^23∨a=2^23∧b=2^24→b=2^24∧c=2^23∨b=2^23∧c=2^24→c=a:=by lia
theorem GO:∀{a b c d:Int},a+b+c+d=50331648→a=2^24∧b=2^23∨a=2^23∧b=2^24→b=2^24∧c=2^23∨b=2^23∧c=2^24→d=b:=by lia
end Mine
set_option genSizeOf false
set_option genInjectivity false
namespace Mine
open PySem PySem.W PySem.W.X PyProof.Rows PySem.Spec PySem.Calls
noncomputable abbrev ae:=List (Addr×Obj)
noncomputable def nth:ae→Nat→Option (Addr×Obj)
 |[],_=>none
 |x::_,0=>some x
 |_::l,n+1=>nth l n
noncomputable def bm:ae→Nat→Addr×Obj→ae
 |[],_,_=>[]
 |_::l,0,y=>y::l
 |x::l,n+1,y=>x::bm l n y
theorem iR{l:ae}{n:Nat}{p:Addr×Obj}(h:nth l n=some p):p∈l:=by
 induction l generalizing n with
 |nil=>cases n<;>cases h
 |cons x l ih=>cases n with
  |zero=>cases h;exact .head _
  |succ n=>exact .tail _ (ih h)
noncomputable def eH(o:Obj):Bool:=match o.data with
 | .fields vs=>match Nat.beq vs.size 19 with
  |true=>false
  |false=>true
 |_=>true
structure aQ where
 prog:Program
 w:World
 stat:Addr→Option Obj
 ro:ae
 top:Nat
 I:Heap→Prop
 push:∀h o,I h→I (h.push o)
 upd:∀h a f o,top≤a→h.get? a=some o→eH o=true→I h→I (h.update a f)
 hold:∀h,I h→∀a o,stat a=some o→h.get? a=some o
 hro:∀h,I h→∀p∈ro,h.get? p.1=some p.2
 lim:∀h,I h→h.NoLimit
structure Rep (B:aQ) (N:Nat) (h:Heap) (tab:ae) (m:Nat):Prop where
 inv:B.I h
 size:h.objs.size=N+m
 top:B.top≤N
 cells:∀p∈tab,h.get? p.1=some p.2∧B.top≤p.1
 nd:(tab.map (·.1)).Nodup
section
variable {B:aQ} {N:Nat} {h:Heap} {tab:ae} {m:Nat}
theorem Rep.kt(R:Rep B N h tab m){a:Addr}{o:Obj}(e:B.stat a=some o):h.get? a=some o:=B.hold h R.inv a o e
theorem Rep.at(R:Rep B N h tab m){n:Nat}{p:Addr×Obj}(e:nth tab n=some p):h.get? p.1=some p.2:=(R.cells p (iR e)).1
theorem Rep.atRo(R:Rep B N h tab m){n:Nat}{p:Addr×Obj}(e:nth B.ro n=some p):h.get? p.1=some p.2:=B.hro h R.inv p (iR e)
theorem Rep.push(R:Rep B N h tab m){o:Obj}(hf:o.isFreed=false):Rep B N (h.push o) ((N+m,o)::tab) (m+1):=by
 refine⟨B.push _ _ R.inv,by rw[Heap.size_push,R.size];rfl,R.top,fun p hp=>?_,?_⟩
 ·rcases List.mem_cons.mp hp with rfl|hp
  ·exact⟨by rw[←R.size];exact Heap.get?_push_size _ hf,Nat.le_trans R.top (Nat.le_add_right _ _)⟩
  ·exact⟨Heap.get?_push_of_some _ (R.cells p hp).1,(R.cells p hp).2⟩
 ·rw[List.map_cons]
  refine List.nodup_cons.mpr ⟨fun hm=>?_,R.nd⟩
  obtain⟨p,hp,e⟩:=List.mem_map.mp hm
  have:=Heap.lt_size (R.cells p hp).1
  rw[R.size] at this
  exact absurd e (Nat.ne_of_lt this)
theorem pg{l:ae}{n:Nat}{p:Addr×Obj}{o:Obj}(e:nth l n=some p):(bm l n (p.1,o)).map (·.1)=l.map (·.1):=by
 induction l generalizing n with
 |nil=>cases n<;>cases e
 |cons x l ih=>cases n with
  |zero=>cases e;rfl
  |succ n=>
   show x.1::(bm l n (p.1,o)).map (·.1)=_
   rw[ih e];rfl
theorem pf{l:ae}{n:Nat}{p:Addr×Obj}{o:Obj}(e:nth l n=some p)(nd:(l.map (·.1)).Nodup):∀q∈bm l n (p.1,o),q=(p.1,o)∨(q∈l∧q.1≠p.1):=by
 induction l generalizing n with
 |nil=>cases n<;>cases e
 |cons x l ih=>
  rw[List.map_cons,List.nodup_cons] at nd
  cases n with
  |zero=>
   cases e
   intro q hq
   rcases List.mem_cons.mp hq with rfl|hq
   ·exact .inl rfl
   ·exact .inr ⟨.tail _ hq,fun z=>nd.1 (z▸List.mem_map_of_mem hq)⟩
  |succ n=>
   intro q hq
   rcases List.mem_cons.mp hq with rfl|hq
   ·exact .inr ⟨.head _,fun z=>nd.1 (z▸List.mem_map_of_mem (iR (l:=l) (n:=n) e))⟩
   ·rcases ih e nd.2 q hq with r|⟨a,b⟩
    ·exact .inl r
    ·exact .inr ⟨.tail _ a,b⟩
theorem Rep.upd(R:Rep B N h tab m){n:Nat}{p:Addr×Obj}{f:Obj→Obj}(e:nth tab n=some p)(iK:eH p.2=true)(hf:(f p.2).isFreed=false):Rep B N (h.update p.1 f) (bm tab n (p.1,f p.2)) m:=by
 have hs:Heap.SameBut p.1 h (h.update p.1 f):=Heap.SameBut.update ..
 have hp:=R.cells p (iR e)
 refine⟨B.upd _ _ _ _ hp.2 hp.1 iK R.inv,by rw[hs.1,R.size],R.top,fun q hq=>?_,by rw[pg e];exact R.nd⟩
 rcases pf e R.nd q hq with rfl|⟨a,b⟩
 ·refine⟨?_,hp.2⟩
  first|exact Heap.get?_update_self f hp.1 hf|exact Heap.get?_update_self _ hp.1 hf
 ·exact⟨(hs.2 _ b).trans (R.cells q a).1,(R.cells q a).2⟩
theorem Rep.flat(R:Rep B N h tab m):Rep B (N+m) h tab 0:=⟨R.inv,R.size,Nat.le_trans R.top (Nat.le_add_right _ _),R.cells,R.nd⟩
theorem Rep.sub(R:Rep B N h tab m){aR:ae}(s:aR.Sublist tab):Rep B N h aR m:=⟨R.inv,R.size,R.top,fun p hp=>R.cells p (s.subset hp),R.nd.sublist (s.map _)⟩
theorem Rep.perm(R:Rep B N h tab m){aR:ae}(s:tab.Perm aR):Rep B N h aR m:=⟨R.inv,R.size,R.top,fun p hp=>R.cells p (s.mem_iff.mpr hp),(s.map _).nodup_iff.mp R.nd⟩
end
set_option genInjectivity true in
inductive Ob where
 |addr (a:Addr)
 |code (c:Code)
 |tree (α:Type) (t:Sem α)
structure dn where
 code:Code
 val:Nat→Value
 k:Nat
noncomputable def dn.Ok(a:dn)(prog:Program)(w:World):Prop:=∀(A:Around) (R:Result→Shared→Prop) (h:Heap) (gl:Array GenState) (d:Drawn) (t:Nat) (os:OsState),
 R (.ok (.ret (a.val t))) ⟨h,gl,d,t+a.k,os⟩→codeAny (model prog w) A a.code R ⟨h,gl,d,t,os⟩
noncomputable def cV(prog:Program)(w:World):List dn→Prop
 |[]=>True
 |a::l=>a.Ok prog w∧cV prog w l
noncomputable def tL:List dn→Nat→Option dn
 |[],_=>none
 |x::_,0=>some x
 |_::l,n+1=>tL l n
theorem cV.nth{prog:Program}{w:World}{l:List dn}(h:cV prog w l){n:Nat}{a:dn}(e:tL l n=some a):a.Ok prog w:=by
 induction l generalizing n with
 |nil=>cases n<;>cases e
 |cons x l ih=>cases n with
  |zero=>cases e;exact h.1
  |succ n=>exact ih h.2 e
structure EV where
 st:Bool→Setting
 stat:Addr→Option Obj
 ro:ae
 N:Nat
 t₀:Nat
 hd:Option Value
 den:Code→Sem Fin
 ans:List dn
structure oZ (α:Type) where
 t:Sem α
 tab:ae
 m:Nat
 i:Nat
 ob:List (Ob×Ob)
 adv:List Nat
structure oE where
 r:Option Result
 tab:ae
 m:Nat
 i:Nat
 ob:List (Ob×Ob)
 adv:List Nat
structure Ih where
 T:∀α:Type,Sem α→ae→Nat→Nat→List (Ob×Ob)→List Nat→oZ α
 C:Code→ae→Nat→Nat→List (Ob×Ob)→List Nat→oE
noncomputable def nG(ro tab:ae)(j:Nat):Option (Addr×Obj):=match Nat.blt j 4 with
 |true=>nth ro j
 |false=>nth tab (j-4)
noncomputable def stepT(V:EV)(ih:Ih)(α:Type)(t:Sem α)(tab:ae)(m i:Nat)(ob:List (Ob×Ob))(adv:List Nat):oZ α:=
 match t with
 | .rule _ k=>ih.T α (k ()) tab m i ob adv
 | .at _ k=>ih.T α (k ()) tab m i ob adv
 | .point _ k=>ih.T α (k ()) tab m i ob adv
 | .ask k=>ih.T α (k (V.st true)) tab m i ((.tree α (k (V.st false)),.tree α (k (V.st true)))::ob) adv
 | .fresh k=>ih.T α (k (V.t₀+i)) tab m (i+1) ob adv
 | .handled own k=>match own with
  |false=>ih.T α (k V.hd) tab m i ob adv
  |true=>⟨.handled own k,tab,m,i,ob,adv⟩
 | .alloc o k=>match o.isFreed with
  |true=>⟨.alloc o k,tab,m,i,ob,adv⟩
  |false=>ih.T α (k (V.N+m)) ((V.N+m,o)::tab) (m+1) i ob adv
 | .load a p k=>match adv with
  |[]=>⟨.load a p k,tab,m,i,ob,[]⟩
  |n::eh=>match n with
   |0=>match V.stat a with
    |some o=>ih.T α (k o) tab m i ob eh
    |none=>⟨.load a p k,tab,m,i,ob,n::eh⟩
   |j+1=>match nG V.ro tab j with
    |some q=>ih.T α (k q.2) tab m i ((.addr a,.addr q.1)::ob) eh
    |none=>⟨.load a p k,tab,m,i,ob,n::eh⟩
 | .loadIfAlive a k=>match adv with
  |[]=>⟨.loadIfAlive a k,tab,m,i,ob,[]⟩
  |n::eh=>match n with
   |0=>match V.stat a with
    |some o=>ih.T α (k (some o)) tab m i ob eh
    |none=>⟨.loadIfAlive a k,tab,m,i,ob,n::eh⟩
   |j+1=>match nG V.ro tab j with
    |some q=>ih.T α (k (some q.2)) tab m i ((.addr a,.addr q.1)::ob) eh
    |none=>⟨.loadIfAlive a k,tab,m,i,ob,n::eh⟩
 | .update a p f k=>match adv with
  |[]=>⟨.update a p f k,tab,m,i,ob,[]⟩
  |n::eh=>match n with
   |0=>⟨.update a p f k,tab,m,i,ob,n::eh⟩
   |j+1=>match nth tab j with
    |some q=>match(f q.2).isFreed with
     |false=>match eH q.2 with
      |true=>ih.T α (k ()) (bm tab j (q.1,f q.2)) m i ((.addr a,.addr q.1)::ob) eh
      |false=>⟨.update a p f k,tab,m,i,ob,n::eh⟩
     |true=>⟨.update a p f k,tab,m,i,ob,n::eh⟩
    |none=>⟨.update a p f k,tab,m,i,ob,n::eh⟩
 | .call c h g l k=>match h with
  |some _=>⟨.call c h g l k,tab,m,i,ob,adv⟩
  |none=>match adv with
   |[]=>⟨.call c none g l k,tab,m,i,ob,[]⟩
   |n::eh=>match n with
    |0=>match ih.C c tab m i ob eh with
     |⟨some r,aR,m',i',pF,qI⟩=>ih.T α (k r) aR m' i' pF qI
     |⟨none,_,_,_,_,_⟩=>⟨.call c none g l k,tab,m,i,ob,n::eh⟩
    |j+1=>match tL V.ans j with
     |some a=>ih.T α (k (.ok (.ret (a.val (V.t₀+i))))) tab m (i+a.k) ((.code c,.code a.code)::ob) eh
     |none=>⟨.call c none g l k,tab,m,i,ob,n::eh⟩
 |t=>⟨t,tab,m,i,ob,adv⟩
noncomputable def lG(V:EV)(ih:Ih)(c:Code)(tab:ae)(m i:Nat)(ob:List (Ob×Ob))(adv:List Nat):oE:=
 match ih.T Fin (V.den c) tab m i ob adv with
 |⟨t,aR,m',i',pF,eh⟩=>match t with
  | .pure f=>match f with
   | .done f=>⟨some (.ok f),aR,m',i',pF,eh⟩
   | .again c'=>match c'.quiet with
    |true=>ih.C c' aR m' i' pF eh
    |false=>⟨none,aR,m',i',pF,eh⟩
  | .raise e=>⟨some (.error e),aR,m',i',pF,eh⟩
  |_=>⟨none,aR,m',i',pF,eh⟩
noncomputable def ev(V:EV):Nat→Ih
 |0=>⟨fun _ t tab m i ob adv=>⟨t,tab,m,i,ob,adv⟩,fun _ tab m i ob adv=>⟨none,tab,m,i,ob,adv⟩⟩
 |n+1=>⟨stepT V (ev V n),lG V (ev V n)⟩
noncomputable def gS(ob:List (Ob×Ob)):Prop:=∀p∈ob,p.1=p.2
theorem gS.of_map{ob:List (Ob×Ob)}(e:ob.map (·.1)=ob.map (·.2)):gS ob:=by
 induction ob with
 |nil=>exact fun _ h=>nomatch h
 |cons p l ih=>
  rw[List.map_cons,List.map_cons] at e
  injection e with e1 e2
  intro q hq
  rcases List.mem_cons.mp hq with rfl|hq
  ·exact e1
  ·exact ih e2 q hq
theorem gS.tail{p:Ob×Ob}{ob:List (Ob×Ob)}(h:gS (p::ob)):gS ob:=fun q hq=>h q (.tail _ hq)
structure km (ih:Ih):Prop where
 T:∀α t tab m i ob adv,gS (ih.T α t tab m i ob adv).ob→gS ob
 C:∀c tab m i ob adv,gS (ih.C c tab m i ob adv).ob→gS ob
theorem mH(V:EV){ih:Ih}(H:km ih)(α t tab m i ob adv)(h:gS (stepT V ih α t tab m i ob adv).ob):gS ob:=by
 cases t<;>unfold stepT at h<;>try dsimp only at h
 case rule=>exact H.T _ _ _ _ _ _ _ h
 case «at»=>exact H.T _ _ _ _ _ _ _ h
 case point=>exact H.T _ _ _ _ _ _ _ h
 case ask=>exact(H.T _ _ _ _ _ _ _ h).tail
 case fresh=>exact H.T _ _ _ _ _ _ _ h
 case handled own k=>cases own<;>first|exact h|exact H.T _ _ _ _ _ _ _ h
 case alloc o k=>split at h<;>first|exact h|exact H.T _ _ _ _ _ _ _ h
 case load=>
  split at h
  ·exact h
  ·split at h
   ·split at h<;>first|exact h|exact H.T _ _ _ _ _ _ _ h
   ·split at h<;>first|exact h|exact(H.T _ _ _ _ _ _ _ h).tail
 case loadIfAlive=>
  split at h
  ·exact h
  ·split at h
   ·split at h<;>first|exact h|exact H.T _ _ _ _ _ _ _ h
   ·split at h<;>first|exact h|exact(H.T _ _ _ _ _ _ _ h).tail
 case update=>
  split at h
  ·exact h
  ·split at h
   ·exact h
   ·split at h
    ·split at h
     ·split at h<;>first|exact h|exact(H.T _ _ _ _ _ _ _ h).tail
     ·exact h
    ·exact h
 case call=>
  split at h
  ·exact h
  ·split at h
   ·exact h
   ·split at h
    ·split at h
     ·rename_i q
      exact H.C _ _ _ _ _ _ (by rw[q];exact H.T _ _ _ _ _ _ _ h)
     ·exact h
    ·split at h
     ·exact(H.T _ _ _ _ _ _ _ h).tail
     ·exact h
 all_goals exact h
theorem mI(V:EV){ih:Ih}(H:km ih)(c tab m i ob adv)(h:gS (lG V ih c tab m i ob adv).ob):gS ob:=by
 unfold lG at h
 split at h
 rename_i q
 refine H.T PySem.Fin (V.den c) tab m i ob adv ?_
 rw[q]
 split at h
 ·split at h
  ·exact h
  ·split at h
   ·exact H.C _ _ _ _ _ _ h
   ·exact h
 ·exact h
 ·exact h
theorem g9(V:EV):∀n,km (ev V n)
 |0=>⟨fun _ _ _ _ _ _ _ h=>h,fun _ _ _ _ _ _ h=>h⟩
 |n+1=>⟨fun α t tab m i ob adv h=>mH V (g9 V n) α t tab m i ob adv h,fun c tab m i ob adv h=>mI V (g9 V n) c tab m i ob adv h⟩
structure EV.Ok (V:EV) (B:aQ) (prog:Program) (w:World) (A:Around):Prop where
 st:∃b,V.st b=⟨prog,w.params⟩
 stat:V.stat=B.stat
 ro:V.ro=B.ro
 hd:V.hd=A.handled
 den:V.den=denote table
 ans:cV prog w V.ans
section
variable {V:EV} {B:aQ} {prog:Program} {w:World}
structure lb (V:EV) (B:aQ) (prog:Program) (w:World) (ih:Ih):Prop where
 T:∀(α:Type) (A:Around) (Q:α→Shared→Prop) (E:Value→Shared→Prop) (t:Sem α) tab m i ob adv h gl d os (x:oZ α),V.Ok B prog w A→Rep B V.N h tab m→
  ih.T α t tab m i ob adv=x→gS x.ob→
  (∀h',Rep B V.N h' x.tab x.m→wpAny (model prog w) A x.t Q E ⟨h',gl,d,V.t₀+x.i,os⟩)→
  wpAny (model prog w) A t Q E ⟨h,gl,d,V.t₀+i,os⟩
 C:∀(A:Around) (R:Result→Shared→Prop) (c:Code) tab m i ob adv h gl d os r (x:oE),V.Ok B prog w A→Rep B V.N h tab m→
  ih.C c tab m i ob adv=x→x.r=some r→gS x.ob→
  (∀h',Rep B V.N h' x.tab x.m→R r ⟨h',gl,d,V.t₀+x.i,os⟩)→
  codeAny (model prog w) A c R ⟨h,gl,d,V.t₀+i,os⟩
theorem rf{α:Type}{M:Model}{A:Around}{Q:α→Shared→Prop}{E:Value→Shared→Prop}{s:Shared}{tag:String}{k:Unit→Sem α}(h:wpAny M A (k ()) Q E s):wpAny M A (.rule tag k) Q E s:=fun Γ p hΓ=>h Γ p hΓ
theorem wi{α:Type}{M:Model}{A:Around}{Q:α→Shared→Prop}{E:Value→Shared→Prop}{s:Shared}{q:Pos}{k:Unit→Sem α}(h:wpAny M A (k ()) Q E s):wpAny M A (.at q k) Q E s:=fun Γ _ hΓ=>h Γ q hΓ
theorem o1{α:Type}{M:Model}{A:Around}{Q:α→Shared→Prop}{E:Value→Shared→Prop}{s:Shared}{l:List Value}{k:Unit→Sem α}(h:wpAny M A (k ()) Q E s):wpAny M A (.point l k) Q E s:=fun Γ p hΓ=>h Γ p hΓ
theorem lj{α:Type}{M:Model}{A:Around}{Q:α→Shared→Prop}{E:Value→Shared→Prop}{s:Shared}{a:Addr}{o:Obj}{k:Option Obj→Sem α}(ho:s.heap.get? a=some o)(h:wpAny M A (k (some o)) Q E s):wpAny M A (.loadIfAlive a k) Q E s:=fun Γ p hΓ=>by
 show Sem.wp _ _ (k (s.heap.get? a)) _ _ _ _
 rw[ho];exact h Γ p hΓ
theorem Ok.under{A:Around}(O:V.Ok B prog w A)(c:Code):V.Ok B prog w (A.under c):=⟨O.st,O.stat,O.ro,O.hd,O.den,O.ans⟩
theorem Ok.mark{A:Around}(O:V.Ok B prog w A):V.Ok B prog w (A.mark none):=⟨O.st,O.stat,O.ro,by rw[PySem.Around.mark_none];exact O.hd,O.den,O.ans⟩
theorem EV.Ok.at_place{A:Around}(O:V.Ok B prog w A){N:Nat}{h:Heap}{tab:ae}{m:Nat}(R:Rep B N h tab m){j:Nat}{p:Addr×Obj}(e:nG V.ro tab j=some p):h.get? p.1=some p.2:=by
 unfold nG at e
 split at e
 ·exact R.atRo (O.ro▸e)
 ·exact R.at e
theorem lE{ih:Ih}(H:lb V B prog w ih)(HM:km ih)(α:Type)(A:Around)(Q:α→Shared→Prop)(E:Value→Shared→Prop)(t:Sem α)(tab:ae)(m i ob adv h gl d os)(x:oZ α)
 (O:V.Ok B prog w A) (R:Rep B V.N h tab m) (hx:stepT V ih α t tab m i ob adv=x) (et:gS x.ob)
 (K:∀h',Rep B V.N h' x.tab x.m→wpAny (model prog w) A x.t Q E ⟨h',gl,d,V.t₀+x.i,os⟩):
 wpAny (model prog w) A t Q E ⟨h,gl,d,V.t₀+i,os⟩:=by
 cases t
 case rule=>exact rf (H.T α A Q E _ _ _ _ _ _ _ _ _ _ _ O R hx et K)
 case «at»=>exact wi (H.T α A Q E _ _ _ _ _ _ _ _ _ _ _ O R hx et K)
 case point=>exact o1 (H.T α A Q E _ _ _ _ _ _ _ _ _ _ _ O R hx et K)
 case ask k=>
  have z:=H.T α A Q E _ _ _ _ _ _ _ _ _ _ _ O R hx et K
  have q:k (V.st false)=k (V.st true):=by
   have e:Ob.tree α (k (V.st false))=Ob.tree α (k (V.st true)):=HM.T _ _ _ _ _ _ _ (hx▸et) (_,_) (.head _)
   injection e
  obtain⟨b,hb⟩:=O.st
  have q':k ⟨prog,w.params⟩=k (V.st true):=by
   rw[←hb]
   cases b
   ·exact q
   ·rfl
  refine wpAny_bind (m:=ask) (f:=k) (wpAny_askSetting ?_)
  show wpAny (model prog w) A (k ⟨prog,w.params⟩) Q E _
  rw[q']
  exact z
 case fresh k=>exact wpAny_bind (m:=fresh) (f:=k) (wpAny_fresh (H.T α A Q E _ _ _ _ _ _ _ _ _ _ _ O R hx et K))
 case handled own k=>
  cases own with
  |true=>subst hx;exact K h R
  |false=>
   have z:=H.T α A Q E _ _ _ _ _ _ _ _ _ _ _ O R hx et K
   rw[O.hd] at z
   exact wpAny_bind (m:=handled) (f:=k) (wpAny_handled z)
 case alloc o k=>
  unfold stepT at hx
  dsimp only at hx
  split at hx
  ·subst hx;exact K h R
  ·rename_i hf
   refine wpAny_bind (m:=alloc o) (f:=k) (wpAny_alloc ?_)
   show wpAny _ _ (k h.objs.size) _ _ _
   rw[R.size]
   exact H.T α A Q E _ _ _ _ _ _ _ _ _ _ _ O (R.push hf) hx et K
 case load a p k=>
  unfold stepT at hx
  dsimp only at hx
  split at hx
  ·subst hx;exact K h R
  ·split at hx
   ·split at hx
    ·rename_i e
     exact wpAny_bind (m:=loadPart a p) (f:=k) (wpAny_loadPart (R.kt (O.stat▸e)) (H.T α A Q E _ _ _ _ _ _ _ _ _ _ _ O R hx et K))
    ·subst hx;exact K h R
   ·split at hx
    ·rename_i q e
     have ha:a=q.1:=Ob.addr.inj (HM.T _ _ _ _ _ _ _ (hx▸et) (.addr a,.addr q.1) (.head _))
     exact wpAny_bind (m:=loadPart a p) (f:=k) (wpAny_loadPart (by rw[ha];exact O.at_place R e) (H.T α A Q E _ _ _ _ _ _ _ _ _ _ _ O R hx et K))
    ·subst hx;exact K h R
 case loadIfAlive a k=>
  unfold stepT at hx
  dsimp only at hx
  split at hx
  ·subst hx;exact K h R
  ·split at hx
   ·split at hx
    ·rename_i e
     exact lj (R.kt (O.stat▸e)) (H.T α A Q E _ _ _ _ _ _ _ _ _ _ _ O R hx et K)
    ·subst hx;exact K h R
   ·split at hx
    ·rename_i q e
     have ha:a=q.1:=Ob.addr.inj (HM.T _ _ _ _ _ _ _ (hx▸et) (.addr a,.addr q.1) (.head _))
     exact lj (by rw[ha];exact O.at_place R e) (H.T α A Q E _ _ _ _ _ _ _ _ _ _ _ O R hx et K)
    ·subst hx;exact K h R
 case update a p f k=>
  unfold stepT at hx
  dsimp only at hx
  split at hx
  ·subst hx;exact K h R
  ·split at hx
   ·subst hx;exact K h R
   ·split at hx
    ·rename_i q e
     split at hx
     ·rename_i hf
      split at hx
      rotate_left
      ·subst hx;exact K h R
      rename_i v4
      have ha:a=q.1:=Ob.addr.inj (HM.T _ _ _ _ _ _ _ (hx▸et) (.addr a,.addr q.1) (.head _))
      subst ha
      exact wpAny_bind (m:=updatePart q.1 p f) (f:=k) (wpAny_updatePart (R.at e) (H.T α A Q E _ _ _ _ _ _ _ _ _ _ _ O (R.upd e v4 hf) hx et K))
     ·subst hx;exact K h R
    ·subst hx;exact K h R
 case call c hh g l k=>
  unfold stepT at hx
  dsimp only at hx
  split at hx
  ·subst hx;exact K h R
  ·split at hx
   ·subst hx;exact K h R
   ·split at hx
    ·split at hx
     ·rename_i r aR m' i' pF qI q
      refine x_call ?_ (by intro z;cases z)
      exact H.C (A.mark none) _ c _ _ _ _ _ _ _ _ _ r _ (Ok.mark O) R q rfl (HM.T _ _ _ _ _ _ _ (hx▸et)) fun h' R'=>H.T α A Q E _ _ _ _ _ _ _ _ _ _ _ O R' hx et K
     ·subst hx;exact K h R
    ·split at hx
     ·rename_i a ea
      have hc:c=a.code:=Ob.code.inj (HM.T _ _ _ _ _ _ _ (hx▸et) (.code c,.code a.code) (.head _))
      subst hc
      refine x_call ?_ (by intro z;cases z)
      refine O.ans.nth ea (A.mark none) _ h gl d _ os ?_
      have z:=H.T α A Q E _ _ _ _ _ _ _ _ _ _ _ O R hx et K
      rw[←Nat.add_assoc] at z
      exact z
     ·subst hx;exact K h R
 all_goals (unfold stepT at hx;dsimp only at hx;subst hx;exact K h R)
theorem lF{ih:Ih}(H:lb V B prog w ih)(HM:km ih)(A:Around)(R:Result→Shared→Prop)(c:Code)(tab:ae)(m i ob adv h gl d os r)(x:oE)
 (O:V.Ok B prog w A) (Rp:Rep B V.N h tab m) (hx:lG V ih c tab m i ob adv=x) (hr:x.r=some r) (et:gS x.ob)
 (K:∀h',Rep B V.N h' x.tab x.m→R r ⟨h',gl,d,V.t₀+x.i,os⟩):
 codeAny (model prog w) A c R ⟨h,gl,d,V.t₀+i,os⟩:=by
 refine x_code ?_
 rw[←O.den]
 unfold lG at hx
 split at hx
 rename_i t aR m' i' pF eh q
 have main:∀(_:gS pF) (_:∀h',Rep B V.N h' aR m'→wpAny (model prog w) (A.under c) t (fun fin s'=>match fin with| .done f=>R (.ok f) s'| .again c'=>c'.quiet=true∧codeAny (model prog w) A c' R s') (fun e s'=>R (.error e) s') ⟨h',gl,d,V.t₀+i',os⟩),
  wpAny (model prog w) (A.under c) (V.den c) (fun fin s'=>match fin with| .done f=>R (.ok f) s'| .again c'=>c'.quiet=true∧codeAny (model prog w) A c' R s') (fun e s'=>R (.error e) s') ⟨h,gl,d,V.t₀+i,os⟩:=fun hob' K'=>
  H.T Fin (A.under c) _ _ (V.den c) tab m i ob adv h gl d os _ (Ok.under O c) Rp q hob' K'
 split at hx
 ·split at hx
  ·subst hx;cases hr
   exact main et fun h' R'=>wpAny_pure (K h' R')
  ·split at hx
   ·rename_i hq
    refine main (HM.C _ _ _ _ _ _ (hx▸et)) fun h' R'=>wpAny_pure ⟨hq,?_⟩
    exact H.C A R _ _ _ _ _ _ _ _ _ _ r _ O R' hx hr et K
   ·subst hx;cases hr
 ·subst hx;cases hr
  exact main et fun h' R'=>wpAny_throw (K h' R')
 ·subst hx;cases hr
theorem cM:∀n,lb V B prog w (ev V n)
 |0=>⟨fun _ _ _ _ _ _ _ _ _ _ h _ _ _ _ _ R hx _ K=>by subst hx;exact K h R,fun _ _ _ _ _ _ _ _ _ _ _ _ _ _ _ _ hx hr=>by subst hx;cases hr⟩
 |n+1=>⟨fun α A Q E t tab m i ob adv h gl d os x O R hx et K=>lE (cM n) (g9 V n) α A Q E t tab m i ob adv h gl d os x O R hx et K,
  fun A R c tab m i ob adv h gl d os r x O Rp hx hr et K=>lF (cM n) (g9 V n) A R c tab m i ob adv h gl d os r x O Rp hx hr et K⟩
end
noncomputable def En(B:aQ)(n:Str)(t:Tok)(v:Value):DictEntry:=⟨PySem.W.ZFast.zw12210062019545310541 (B.w.params.strHash n.cps),.str n t,v⟩
noncomputable def S(l:List Nat):Str:=⟨⟨l⟩⟩
noncomputable def dB:Code→Sem Fin:=PySem.W.ZFast.zw11892475500146522536 PySem.W.ZFast.tableZ
theorem fI:denote table=dB:=by
 unfold dB
 rw[←PySem.W.ZFast.tableZ_eq]
 exact congrFun PySem.W.ZFast.ze11892475500146522536 _
noncomputable def aj:List Stmt→Env→Sem Flow:=PySem.W.ZFast.zw12563942051412417395
theorem cX:execs=aj:=PySem.W.ZFast.ze12563942051412417395
noncomputable def aQ.ps(B:aQ)(b:Bool):Params:={B.w.params with followText:=fun r=>if r="special-get-raises" then b else B.w.params.followText r}
theorem aQ.ps_ok(B:aQ):∃b,(⟨B.prog,B.ps b⟩:Setting)=⟨B.prog,B.w.params⟩:=
 ⟨B.w.params.followText "special-get-raises",congrArg (Setting.mk B.prog) (congrArg World.params (PySem.World.withFollow_self B.w "special-get-raises"))⟩
noncomputable abbrev MB(B:aQ):Model:=model B.prog B.w
noncomputable def jC(B:aQ)(N t₀:Nat)(ans:List dn):EV:=⟨fun b=>⟨B.prog,B.ps b⟩,B.stat,B.ro,N,t₀,none,dB,ans⟩
theorem fF(B:aQ){A:Around}(hh:A.handled=none)(N t₀:Nat){ans:List dn}(ha:cV B.prog B.w ans):(jC B N t₀ ans).Ok B B.prog B.w A:=⟨B.ps_ok,rfl,rfl,hh.symm,fI.symm,ha⟩
noncomputable def tO(B:aQ)(N t₀:Nat):EV:=jC B N t₀ []
theorem kH(B:aQ){A:Around}(hh:A.handled=none)(N t₀:Nat):(tO B N t₀).Ok B B.prog B.w A:=fF B hh N t₀ trivial
noncomputable def i9(l:ae)(bs:List Bool):ae:=match bs with
 |[]=>l
 |b::bs=>match l with
  |[]=>[]
  |x::l=>match b with
   |true=>x::i9 l bs
   |false=>i9 l bs
termination_by structural bs
theorem dd(l:ae)(bs:List Bool):(i9 l bs).Sublist l:=by
 induction bs generalizing l with
 |nil=>unfold i9;exact List.Sublist.refl _
 |cons b bs ih=>cases l with
  |nil=>unfold i9;exact List.Sublist.refl _
  |cons x l=>cases b with
   |true=>unfold i9;exact(ih l).cons_cons x
   |false=>unfold i9;exact(ih l).cons x
inductive Got (α:Type) where
 |val (a:α)
 |exc (e:Value)
 |call (c:Code)
 |load (a:Addr)
 |upd (a:Addr)
 |other
noncomputable def jf{α:Type}:Sem α→Got α
 | .pure a=>.val a
 | .raise e=>.exc e
 | .call c h _ _ _=>match h with
  |none=>.call c
  |some _=>.other
 | .load a _ _=>.load a
 | .update a _ _ _=>.upd a
 |_=>.other
noncomputable def mf{α:Type}:Sem α→Result→Sem α
 | .call _ _ _ _ k=>k
 |t=>fun _=>t
noncomputable def wm{α:Type}:Sem α→Obj→Obj
 | .update _ _ f _=>f
 |_=>id
noncomputable def wl{α:Type}:Sem α→Sem α
 | .update _ _ _ k=>k ()
 |t=>t
structure CI (α:Type) where
 got:Got α
 tab:ae
 m:Nat
 i:Nat
 ob:List Ob
noncomputable def view{α:Type}(x:oZ α)(bL:List Bool):CI α:=⟨jf x.t,i9 x.tab bL,x.m,x.i,x.ob.map (·.1)⟩
section
variable {α:Type} {B:aQ} {A:Around} {N t₀:Nat} {Q:α→Shared→Prop} {E:Value→Shared→Prop} {t:Sem α} {tab:ae} {h:Heap} {gl:Array GenState} {d:Drawn} {os:OsState}
noncomputable abbrev cw(B:aQ)(N t₀:Nat)(ans:List dn)(n:Nat)(adv:List Nat){α:Type}(t:Sem α)(tab:ae):oZ α:=(ev (jC B N t₀ ans) n).T α t tab 0 0 [] adv
noncomputable abbrev run(B:aQ)(N t₀:Nat)(n:Nat)(adv:List Nat){α:Type}(t:Sem α)(tab:ae):oZ α:=(ev (tO B N t₀) n).T α t tab 0 0 [] adv
theorem bI(hh:A.handled=none)(R:Rep B N h tab 0)(ans:List dn)(n:Nat)(adv:List Nat)(bL:List Bool)(a:α)(aR:ae)(m i:Nat)
 (e:view (cw B N t₀ ans n adv t tab) bL=⟨.val a,aR,m,i,(cw B N t₀ ans n adv t tab).ob.map (·.2)⟩) (ha:cV B.prog B.w ans)
 (K:∀h' N' t',Rep B N' h' aR 0→Q a ⟨h',gl,d,t',os⟩):wpAny (MB B) A t Q E ⟨h,gl,d,t₀,os⟩:=by
 generalize hx:cw B N t₀ ans n adv t tab=x at e
 unfold view at e
 injection e with e1 e2 e3 e4 e5
 refine(cM (V:=jC B N t₀ ans) (B:=B) n).T α A Q E t tab 0 0 [] adv h gl d os x (fF B hh N t₀ ha) R hx (gS.of_map e5) fun h' R'=>?_
 have hv:x.t=.pure a:=by
  cases q:x.t<;>rw[q] at e1<;>unfold jf at e1<;>first|(cases e1;done)|(injection e1 with e1;rw[e1])|(dsimp only at e1;split at e1<;>cases e1)
 rw[hv]
 exact wpAny_pure (K h' (N+x.m) _ (e2▸(R'.sub (dd _ bL)).flat))
theorem gj(hh:A.handled=none)(R:Rep B N h tab 0)(ans:List dn)(n:Nat)(adv:List Nat)(bL:List Bool)(c:Code)(aR:ae)(m i:Nat)
 (e:view (cw B N t₀ ans n adv t tab) bL=⟨.call c,aR,m,i,(cw B N t₀ ans n adv t tab).ob.map (·.2)⟩) (ha:cV B.prog B.w ans)
 (K:∀h' N' t',Rep B N' h' aR 0→codeAny (MB B) A c (fun r s'=>wpAny (MB B) A (mf (cw B N t₀ ans n adv t tab).t r) Q E s') ⟨h',gl,d,t',os⟩):wpAny (MB B) A t Q E ⟨h,gl,d,t₀,os⟩:=by
 generalize hx:cw B N t₀ ans n adv t tab=x at e K
 unfold view at e
 injection e with e1 e2 e3 e4 e5
 refine(cM (V:=jC B N t₀ ans) (B:=B) n).T α A Q E t tab 0 0 [] adv h gl d os x (fF B hh N t₀ ha) R hx (gS.of_map e5) fun h' R'=>?_
 have K':=K h' (N+x.m) (t₀+x.i) (e2▸(R'.sub (dd _ bL)).flat)
 cases q:x.t<;>rw[q] at e1 K'<;>unfold jf at e1<;>dsimp only at e1
 case call c' hd g l k=>
  cases hd with
  |some _=>cases e1
  |none=>
   injection e1 with e1
   subst e1
   refine x_call ?_ (by intro z;cases z)
   rw[PySem.Around.mark_none]
   exact K'
 all_goals cases e1
theorem pi(hh:A.handled=none)(R:Rep B N h tab 0)(ans:List dn)(n:Nat)(adv:List Nat)(bL:List Bool)(a:Addr)(aR:ae)(m i:Nat)
 (e:view (cw B N t₀ ans n adv t tab) bL=⟨.upd a,aR,m,i,(cw B N t₀ ans n adv t tab).ob.map (·.2)⟩) (ha:cV B.prog B.w ans)
 (K:∀h' N' t',Rep B N' h' aR 0→∃o,h'.get? a=some o∧wpAny (MB B) A (wl (cw B N t₀ ans n adv t tab).t) Q E ⟨h'.update a (wm (cw B N t₀ ans n adv t tab).t),gl,d,t',os⟩):wpAny (MB B) A t Q E ⟨h,gl,d,t₀,os⟩:=by
 generalize hx:cw B N t₀ ans n adv t tab=x at e K
 unfold view at e
 injection e with e1 e2 e3 e4 e5
 refine(cM (V:=jC B N t₀ ans) (B:=B) n).T α A Q E t tab 0 0 [] adv h gl d os x (fF B hh N t₀ ha) R hx (gS.of_map e5) fun h' R'=>?_
 obtain⟨o,ho,K'⟩:=K h' (N+x.m) (t₀+x.i) (e2▸(R'.sub (dd _ bL)).flat)
 cases q:x.t<;>rw[q] at e1 K'<;>unfold jf at e1<;>dsimp only at e1
 case update a' p f k=>
  injection e1 with e1
  subst e1
  exact wpAny_bind (m:=updatePart a' p f) (f:=k) (wpAny_updatePart ho K')
 case call c' hd g l k=>cases hd<;>cases e1
 all_goals cases e1
theorem pj(hh:A.handled=none)(R:Rep B N h tab 0)(ans:List dn)(n:Nat)(adv:List Nat)(bL:List Bool)(a:Value)(aR:ae)(m i:Nat)
 (e:view (cw B N t₀ ans n adv t tab) bL=⟨.exc a,aR,m,i,(cw B N t₀ ans n adv t tab).ob.map (·.2)⟩) (ha:cV B.prog B.w ans)
 (K:∀h' N' t',Rep B N' h' aR 0→E a ⟨h',gl,d,t',os⟩):wpAny (MB B) A t Q E ⟨h,gl,d,t₀,os⟩:=by
 generalize hx:cw B N t₀ ans n adv t tab=x at e
 unfold view at e
 injection e with e1 e2 e3 e4 e5
 refine(cM (V:=jC B N t₀ ans) (B:=B) n).T α A Q E t tab 0 0 [] adv h gl d os x (fF B hh N t₀ ha) R hx (gS.of_map e5) fun h' R'=>?_
 have hv:x.t=.raise a:=by
  cases q:x.t<;>rw[q] at e1<;>unfold jf at e1<;>first|(cases e1;done)|(injection e1 with e1;rw[e1])|(dsimp only at e1;split at e1<;>cases e1)
 rw[hv]
 exact wpAny_throw (K h' (N+x.m) _ (e2▸(R'.sub (dd _ bL)).flat))
theorem aE(hh:A.handled=none)(R:Rep B N h tab 0)(n:Nat)(adv:List Nat)(bL:List Bool)(a:α)(aR:ae)(m i:Nat)
 (e:view (run B N t₀ n adv t tab) bL=⟨.val a,aR,m,i,(run B N t₀ n adv t tab).ob.map (·.2)⟩)
 (K:∀h' N' t',Rep B N' h' aR 0→Q a ⟨h',gl,d,t',os⟩):wpAny (MB B) A t Q E ⟨h,gl,d,t₀,os⟩:=
 bI hh R [] n adv bL a aR m i e trivial K
theorem seg_call(hh:A.handled=none)(R:Rep B N h tab 0)(n:Nat)(adv:List Nat)(bL:List Bool)(c:Code)(aR:ae)(m i:Nat)
 (e:view (run B N t₀ n adv t tab) bL=⟨.call c,aR,m,i,(run B N t₀ n adv t tab).ob.map (·.2)⟩)
 (K:∀h' N' t',Rep B N' h' aR 0→codeAny (MB B) A c (fun r s'=>wpAny (MB B) A (mf (run B N t₀ n adv t tab).t r) Q E s') ⟨h',gl,d,t',os⟩):wpAny (MB B) A t Q E ⟨h,gl,d,t₀,os⟩:=
 gj hh R [] n adv bL c aR m i e trivial K
theorem nA(hh:A.handled=none)(R:Rep B N h tab 0)(n:Nat)(adv:List Nat)(bL:List Bool)(a:Addr)(aR:ae)(m i:Nat)
 (e:view (run B N t₀ n adv t tab) bL=⟨.upd a,aR,m,i,(run B N t₀ n adv t tab).ob.map (·.2)⟩)
 (K:∀h' N' t',Rep B N' h' aR 0→∃o,h'.get? a=some o∧wpAny (MB B) A (wl (run B N t₀ n adv t tab).t) Q E ⟨h'.update a (wm (run B N t₀ n adv t tab).t),gl,d,t',os⟩):wpAny (MB B) A t Q E ⟨h,gl,d,t₀,os⟩:=
 pi hh R [] n adv bL a aR m i e trivial K
end
noncomputable def kR(B:aQ)(A:Around)(R:Result→Shared→Prop)(f:Fin)(s':Shared):Prop:=match f with
 | .done f=>R (.ok f) s'
 | .again c'=>c'.quiet=true∧codeAny (MB B) A c' R s'
theorem af{B:aQ}{A:Around}{R:Result→Shared→Prop}{c:Code}{s:Shared}(h:wpAny (MB B) (A.under c) (dB c) (kR B A R) (fun e s'=>R (.error e) s') s):codeAny (MB B) A c R s:=by
 refine x_code ?_
 rw[fI]
 exact wpAny_mono h (fun f s' q=>by cases f<;>exact q) (fun _ _ q=>q)
theorem aN{prog:Program}{w:World}:cV prog w []:=trivial
theorem aC{prog:Program}{w:World}{a:dn}{l:List dn}(h:a.Ok prog w)(t:cV prog w l):cV prog w (a::l):=⟨h,t⟩
noncomputable def fdOf(B:aQ)(f:Addr):FuncData:=match B.stat f with
 |some o=>match o.data with
  | .func fd=>fd
  |_=>default
 |none=>default
noncomputable def am(fd:FuncData):List Stmt:=match fd.body with
 | .stmts b=>b
 |_=>[]
noncomputable def kh:Str:=⟨#[46,60,108,111,99,97,108,115,62,46]⟩
noncomputable def envOf(fd:FuncData)(f L:Addr):Env:={scope:=fd.scope,locals:=L,globals:=fd.globals,cells:=fd.closure,qual:=fd.qualname++kh,func:=some f,code:=fd.code,frame:=some L,builtins:=fd.builtins}
noncomputable def eT:Flow→Value
 | .ret v=>v
 |_=>.none
theorem ov{B:aQ}{A:Around}{R:Result→Shared→Prop}{body:List Stmt}{bk:Env}{s:Shared}
 (h:wpAny (MB B) (A.under (.func body bk)) (execs body bk) (fun f s'=>R (.ok (.ret (eT f))) s') (fun _ _=>False) s):codeAny (MB B) A (.func body bk) R s:=by
 refine x_code ?_
 show wpAny _ _ (point >>= fun _=>((execs body bk).onRaise (leaving bk)) >>= fun f=>match f with| .ret v=>ret v|_=>ret .none) _ _ _
 refine wpAny_bind (wpAny_point (wpAny_bind (wpAny_onRaise (wpAny_mono h (fun f s' q=>?_) fun _ _ q=>q.elim))))
 cases f<;>exact wpAny_pure q
structure yU where
 t:Sem Fin
 tab:ae
 m:Nat
 i:Nat
 ob:List Ob
noncomputable def i4(x:oZ Fin)(bL:List Bool):yU:=⟨x.t,i9 x.tab bL,x.m,x.i,x.ob.map (·.1)⟩
theorem enter{B:aQ}{A:Around}{R:Result→Shared→Prop}{N t₀:Nat}{tab:ae}{h:Heap}{gl:Array GenState}{d:Drawn}{os:OsState}{f:Value}{args:Args}
 (hh:A.handled=none) (Rp:Rep B N h tab 0) (hd:A.depth<recursionLimit) (n:Nat) (adv:List Nat) (bL:List Bool) (body:List Stmt) (bk:Env) (aR:ae) (m i:Nat)
 (e:i4 (run B N t₀ n adv (dB (.call f args)) tab) bL=⟨PySem.W.R.bindR (PySem.W.ZFast.enterX 0) (fun _=>.pure (.again (.func body bk))),aR,m,i,(run B N t₀ n adv (dB (.call f args)) tab).ob.map (·.2)⟩)
 (K:∀h' N' t',Rep B N' h' aR 0→wpAny (MB B) (A.under (.func body bk)) (aj body bk) (fun f s'=>R (.ok (.ret (eT f))) s') (fun _ _=>False) ⟨h',gl,d,t',os⟩):
 codeAny (MB B) A (.call f args) R ⟨h,gl,d,t₀,os⟩:=by
 refine af ?_
 generalize hx:run B N t₀ n adv (dB (.call f args)) tab=x at e
 unfold i4 at e
 injection e with e1 e2 e3 e4 e5
 refine(cM (V:=tO B N t₀) (B:=B) n).T Fin _ _ _ _ tab 0 0 [] adv h gl d os x (kH B (A:=A.under (.call f args)) hh N t₀) Rp hx (gS.of_map e5) fun h' R'=>?_
 rw[e1,←PySem.W.R.bindR_eq,←PySem.W.ZFast.enterX_eq]
 have jE:(A.under (.call f args)).depth<recursionLimit:=hd
 refine wpAny_bind (m:=enterFrame 0) (f:=fun _=>(Sem.pure (PySem.Fin.again (.func body bk)):Sem PySem.Fin)) ?_
 refine wpAny_enterFrame (B.lim _ R'.inv) jE ?_
 refine wpAny_pure ⟨rfl,ov ?_⟩
 rw[cX]
 exact K h' (N+x.m) _ (e2▸(R'.sub (dd _ bL)).flat)
theorem kT(a b:List Stmt)(bk:Env):execs (a++b) bk=execs a bk >>= fun f=>match f with| .next=>execs b bk|f=>pure f:=by
 induction a with
 |nil=>rfl
 |cons s r ih=>
  show(exec s bk >>= fun f=>match f with| .next=>execs (r++b) bk|f=>pure f)=(exec s bk >>= fun f=>match f with| .next=>execs r bk|f=>pure f) >>= _
  rw[bind_assoc]
  refine congrArg _ (funext fun f=>?_)
  cases f<;>first|exact ih|rfl
noncomputable def nx(B:aQ)(A:Around)(l:List Stmt)(bk:Env)(Q:Flow→Shared→Prop)(E:Value→Shared→Prop)(f:Flow)(s:Shared):Prop:=match f with
 | .next=>wpAny (MB B) A (aj l bk) Q E s
 |f=>Q f s
theorem bS(n:Nat){B:aQ}{A:Around}{Q:Flow→Shared→Prop}{E:Value→Shared→Prop}{l:List Stmt}{bk:Env}{s:Shared}
 (h:wpAny (MB B) A (aj (l.take n) bk) (nx B A (l.drop n) bk Q E) E s):wpAny (MB B) A (aj l bk) Q E s:=by
 rw[←cX] at h⊢
 conv=>arg 3;rw[←List.take_append_drop n l,kT]
 refine wpAny_bind (wpAny_mono h (fun f s' q=>?_) fun _ _ q=>q)
 cases f<;>first|exact wpAny_pure q|(unfold nx at q;dsimp only at q;rw[←cX] at q;exact q)
noncomputable def Ct:Stmt→Expr
 | .For t _ _ _ _=>t
 |_=>default
noncomputable def kP:Stmt→List Stmt
 | .For _ _ b _ _=>b
 |_=>[]
noncomputable def qp:Stmt→List Stmt
 | .For _ _ _ e _=>e
 |_=>[]
noncomputable abbrev ai(s:Stmt)(it:Value)(bk:Env):Code:=.forLoop (Ct s) it (kP s) (qp s) bk
end Mine
namespace Mine
open PySem PySem.Float64
noncomputable def fl(n:Int):UInt64:=ofFrac (decide (n<0)) n.natAbs (2^24)
theorem yW:V (infMag-1)=(2^53-1)*2^2045:=by
 have e:infMag-1=2045*2^52+(2^53-1):=by decide
 rw[e]
 exact V_at (by decide) (.inl (by decide))
theorem ga{r:UInt64}{vX:Bool}{W D t:Nat}(h:Right r vX W D)(hD:0<D)(ht:t<infMag)(hW:W=D*V t):r=pack vX t:=by
 obtain⟨t',rfl,hle,hov,hn⟩:=h
 have mX:t'<infMag:=by
  rcases Nat.lt_or_ge t' infMag with h|h
  ·exact h
  ·have e:=hov.mp (Nat.le_antisymm hle h)
   have h1:V t≤(2^53-1)*2^2045:=by rw[←yW];exact V_mono (by omega)
   rw[hW] at e
   have e2:D*((2^54-1)*2^2045)≤D*(2*V t):=by
    have:2*(D*V t)=D*(2*V t):=by rw[Nat.mul_left_comm]
    rw[←this];exact e
   have e3:=Nat.le_of_mul_le_mul_left e2 hD
   have h4:0<2^2045:=Nat.two_pow_pos _
   generalize 2^2045=K at*
   omega
 obtain⟨h1,_⟩:=hn mX t
 have hz:dist W (D*V t)=0:=by rw[hW];unfold Float64.dist;omega
 rw[hz] at h1
 have h2:D*V t'=D*V t:=by
  unfold Float64.dist at h1
  exact G2 hW h1
 have h3:=Nat.eq_of_mul_eq_mul_left hD h2
 rcases Nat.lt_trichotomy t' t with q|q|q
 ·have:=V_lt q;omega
 ·rw[q]
 ·have:=V_lt q;omega
theorem py(m:Nat)(h:m<2^53):∃t,t<infMag∧V t=m*2^1050:=by
 by_cases h0:m=0
 ·exact⟨0,by decide,by rw[h0,V_zero,Nat.zero_mul]⟩
 ·have hl:=(Nat.log2_lt h0).mpr h
  have h1:=Nat.log2_self_le h0
  have h2:=Nat.lt_log2_self (n:=m)
  generalize m.log2=l at*
  refine⟨(1050- (52-l))*2^52+m*2^(52-l),?_,?_⟩
  ·have h3:m*2^(52-l)<2^53:=by
    have e:2^53=2^(l+1)*2^(52-l):=by rw[←Nat.pow_add];congr 1;exact Fw hl
    rw[e]
    exact Nat.mul_lt_mul_of_pos_right h2 (Nat.two_pow_pos _)
   have h4:(1050- (52-l))*2^52≤1050*2^52:=Nat.mul_le_mul_right _ (by omega)
   have:infMag=2047*2^52:=rfl
   omega
  ·rw[V_at]
   ·rw[Nat.mul_assoc,←Nat.pow_add]
    congr 2
    omega
   ·have e:2^53=2^(l+1)*2^(52-l):=by rw[←Nat.pow_add];congr 1;exact Fw hl
    rw[e]
    exact Nat.mul_le_mul_right _ (Nat.le_of_lt h2)
   ·left
    have e:2^52=2^l*2^(52-l):=by rw[←Nat.pow_add];congr 1;omega
    rw[e]
    exact Nat.mul_le_mul_right _ h1
noncomputable def ag(n:Int):Prop:=n.natAbs<2^53
theorem lY(n:Int):Right (fl n) (decide (n<0)) (n.natAbs*2^1050) 1:=by
 unfold fl
 refine ofFrac_right (by decide) ?_ (by decide)
 rw[Nat.mul_one,Nat.mul_assoc,←Nat.pow_add]
theorem jh{r:UInt64}{W D:Nat}{n:Int}(hn:ag n)(h:Right r (decide (n<0)) W D)(hD:0<D)(hW:W=D*(n.natAbs*2^1050)):r=fl n:=by
 obtain⟨t,ht,hv⟩:=py n.natAbs hn
 rw[ga h hD ht (by rw[hv];exact hW),ga (lY n) (by decide) ht (by rw[hv,Nat.one_mul])]
theorem c6{n:Int}(hn:ag n):∃m e,decode (fl n)=.fin (decide (n<0)) m e∧m*2^(e+1074).toNat=n.natAbs*2^1050:=by
 obtain⟨t,ht,hv⟩:=py n.natAbs hn
 rw[ga (lY n) (by decide) ht (by rw[hv,Nat.one_mul])]
 obtain⟨m,e,hd,h2⟩:=decode_pack (decide (n<0)) ht
 exact⟨m,e,hd,by rw[h2,hv]⟩
theorem eL{n:Int}(hn:ag n):val (fl n)=n*2^1050:=by
 obtain⟨m,e,hd,hv⟩:=c6 hn
 rw[val_eq hd,hv]
 unfold sgn
 by_cases h:n<0
 ·rw[decide_eq_true h,if_pos rfl,Int.natCast_mul,←Int.neg_mul]
  congr 1
  omega
 ·rw[decide_eq_false h,if_neg Bool.false_ne_true,Int.natCast_mul]
  congr 1
  omega
theorem bX(n:Int)(k:Nat):(n*2^k).natAbs=n.natAbs*2^k:=by
 rw[Int.natAbs_mul,Int.natAbs_pow];rfl
theorem ii(n:Int)(k:Nat):decide (n*2^k<0)=decide (n<0):=by
 have hp:(0:Int)<2^k:=Int.pow_pos (by decide)
 refine decide_eq_decide.mpr ⟨fun h=>?_,fun h=>Int.mul_neg_of_neg_of_pos h hp⟩
 by_cases h2:n<0
 ·exact h2
 ·have:=Int.mul_nonneg (show 0≤n by exact A5 h2) (Int.le_of_lt hp)
  omega
theorem kQ:fl 0=zero false:=by decide+kernel
theorem ni{a b:Int}(ha:ag a)(hb:ag b)(hc:ag (a+b)):add (fl a) (fl b)=fl (a+b):=by
 obtain⟨m,e,hd,_⟩:=c6 ha
 obtain⟨k,f,jE,_⟩:=c6 hb
 have h:=add_right hd jE
 rw[eL ha,eL hb,←Int.add_mul] at h
 by_cases hz:a+b=0
 ·rw[h.1 (by rw[hz,Int.zero_mul]),hz,kQ]
  have:(decide (a<0)&&decide (b<0))=false:=by
   rw[Bool.and_eq_false_iff]
   by_cases h1:a<0
   ·right;exact decide_eq_false (by omega)
   ·left;exact decide_eq_false h1
  rw[this]
 ·have hp:(0:Int)<2^1050:=Int.pow_pos (by decide)
  have h2:=h.2 (fun q=>by rcases Int.mul_eq_zero.mp q with q|q<;>omega)
  rw[ii,bX] at h2
  exact jh hc h2 (by decide) (by rw[Nat.one_mul])
theorem na{a b:Int}(ha:ag a)(hb:ag b)(hc:ag (a-b)):sub (fl a) (fl b)=fl (a-b):=by
 obtain⟨m,e,hd,_⟩:=c6 ha
 obtain⟨k,f,jE,_⟩:=c6 hb
 have h:=sub_right hd jE
 rw[eL ha,eL hb,←Int.sub_mul] at h
 by_cases hz:a-b=0
 ·rw[h.1 (by rw[hz,Int.zero_mul]),hz,kQ]
  have:(decide (a<0)&& !decide (b<0))=false:=by
   have:a=b:=by omega
   rw[this];cases decide (b<0)<;>rfl
  rw[this]
 ·have hp:(0:Int)<2^1050:=Int.pow_pos (by decide)
  have h2:=h.2 (fun q=>by rcases Int.mul_eq_zero.mp q with q|q<;>omega)
  rw[ii,bX] at h2
  exact jh hc h2 (by decide) (by rw[Nat.one_mul])
theorem nf{a b c:Int}(ha:ag a)(hb:ag b)(hc:ag c)(h0:0≤a)(h1:0≤b)(e:a*b=c*2^24):mul (fl a) (fl b)=fl c:=by
 obtain⟨m,f,hd,_⟩:=c6 ha
 obtain⟨k,g,jE,_⟩:=c6 hb
 have h:=mul_right hd jE
 rw[eL ha,eL hb,bX,bX] at h
 have oW:0≤c:=by
  have:=Int.mul_nonneg h0 h1
  rw[e] at this
  omega
 have hs:(decide (a<0)!=decide (b<0))=decide (c<0):=by
  rw[decide_eq_false (by exact rB h0),decide_eq_false (by exact rB h1),decide_eq_false (by exact rB oW)];rfl
 rw[hs] at h
 refine jh hc h (Nat.two_pow_pos _) ?_
 have e':a.natAbs*b.natAbs=c.natAbs*2^24:=by rw[←Int.natAbs_mul,e,bX]
 calc a.natAbs*2^1050*(b.natAbs*2^1050)=a.natAbs*b.natAbs*(2^1050*2^1050):=by generalize (2:Nat)^1050=K;ac_rfl
  _=c.natAbs*(2^24*(2^1050*2^1050)):=by rw[e',Nat.mul_assoc]
  _=2^1074*(c.natAbs*2^1050):=by
   have:(2:Nat)^1074=2^24*2^1050:=by rw[←Nat.pow_add]
   rw[this]
   generalize (2:Nat)^1050=K
   ac_rfl
theorem ng{a b c:Int}(ha:ag a)(hb:ag b)(hc:ag c)(h1:0<b)(e:a*2^24=c*b):div (fl a) (fl b)=fl c:=by
 obtain⟨m,f,hd,_⟩:=c6 ha
 obtain⟨k,g,jE,hk⟩:=c6 hb
 have aO:k≠0:=by
  intro z
  rw[z,Nat.zero_mul] at hk
  have:=Nat.mul_pos (show 0<b.natAbs by omega) (Nat.two_pow_pos 1050)
  omega
 have h:=div_right hd jE aO
 rw[eL ha,eL hb,bX,bX] at h
 have hs:(decide (a<0)!=decide (b<0))=decide (c<0):=by
  rw[decide_eq_false (show¬b<0 by exact A4 h1),Bool.bne_false]
  refine decide_eq_decide.mpr ⟨fun q=>?_,fun q=>?_⟩
  ·by_cases h2:c<0
   ·exact h2
   ·have:=Int.mul_nonneg (show 0≤c by exact A5 h2) (Int.le_of_lt h1)
    rw[←e] at this
    omega
  ·have:=Int.mul_neg_of_neg_of_pos q h1
   rw[←e] at this
   exact Fv this
 rw[hs] at h
 refine jh hc h (Nat.mul_pos (by exact Fu h1) (Nat.two_pow_pos _)) ?_
 have e':a.natAbs*2^24=c.natAbs*b.natAbs:=by rw[←bX,e,Int.natAbs_mul]
 have e2:(2:Nat)^1074=2^24*2^1050:=by rw[←Nat.pow_add]
 calc a.natAbs*2^1050*2^1074=a.natAbs*2^24*(2^1050*2^1050):=by rw[e2];generalize (2:Nat)^1050=K;ac_rfl
  _=b.natAbs*2^1050*(c.natAbs*2^1050):=by rw[e'];generalize (2:Nat)^1050=K;ac_rfl
theorem dZ{i:Int}(h:ag (i*2^24)):ofInt i=fl (i*2^24):=by
 have q:=ofInt_right i
 rw[←ii i 24] at q
 refine jh h q (by decide) ?_
 rw[Nat.one_mul,bX,Nat.mul_assoc,←Nat.pow_add]
theorem iz{a b:Int}(ha:ag a)(hb:ag b):cmp (fl a) (fl b)=some (compare a b):=by
 obtain⟨m,f,hd,_⟩:=c6 ha
 obtain⟨k,g,jE,_⟩:=c6 hb
 rw[cmp_right hd jE,eL ha,eL hb]
 have hp:(0:Int)<2^1050:=Int.pow_pos (by decide)
 generalize (2:Int)^1050=K at*
 congr 1
 rcases Int.lt_trichotomy a b with h|h|h
 ·rw[Int.compare_eq_lt.mpr h,Int.compare_eq_lt.mpr (Int.mul_lt_mul_of_pos_right h hp)]
 ·subst h;simp
 ·rw[Int.compare_eq_gt.mpr h,Int.compare_eq_gt.mpr (Int.mul_lt_mul_of_pos_right h hp)]
theorem iy{a i:Int}(ha:ag a):cmpInt (fl a) i=some (compare a (i*2^24)):=by
 obtain⟨m,f,hd,_⟩:=c6 ha
 rw[cmpInt_right hd,eL ha]
 have hp:(0:Int)<2^1050:=Int.pow_pos (by decide)
 have e2:i*2^1074=i*2^24*2^1050:=by rw[Int.mul_assoc,←Int.pow_add]
 rw[e2]
 generalize (2:Int)^1050=K at*
 generalize i*2^24=b at*
 congr 1
 rcases Int.lt_trichotomy a b with h|h|h
 ·rw[Int.compare_eq_lt.mpr h,Int.compare_eq_lt.mpr (Int.mul_lt_mul_of_pos_right h hp)]
 ·subst h;simp
 ·rw[Int.compare_eq_gt.mpr h,Int.compare_eq_gt.mpr (Int.mul_lt_mul_of_pos_right h hp)]
theorem gA{a:Int}(ha:ag a):isZero (fl a)=decide (a=0):=by
 obtain⟨m,f,hd,hv⟩:=c6 ha
 unfold isZero
 rw[hd]
 have hp:0<2^1050:=Nat.two_pow_pos _
 have hq:0<2^(f+1074).toNat:=Nat.two_pow_pos _
 cases m with
 |zero=>
  refine(decide_eq_true ?_).symm
  rw[Nat.zero_mul] at hv
  rcases Nat.mul_eq_zero.mp hv.symm with h|h<;>omega
 |succ m=>
  refine(decide_eq_false ?_).symm
  rintro rfl
  rw[Int.natAbs_zero,Nat.zero_mul] at hv
  rcases Nat.mul_eq_zero.mp hv with h|h<;>omega
theorem lZ{a:Int}(ha:ag a):isInf (fl a)=false:=by
 obtain⟨m,f,hd,_⟩:=c6 ha
 unfold isInf;rw[hd]
theorem qq{a:Int}(ha:ag a)(h0:0≤a){s:Bool}{m:Nat}{e:Int}(hd:decode (fl a)=.fin s m e):truncOf s m e=a/2^24:=by
 obtain⟨m',e',jE,hv⟩:=c6 ha
 rw[jE] at hd
 cases hd
 rw[decide_eq_false (show¬a<0 by exact rB h0)]
 unfold truncOf floorOf sgn
 simp only[Bool.false_eq_true,if_false]
 have he:=decode_ge jE
 obtain⟨n,rfl⟩:=Int.eq_ofNat_of_zero_le h0
 rw[Int.natAbs_natCast] at hv
 split
 ·rename_i hp
  have e1:(e+1074).toNat=e.toNat+1074:=by omega
  rw[e1,Nat.pow_add,←Nat.mul_assoc] at hv
  have e2:(2:Nat)^1074=2^24*2^1050:=by rw[←Nat.pow_add]
  rw[e2,←Nat.mul_assoc] at hv
  have h3:=Nat.eq_of_mul_eq_mul_right (Nat.two_pow_pos 1050) hv
  have h4:((m*2^e.toNat:Nat):Int)=m*2^e.toNat:=by simp
  rw[←h4,←h3]
  generalize m*2^e.toNat=z
  omega
 ·rename_i hp
  have e1:(-e).toNat+(e+1074).toNat=24+1050:=by omega
  have h2:n*2^(-e).toNat=m*2^24:=by
   have h3:n*2^(-e).toNat*2^1050=m*2^24*2^1050:=by
    calc n*2^(-e).toNat*2^1050=n*2^1050*2^(-e).toNat:=by generalize (2:Nat)^1050=K;ac_rfl
     _=m*(2^(-e).toNat*2^(e+1074).toNat):=by rw[←hv];ac_rfl
     _=m*2^24*2^1050:=by rw[←Nat.pow_add,e1,Nat.pow_add,Nat.mul_assoc]
   exact Nat.eq_of_mul_eq_mul_right (Nat.two_pow_pos 1050) h3
  have h4:((2:Int)^(-e).toNat)=((2^(-e).toNat:Nat):Int):=by simp
  rw[h4,Int.fdiv_eq_ediv_of_nonneg _ (Int.natCast_nonneg _),←Int.natCast_ediv]
  have h5:((n:Int)/2^24)=((n/2^24:Nat):Int):=by omega
  rw[h5]
  congr 1
  generalize hk:2^(-e).toNat=k at*
  have hkp:0<k:=hk▸Nat.two_pow_pos _
  have h6:m/k=m*2^24/ (k*2^24):=(Nat.mul_div_mul_right _ _ (Nat.two_pow_pos _)).symm
  rw[h6,←h2,Nat.mul_comm k,Nat.mul_div_mul_right _ _ hkp]
theorem jB(d:Nat):roundMag 0 d=0:=by unfold roundMag;rfl
theorem mN(vX:Bool)(g:Int):ofBin vX 0 g=zero vX:=by
 have h:(shift 0 1 g).1=0:=by unfold shift;split<;>simp
 show ofFrac vX (shift 0 1 g).1 (shift 0 1 g).2=_
 rw[h]
 unfold ofFrac zero
 rw[jB]
theorem r5{a:Int}(h1:-(2^24)<a)(h2:a<2^24):(Float64.divmod (fl a) (fl (2^24))).2=fl (if a<0 then a+2^24 else a):=by
 have ha:ag a:=by unfold ag;omega
 have ho:ag (2^24):=by unfold ag;decide
 obtain⟨m,f,hd,hv⟩:=c6 ha
 have hf:fmod (fl a) (fl (2^24))=if a=0 then zero (decide (a<0)) else fl a:=by
  obtain⟨k,g,jE,F5⟩:=c6 ho
  have aO:k≠0:=by
   intro z
   rw[z,Nat.zero_mul] at F5
   have:=Nat.mul_pos (show 0< ((2:Int)^24).natAbs by decide) (Nat.two_pow_pos 1050)
   omega
  have he:=decode_ge hd
  have hg:=decode_ge jE
  have hfm:fmod (fl a) (fl (2^24))=ofBin (decide (a<0)) (m*2^(f-min f g).toNat%(k*2^(g-min f g).toNat)) (min f g):=by
   unfold fmod
   rw[hd,jE]
   simp only
   rw[if_neg (by simpa using aO)]
   unfold align sgn
   simp only[Bool.false_eq_true,if_false,Int.toNat_natCast]
   done
  have e1:m*2^(f-min f g).toNat*2^(min f g+1074).toNat=a.natAbs*2^1050:=by
   rw[Nat.mul_assoc,←Nat.pow_add,←hv]
   congr 2
   omega
  have e2:k*2^(g-min f g).toNat*2^(min f g+1074).toNat=((2:Int)^24).natAbs*2^1050:=by
   rw[Nat.mul_assoc,←Nat.pow_add,←F5]
   congr 2
   omega
  have mX:m*2^(f-min f g).toNat<k*2^(g-min f g).toNat:=by
   have hp:0<2^(min f g+1074).toNat:=Nat.two_pow_pos _
   refine Nat.lt_of_mul_lt_mul_right (a:=2^(min f g+1074).toNat) ?_
   rw[e1,e2]
   refine Nat.mul_lt_mul_of_pos_right ?_ (Nat.two_pow_pos _)
   have:((2:Int)^24).natAbs=2^24:=by decide
   omega
  rw[hfm,Nat.mod_eq_of_lt mX]
  split
  ·rename_i hz
   have:m*2^(f-min f g).toNat=0:=by
    rw[hz,Int.natAbs_zero,Nat.zero_mul] at e1
    rcases Nat.mul_eq_zero.mp e1 with h|h
    ·exact h
    ·have:=Nat.two_pow_pos (min f g+1074).toNat
     omega
   rw[this]
   exact mN _ _
  ·unfold ofBin
   have q:Right (ofFrac (decide (a<0)) (shift (m*2^(f-min f g).toNat) 1 (min f g)).1 (shift (m*2^(f-min f g).toNat) 1 (min f g)).2) (decide (a<0)) (a.natAbs*2^1050) 1:=by
    refine ofFrac_right (shift_pos _ _ _ (by decide)) ?_ (by decide)
    have:=shift_one (m*2^(f-min f g).toNat) (min f g) 1074 (by omega)
    rw[Nat.mul_one,←e1]
    exact this
   exact jh ha q (by decide) (by rw[Nat.one_mul])
 unfold Float64.divmod
 simp only[hf]
 by_cases hz:a=0
 ·subst hz
  decide+kernel
 ·rw[if_neg hz,gA ha,decide_eq_false hz]
  simp only[Bool.false_eq_true,if_false]
  have hz0:zero false=fl 0:=kQ.symm
  have c1:lt (fl (2^24)) (zero false)=false:=by decide+kernel
  have c2:lt (fl a) (zero false)=decide (a<0):=by
   rw[hz0]
   unfold lt
   rw[iz ha (by unfold ag;decide)]
   by_cases h:a<0
   ·rw[Int.compare_eq_lt.mpr h,decide_eq_true h];rfl
   ·rw[Int.compare_eq_gt.mpr (by exact G1 hz h),decide_eq_false h];rfl
  rw[c1,c2]
  by_cases h:a<0
  ·rw[decide_eq_true h,if_pos h]
   simp only[Bool.false_bne,if_true]
   rw[ni ha ho (by unfold ag;omega)]
  ·rw[decide_eq_false h,if_neg h]
   rfl
end Mine
namespace Mine
open PySem PySem.W PySem.W.X PyProof.Rows PySem.Spec PySem.Calls
theorem tE(a b:Int):(some (compare a b)==some Ordering.lt)=decide (a<b):=by
 rcases Int.lt_trichotomy a b with h|h|h
 ·rw[Int.compare_eq_lt.mpr h,decide_eq_true h];rfl
 ·rw[Int.compare_eq_eq.mpr h,decide_eq_false (by omega)];rfl
 ·rw[Int.compare_eq_gt.mpr h,decide_eq_false (by exact Ft h)];rfl
theorem tF(a b:Int):(some (compare a b)==some Ordering.gt)=decide (b<a):=by
 rcases Int.lt_trichotomy a b with h|h|h
 ·rw[Int.compare_eq_lt.mpr h,decide_eq_false (by exact Ft h)];rfl
 ·rw[Int.compare_eq_eq.mpr h,decide_eq_false (by omega)];rfl
 ·rw[Int.compare_eq_gt.mpr h,decide_eq_true h];rfl
theorem tG(a b:Int):(some (compare a b)==some Ordering.eq)=decide (a=b):=by
 rcases Int.lt_trichotomy a b with h|h|h
 ·rw[Int.compare_eq_lt.mpr h,decide_eq_false (by omega)];rfl
 ·rw[Int.compare_eq_eq.mpr h,decide_eq_true h];rfl
 ·rw[Int.compare_eq_gt.mpr h,decide_eq_false (by omega)];rfl
theorem iZ{o:Option Ordering}{a b:Int}(h:o=some (compare a b)):(o==some Ordering.eq)=decide (a=b):=by rw[h,tG]
theorem kW{o:Option Ordering}{a b:Int}(h:o=some (compare a b)):(o==some Ordering.lt)=decide (a<b):=by rw[h,tE]
theorem nV{o:Option Ordering}{a b:Int}(h:o=some (compare a b)):(o==some Ordering.gt)=decide (b<a):=by rw[h,tF]
theorem sv{o:Option Ordering}{a b:Int}(h:o=some (compare a b)):(o==some Ordering.lt||o==some Ordering.eq)=decide (a≤b):=by
 rw[kW h,iZ h,←Bool.decide_or]
 exact decide_eq_decide.mpr (by omega)
theorem r6{i j c:Int}(hj:0<j)(hc:ag c)(e:i*2^24=c*j):Float64.ofFrac (decide (i<0)!=decide (j<0)) i.natAbs j.natAbs=fl c:=by
 have hs:(decide (i<0)!=decide (j<0))=decide (c<0):=by
  rw[decide_eq_false (show¬j<0 by exact A4 hj),Bool.bne_false]
  refine decide_eq_decide.mpr ⟨fun q=>?_,fun q=>?_⟩
  ·by_cases h2:c<0
   ·exact h2
   ·have:=Int.mul_nonneg (show 0≤c by exact A5 h2) (Int.le_of_lt hj)
    rw[←e] at this
    omega
  ·have:=Int.mul_neg_of_neg_of_pos q hj
   rw[←e] at this
   exact Fv this
 rw[hs]
 have e':i.natAbs*2^24=c.natAbs*j.natAbs:=by rw[←bX,e,Int.natAbs_mul]
 refine jh hc (Float64.ofFrac_right (W:=c.natAbs*2^1050) (D:=1) (by exact Fu hj) ?_ (by decide)) (by decide) (by rw[Nat.one_mul])
 have e2:(2:Nat)^1074=2^24*2^1050:=by rw[←Nat.pow_add]
 rw[Nat.mul_one,e2,←Nat.mul_assoc,e']
 generalize (2:Nat)^1050=K
 ac_rfl
section
variable {B:aQ} {A:Around} {R:Result→Shared→Prop} {h:Heap} {gl:Array GenState} {d:Drawn} {t:Nat} {os:OsState}
theorem gd{T:String}{name:Str}{id:String}{b:Builtin}{fj:Value}{rest:List Value}{m:Made}(jA:Slot T name id)(hT:(⟨h,gl,d,t,os⟩:Shared).TypeIs fj T)(l5:entryFor table id=some b)
 (args:argsOk id ⟨fj::rest,[]⟩) (g:Gives (b ⟨fj::rest,[]⟩) m) (K:m.post (fun v s'=>R (.ok (.ret v)) s') ⟨h,gl,d,t,os⟩):codeAny (MB B) A (.call (.builtin id) ⟨fj::rest,[]⟩) R ⟨h,gl,d,t,os⟩:=
 codeAny_call_builtin jA.plain l5 (jA.check _ _ _ _ _ _ _ _ hT args (g B.prog B.w A R _ K))
variable {x y:UInt64} {u v:Tok} {a b c i j:Int}
theorem d9(hi:ag (i*2^24)):¬Float64.isInf (Float64.ofInt i)=true:=by rw[dZ hi,lZ hi];exact Bool.false_ne_true
theorem qA(hx:x=fl a)(hy:y=fl b)(ha:ag a)(hb:ag b)(hc:ag c)(e:a+b=c)
 (K:R (.ok (.ret (.float (fl c) t))) ⟨h,gl,d,t+1,os⟩):codeAny (MB B) A (.call (.builtin "float.__add__") ⟨[.float x u,.float y v],[]⟩) R ⟨h,gl,d,t,os⟩:=by
 subst hx hy
 refine gd F.slot_float_add rfl F.entry_float_add (F.args_float_add_2 _ _) (AutoFloatG4.float___add___float_float_0 _ _ _ _) ?_
 show R (.ok (.ret (.float (Float64.add (fl a) (fl b)) t))) ⟨h,gl,d,t+1,os⟩
 rw[show Float64.add (fl a) (fl b)=fl c from e▸ni ha hb (e▸hc)];exact K
theorem dL(hx:x=fl a)(hy:y=fl b)(ha:ag a)(hb:ag b)(hc:ag c)(e:a+b=c):(⟨(.call (.builtin "float.__add__") ⟨[.float x u,.float y v],[]⟩),fun t=>((.float (fl c) t)),1⟩:dn).Ok B.prog B.w:=fun _ _ _ _ _ _ _ K=>qA hx hy ha hb hc e K
theorem qt(hx:x=fl a)(hy:y=fl b)(ha:ag a)(hb:ag b)(hc:ag c)(e:a-b=c)
 (K:R (.ok (.ret (.float (fl c) t))) ⟨h,gl,d,t+1,os⟩):codeAny (MB B) A (.call (.builtin "float.__sub__") ⟨[.float x u,.float y v],[]⟩) R ⟨h,gl,d,t,os⟩:=by
 subst hx hy
 refine gd F.slot_float_sub rfl F.entry_float_sub (F.args_float_sub_2 _ _) (AutoFloatG0.float___sub___float_float_0 _ _ _ _) ?_
 show R (.ok (.ret (.float (Float64.sub (fl a) (fl b)) t))) ⟨h,gl,d,t+1,os⟩
 rw[show Float64.sub (fl a) (fl b)=fl c from e▸na ha hb (e▸hc)];exact K
theorem aK(hx:x=fl a)(hy:y=fl b)(ha:ag a)(hb:ag b)(hc:ag c)(e:a-b=c):(⟨(.call (.builtin "float.__sub__") ⟨[.float x u,.float y v],[]⟩),fun t=>((.float (fl c) t)),1⟩:dn).Ok B.prog B.w:=fun _ _ _ _ _ _ _ K=>qt hx hy ha hb hc e K
theorem qw(hx:x=fl a)(hy:y=fl b)(ha:ag a)(hb:ag b)(hc:ag c)(h0:0≤a)(h1:0≤b)(e:a*b=c*2^24)
 (K:R (.ok (.ret (.float (fl c) t))) ⟨h,gl,d,t+1,os⟩):codeAny (MB B) A (.call (.builtin "float.__mul__") ⟨[.float x u,.float y v],[]⟩) R ⟨h,gl,d,t,os⟩:=by
 subst hx hy
 refine gd F.slot_float_mul rfl F.entry_float_mul (F.args_float_mul_2 _ _) (AutoFloatG1.float___mul___float_float_0 _ _ _ _) ?_
 show R (.ok (.ret (.float (Float64.mul (fl a) (fl b)) t))) ⟨h,gl,d,t+1,os⟩
 rw[nf ha hb hc h0 h1 e];exact K
theorem gB(hx:x=fl a)(hy:y=fl b)(ha:ag a)(hb:ag b)(hc:ag c)(h0:0≤a)(h1:0≤b)(e:a*b=c*2^24):(⟨(.call (.builtin "float.__mul__") ⟨[.float x u,.float y v],[]⟩),fun t=>((.float (fl c) t)),1⟩:dn).Ok B.prog B.w:=fun _ _ _ _ _ _ _ K=>qw hx hy ha hb hc h0 h1 e K
theorem qz(hx:x=fl a)(hy:y=fl b)(ha:ag a)(hb:ag b)(hc:ag c)(h1:0<b)(e:a*2^24=c*b)
 (K:R (.ok (.ret (.float (fl c) t))) ⟨h,gl,d,t+1,os⟩):codeAny (MB B) A (.call (.builtin "float.__truediv__") ⟨[.float x u,.float y v],[]⟩) R ⟨h,gl,d,t,os⟩:=by
 subst hx hy
 refine gd F.slot_float_truediv rfl F.entry_float_truediv (F.args_float_truediv_2 _ _) (AutoFloatG1.float___truediv___float_float_1 _ _ _ _ (by rw[gA hb];simp only[decide_eq_true_eq];exact vO h1)) ?_
 show R (.ok (.ret (.float (Float64.div (fl a) (fl b)) t))) ⟨h,gl,d,t+1,os⟩
 rw[ng ha hb hc h1 e];exact K
theorem ak(hx:x=fl a)(hy:y=fl b)(ha:ag a)(hb:ag b)(hc:ag c)(h1:0<b)(e:a*2^24=c*b):(⟨(.call (.builtin "float.__truediv__") ⟨[.float x u,.float y v],[]⟩),fun t=>((.float (fl c) t)),1⟩:dn).Ok B.prog B.w:=fun _ _ _ _ _ _ _ K=>qz hx hy ha hb hc h1 e K
theorem r7(hx:x=fl a)(hy:y=fl (2^24))(h1:-(2^24)<a)(h2:a<2^24)(e:(if a<0 then a+2^24 else a)=c)
 (K:R (.ok (.ret (.float (fl c) t))) ⟨h,gl,d,t+1,os⟩):codeAny (MB B) A (.call (.builtin "float.__mod__") ⟨[.float x u,.float y v],[]⟩) R ⟨h,gl,d,t,os⟩:=by
 subst hx hy
 refine gd F.slot_float_mod rfl F.entry_float_mod (F.args_float_mod_2 _ _) (AutoFloatG2.float___mod___float_float_1 _ _ _ _ (by decide+kernel)) ?_
 show R (.ok (.ret (.float (Float64.divmod (fl a) (fl (2^24))).2 t))) ⟨h,gl,d,t+1,os⟩
 rw[r5 h1 h2,e];exact K
theorem dy(hx:x=fl a)(hy:y=fl (2^24))(h1:-(2^24)<a)(h2:a<2^24)(e:(if a<0 then a+2^24 else a)=c):(⟨(.call (.builtin "float.__mod__") ⟨[.float x u,.float y v],[]⟩),fun t=>((.float (fl c) t)),1⟩:dn).Ok B.prog B.w:=fun _ _ _ _ _ _ _ K=>r7 hx hy h1 h2 e K
theorem oz(hx:x=fl a)(ha:ag a)(hi:ag (i*2^24))(hc:ag c)(e:i*2^24+a=c)
 (K:R (.ok (.ret (.float (fl c) t))) ⟨h,gl,d,t+1,os⟩):codeAny (MB B) A (.call (.builtin "float.__radd__") ⟨[.float x u,.int i v],[]⟩) R ⟨h,gl,d,t,os⟩:=by
 subst hx
 refine gd F.slot_float_radd rfl F.entry_float_radd (F.args_float_radd_2 _ _) (AutoFloatG5.float___radd___float_int_1 _ _ _ _ (d9 hi)) ?_
 show R (.ok (.ret (.float (Float64.add (Float64.ofInt i) (fl a)) t))) ⟨h,gl,d,t+1,os⟩
 rw[dZ hi,show Float64.add (fl (i*2^24)) (fl a)=fl c from e▸ni hi ha (e▸hc)];exact K
theorem gO(hx:x=fl a)(ha:ag a)(hi:ag (i*2^24))(hc:ag c)(e:i*2^24+a=c):(⟨(.call (.builtin "float.__radd__") ⟨[.float x u,.int i v],[]⟩),fun t=>((.float (fl c) t)),1⟩:dn).Ok B.prog B.w:=fun _ _ _ _ _ _ _ K=>oz hx ha hi hc e K
theorem qr(hx:x=fl a)(ha:ag a)(hi:ag (i*2^24))(hc:ag c)(e:a-i*2^24=c)
 (K:R (.ok (.ret (.float (fl c) t))) ⟨h,gl,d,t+1,os⟩):codeAny (MB B) A (.call (.builtin "float.__sub__") ⟨[.float x u,.int i v],[]⟩) R ⟨h,gl,d,t,os⟩:=by
 subst hx
 refine gd F.slot_float_sub rfl F.entry_float_sub (F.args_float_sub_2 _ _) (AutoFloatG3.float___sub___float_int_1 _ _ _ _ (d9 hi)) ?_
 show R (.ok (.ret (.float (Float64.sub (fl a) (Float64.ofInt i)) t))) ⟨h,gl,d,t+1,os⟩
 rw[dZ hi,show Float64.sub (fl a) (fl (i*2^24))=fl c from e▸na ha hi (e▸hc)];exact K
theorem fw(hx:x=fl a)(ha:ag a)(hi:ag (i*2^24))(hc:ag c)(e:a-i*2^24=c):(⟨(.call (.builtin "float.__sub__") ⟨[.float x u,.int i v],[]⟩),fun t=>((.float (fl c) t)),1⟩:dn).Ok B.prog B.w:=fun _ _ _ _ _ _ _ K=>qr hx ha hi hc e K
theorem ow(hx:x=fl a)(ha:ag a)(hi:ag (i*2^24))(hc:ag c)(e:i*2^24-a=c)
 (K:R (.ok (.ret (.float (fl c) t))) ⟨h,gl,d,t+1,os⟩):codeAny (MB B) A (.call (.builtin "float.__rsub__") ⟨[.float x u,.int i v],[]⟩) R ⟨h,gl,d,t,os⟩:=by
 subst hx
 refine gd F.slot_float_rsub rfl F.entry_float_rsub (F.args_float_rsub_2 _ _) (AutoFloatG4.float___rsub___float_int_1 _ _ _ _ (d9 hi)) ?_
 show R (.ok (.ret (.float (Float64.sub (Float64.ofInt i) (fl a)) t))) ⟨h,gl,d,t+1,os⟩
 rw[dZ hi,show Float64.sub (fl (i*2^24)) (fl a)=fl c from e▸na hi ha (e▸hc)];exact K
theorem ao(hx:x=fl a)(ha:ag a)(hi:ag (i*2^24))(hc:ag c)(e:i*2^24-a=c):(⟨(.call (.builtin "float.__rsub__") ⟨[.float x u,.int i v],[]⟩),fun t=>((.float (fl c) t)),1⟩:dn).Ok B.prog B.w:=fun _ _ _ _ _ _ _ K=>ow hx ha hi hc e K
theorem qu(hx:x=fl a)(ha:ag a)(hi:ag (i*2^24))(hc:ag c)(h0:0≤a)(h1:0≤i)(e:a*i=c)
 (K:R (.ok (.ret (.float (fl c) t))) ⟨h,gl,d,t+1,os⟩):codeAny (MB B) A (.call (.builtin "float.__mul__") ⟨[.float x u,.int i v],[]⟩) R ⟨h,gl,d,t,os⟩:=by
 subst hx
 refine gd F.slot_float_mul rfl F.entry_float_mul (F.args_float_mul_2 _ _) (AutoFloatG3.float___mul___float_int_1 _ _ _ _ (d9 hi)) ?_
 show R (.ok (.ret (.float (Float64.mul (fl a) (Float64.ofInt i)) t))) ⟨h,gl,d,t+1,os⟩
 rw[dZ hi,nf ha hi hc h0 (Int.mul_nonneg h1 (by decide)) (by rw[←e,Int.mul_assoc])];exact K
theorem aP(hx:x=fl a)(ha:ag a)(hi:ag (i*2^24))(hc:ag c)(h0:0≤a)(h1:0≤i)(e:a*i=c):(⟨(.call (.builtin "float.__mul__") ⟨[.float x u,.int i v],[]⟩),fun t=>((.float (fl c) t)),1⟩:dn).Ok B.prog B.w:=fun _ _ _ _ _ _ _ K=>qu hx ha hi hc h0 h1 e K
theorem ox(hx:x=fl a)(ha:ag a)(hi:ag (i*2^24))(hc:ag c)(h0:0≤a)(h1:0≤i)(e:a*i=c)
 (K:R (.ok (.ret (.float (fl c) t))) ⟨h,gl,d,t+1,os⟩):codeAny (MB B) A (.call (.builtin "float.__rmul__") ⟨[.float x u,.int i v],[]⟩) R ⟨h,gl,d,t,os⟩:=by
 subst hx
 refine gd F.slot_float_rmul rfl F.entry_float_rmul (F.args_float_rmul_2 _ _) (AutoFloatG6.float___rmul___float_int_1 _ _ _ _ (d9 hi)) ?_
 show R (.ok (.ret (.float (Float64.mul (Float64.ofInt i) (fl a)) t))) ⟨h,gl,d,t+1,os⟩
 rw[dZ hi,nf hi ha hc (Int.mul_nonneg h1 (by decide)) h0 (by rw[←e,Int.mul_comm,Int.mul_assoc])];exact K
theorem a9(hx:x=fl a)(ha:ag a)(hi:ag (i*2^24))(hc:ag c)(h0:0≤a)(h1:0≤i)(e:a*i=c):(⟨(.call (.builtin "float.__rmul__") ⟨[.float x u,.int i v],[]⟩),fun t=>((.float (fl c) t)),1⟩:dn).Ok B.prog B.w:=fun _ _ _ _ _ _ _ K=>ox hx ha hi hc h0 h1 e K
theorem qy(hx:x=fl a)(ha:ag a)(hi:ag (i*2^24))(hc:ag c)(h1:0<i)(e:a=c*i)
 (K:R (.ok (.ret (.float (fl c) t))) ⟨h,gl,d,t+1,os⟩):codeAny (MB B) A (.call (.builtin "float.__truediv__") ⟨[.float x u,.int i v],[]⟩) R ⟨h,gl,d,t,os⟩:=by
 subst hx
 refine gd F.slot_float_truediv rfl F.entry_float_truediv (F.args_float_truediv_2 _ _) (AutoFloatG4.float___truediv___float_int_2 _ _ _ _ (d9 hi) (by rw[dZ hi,gA hi];simp only[decide_eq_true_eq];omega)) ?_
 show R (.ok (.ret (.float (Float64.div (fl a) (Float64.ofInt i)) t))) ⟨h,gl,d,t+1,os⟩
 rw[dZ hi,ng ha hi hc (Int.mul_pos h1 (by decide)) (by rw[e,Int.mul_assoc])];exact K
theorem iA(hx:x=fl a)(ha:ag a)(hi:ag (i*2^24))(hc:ag c)(h1:0<i)(e:a=c*i):(⟨(.call (.builtin "float.__truediv__") ⟨[.float x u,.int i v],[]⟩),fun t=>((.float (fl c) t)),1⟩:dn).Ok B.prog B.w:=fun _ _ _ _ _ _ _ K=>qy hx ha hi hc h1 e K
theorem oy(hx:x=fl a)(ha:ag a)(hi:ag (i*2^24))(hc:ag c)(h1:0<a)(e:i*2^24*2^24=c*a)
 (K:R (.ok (.ret (.float (fl c) t))) ⟨h,gl,d,t+1,os⟩):codeAny (MB B) A (.call (.builtin "float.__rtruediv__") ⟨[.float x u,.int i v],[]⟩) R ⟨h,gl,d,t,os⟩:=by
 subst hx
 refine gd F.slot_float_rtruediv rfl F.entry_float_rtruediv (F.args_float_rtruediv_2 _ _) (AutoFloatG6.float___rtruediv___float_int_2 _ _ _ _ (d9 hi) (by rw[gA ha];simp only[decide_eq_true_eq];exact vO h1)) ?_
 show R (.ok (.ret (.float (Float64.div (Float64.ofInt i) (fl a)) t))) ⟨h,gl,d,t+1,os⟩
 rw[dZ hi,ng hi ha hc h1 e];exact K
theorem eg(hx:x=fl a)(ha:ag a)(hi:ag (i*2^24))(hc:ag c)(h1:0<a)(e:i*2^24*2^24=c*a):(⟨(.call (.builtin "float.__rtruediv__") ⟨[.float x u,.int i v],[]⟩),fun t=>((.float (fl c) t)),1⟩:dn).Ok B.prog B.w:=fun _ _ _ _ _ _ _ K=>oy hx ha hi hc h1 e K
theorem si{r:Bool}(hx:x=fl a)(ha:ag a)(hy:y=fl b)(hb:ag b)(e:decide (a=b)=r)
 (K:R (.ok (.ret (.bool r))) ⟨h,gl,d,t,os⟩):codeAny (MB B) A (.call (.builtin "float.__eq__") ⟨[.float x u,.float y v],[]⟩) R ⟨h,gl,d,t,os⟩:=by
 subst hx hy e
 refine gd F.slot_float_eq rfl F.entry_float_eq (F.args_float_eq_2 _ _) (AutoFloatG5.float___eq___float_float_0 _ _ _ _) ?_
 show R (.ok (.ret (.bool _))) ⟨h,gl,d,t,os⟩
 dsimp only
 rw[iZ (iz ha hb)];exact K
theorem di{r:Bool}(hx:x=fl a)(ha:ag a)(hy:y=fl b)(hb:ag b)(e:decide (a=b)=r):(⟨(.call (.builtin "float.__eq__") ⟨[.float x u,.float y v],[]⟩),fun t=>((.bool r)),0⟩:dn).Ok B.prog B.w:=fun _ _ _ _ _ _ _ K=>si hx ha hy hb e K
theorem sf{r:Bool}(hx:x=fl a)(ha:ag a)(e:decide (a=(i*2^24))=r)
 (K:R (.ok (.ret (.bool r))) ⟨h,gl,d,t,os⟩):codeAny (MB B) A (.call (.builtin "float.__eq__") ⟨[.float x u,.int i v],[]⟩) R ⟨h,gl,d,t,os⟩:=by
 subst hx e
 refine gd F.slot_float_eq rfl F.entry_float_eq (F.args_float_eq_2 _ _) (AutoFloatG6.float___eq___float_int_0 _ _ _ _) ?_
 show R (.ok (.ret (.bool _))) ⟨h,gl,d,t,os⟩
 dsimp only
 rw[iZ (iy ha)];exact K
theorem cU{r:Bool}(hx:x=fl a)(ha:ag a)(e:decide (a=(i*2^24))=r):(⟨(.call (.builtin "float.__eq__") ⟨[.float x u,.int i v],[]⟩),fun t=>((.bool r)),0⟩:dn).Ok B.prog B.w:=fun _ _ _ _ _ _ _ K=>sf hx ha e K
theorem r9{r:Bool}(hx:x=fl a)(ha:ag a)(hy:y=fl b)(hb:ag b)(e:decide (a<b)=r)
 (K:R (.ok (.ret (.bool r))) ⟨h,gl,d,t,os⟩):codeAny (MB B) A (.call (.builtin "float.__lt__") ⟨[.float x u,.float y v],[]⟩) R ⟨h,gl,d,t,os⟩:=by
 subst hx hy e
 refine gd F.slot_float_lt rfl F.entry_float_lt (F.args_float_lt_2 _ _) (AutoFloatG5.float___lt___float_float_0 _ _ _ _) ?_
 show R (.ok (.ret (.bool _))) ⟨h,gl,d,t,os⟩
 dsimp only
 rw[kW (iz ha hb)];exact K
theorem fz{r:Bool}(hx:x=fl a)(ha:ag a)(hy:y=fl b)(hb:ag b)(e:decide (a<b)=r):(⟨(.call (.builtin "float.__lt__") ⟨[.float x u,.float y v],[]⟩),fun t=>((.bool r)),0⟩:dn).Ok B.prog B.w:=fun _ _ _ _ _ _ _ K=>r9 hx ha hy hb e K
theorem r8{r:Bool}(hx:x=fl a)(ha:ag a)(e:decide (a< (i*2^24))=r)
 (K:R (.ok (.ret (.bool r))) ⟨h,gl,d,t,os⟩):codeAny (MB B) A (.call (.builtin "float.__lt__") ⟨[.float x u,.int i v],[]⟩) R ⟨h,gl,d,t,os⟩:=by
 subst hx e
 refine gd F.slot_float_lt rfl F.entry_float_lt (F.args_float_lt_2 _ _) (AutoFloatG2.float___lt___float_int_0 _ _ _ _) ?_
 show R (.ok (.ret (.bool _))) ⟨h,gl,d,t,os⟩
 dsimp only
 rw[kW (iy ha)];exact K
theorem d3{r:Bool}(hx:x=fl a)(ha:ag a)(e:decide (a< (i*2^24))=r):(⟨(.call (.builtin "float.__lt__") ⟨[.float x u,.int i v],[]⟩),fun t=>((.bool r)),0⟩:dn).Ok B.prog B.w:=fun _ _ _ _ _ _ _ K=>r8 hx ha e K
theorem se{r:Bool}(hx:x=fl a)(ha:ag a)(hy:y=fl b)(hb:ag b)(e:decide (b<a)=r)
 (K:R (.ok (.ret (.bool r))) ⟨h,gl,d,t,os⟩):codeAny (MB B) A (.call (.builtin "float.__gt__") ⟨[.float x u,.float y v],[]⟩) R ⟨h,gl,d,t,os⟩:=by
 subst hx hy e
 refine gd F.slot_float_gt rfl F.entry_float_gt (F.args_float_gt_2 _ _) (AutoFloatG4.float___gt___float_float_0 _ _ _ _) ?_
 show R (.ok (.ret (.bool _))) ⟨h,gl,d,t,os⟩
 dsimp only
 rw[nV (iz ha hb)];exact K
theorem g8{r:Bool}(hx:x=fl a)(ha:ag a)(hy:y=fl b)(hb:ag b)(e:decide (b<a)=r):(⟨(.call (.builtin "float.__gt__") ⟨[.float x u,.float y v],[]⟩),fun t=>((.bool r)),0⟩:dn).Ok B.prog B.w:=fun _ _ _ _ _ _ _ K=>se hx ha hy hb e K
theorem sc{r:Bool}(hx:x=fl a)(ha:ag a)(e:decide ((i*2^24)<a)=r)
 (K:R (.ok (.ret (.bool r))) ⟨h,gl,d,t,os⟩):codeAny (MB B) A (.call (.builtin "float.__gt__") ⟨[.float x u,.int i v],[]⟩) R ⟨h,gl,d,t,os⟩:=by
 subst hx e
 refine gd F.slot_float_gt rfl F.entry_float_gt (F.args_float_gt_2 _ _) (AutoFloatG1.float___gt___float_int_0 _ _ _ _) ?_
 show R (.ok (.ret (.bool _))) ⟨h,gl,d,t,os⟩
 dsimp only
 rw[nV (iy ha)];exact K
theorem eM{r:Bool}(hx:x=fl a)(ha:ag a)(e:decide ((i*2^24)<a)=r):(⟨(.call (.builtin "float.__gt__") ⟨[.float x u,.int i v],[]⟩),fun t=>((.bool r)),0⟩:dn).Ok B.prog B.w:=fun _ _ _ _ _ _ _ K=>sc hx ha e K
theorem sa{r:Bool}(hx:x=fl a)(ha:ag a)(hy:y=fl b)(hb:ag b)(e:decide (a≤b)=r)
 (K:R (.ok (.ret (.bool r))) ⟨h,gl,d,t,os⟩):codeAny (MB B) A (.call (.builtin "float.__le__") ⟨[.float x u,.float y v],[]⟩) R ⟨h,gl,d,t,os⟩:=by
 subst hx hy e
 refine gd F.slot_float_le rfl F.entry_float_le (F.args_float_le_2 _ _) (AutoFloatG3.float___le___float_float_0 _ _ _ _) ?_
 show R (.ok (.ret (.bool _))) ⟨h,gl,d,t,os⟩
 dsimp only
 rw[sv (iz ha hb)];exact K
theorem dz{r:Bool}(hx:x=fl a)(ha:ag a)(hy:y=fl b)(hb:ag b)(e:decide (a≤b)=r):(⟨(.call (.builtin "float.__le__") ⟨[.float x u,.float y v],[]⟩),fun t=>((.bool r)),0⟩:dn).Ok B.prog B.w:=fun _ _ _ _ _ _ _ K=>sa hx ha hy hb e K
theorem x9(e:i+j=c)
 (K:R (.ok (.ret (.int c t))) ⟨h,gl,d,t+1,os⟩):codeAny (MB B) A (.call (.builtin "int.__add__") ⟨[.int i u,.int j v],[]⟩) R ⟨h,gl,d,t,os⟩:=by
 subst e
 exact gd F.slot_int_add rfl F.entry_int_add (F.args_int_add_2 _ _) (AutoIntG4.int___add___int_int_0 _ _ _ _) K
theorem pV(hs:Builtin.Int.intBits i≤64∨Builtin.Int.intBits j≤64)(e:i*j=c)
 (K:R (.ok (.ret (.int c t))) ⟨h,gl,d,t+1,os⟩):codeAny (MB B) A (.call (.builtin "int.__mul__") ⟨[.int i u,.int j v],[]⟩) R ⟨h,gl,d,t,os⟩:=by
 subst e
 exact gd F.slot_int_mul rfl F.entry_int_mul (F.args_int_mul_2 _ _) (AutoIntG1.int___mul___int_int_0 _ _ _ _ (hs.elim IntMulOk.of_left IntMulOk.of_right)) K
theorem cj(hs:Builtin.Int.intBits i≤64∨Builtin.Int.intBits j≤64)(e:i*j=c):(⟨(.call (.builtin "int.__mul__") ⟨[.int i u,.int j v],[]⟩),fun t=>((.int c t)),1⟩:dn).Ok B.prog B.w:=fun _ _ _ _ _ _ _ K=>pV hs e K
theorem x8(hj:j≠0)(e:i.fmod j=c)
 (K:R (.ok (.ret (.int c t))) ⟨h,gl,d,t+1,os⟩):codeAny (MB B) A (.call (.builtin "int.__mod__") ⟨[.int i u,.int j v],[]⟩) R ⟨h,gl,d,t,os⟩:=by
 subst e
 exact gd F.slot_int_mod rfl F.entry_int_mod (F.args_int_mod_2 _ _) (AutoIntG6.int___mod___int_int_1 _ _ _ _ (by simpa using hj)) K
theorem aG(hj:j≠0)(e:i.fmod j=c):(⟨(.call (.builtin "int.__mod__") ⟨[.int i u,.int j v],[]⟩),fun t=>((.int c t)),1⟩:dn).Ok B.prog B.w:=fun _ _ _ _ _ _ _ K=>x8 hj e K
theorem pX(hj:j≠0)(hp:Builtin.divisionGoesByPylong i j=false)(e:i.fdiv j=c)
 (K:R (.ok (.ret (.int c t))) ⟨h,gl,d,t+1,os⟩):codeAny (MB B) A (.call (.builtin "int.__floordiv__") ⟨[.int i u,.int j v],[]⟩) R ⟨h,gl,d,t,os⟩:=by
 subst e
 exact gd F.slot_int_floordiv rfl F.entry_int_floordiv (F.args_int_floordiv_2 _ _) (AutoIntG4.int___floordiv___int_int_1 _ _ _ _ (by simpa using hj) (by rw[hp];exact Bool.false_ne_true)) K
theorem da(hj:j≠0)(hp:Builtin.divisionGoesByPylong i j=false)(e:i.fdiv j=c):(⟨(.call (.builtin "int.__floordiv__") ⟨[.int i u,.int j v],[]⟩),fun t=>((.int c t)),1⟩:dn).Ok B.prog B.w:=fun _ _ _ _ _ _ _ K=>pX hj hp e K
theorem lQ{r:Bool}(e:decide (i=j)=r)
 (K:R (.ok (.ret (.bool r))) ⟨h,gl,d,t,os⟩):codeAny (MB B) A (.call (.builtin "int.__eq__") ⟨[.int i u,.int j v],[]⟩) R ⟨h,gl,d,t,os⟩:=by
 subst e
 refine gd F.slot_int_eq rfl F.entry_int_eq (F.args_int_eq_2 _ _) (AutoIntG7.int___eq___int_int_0 _ _ _ _) ?_
 show R (.ok (.ret (.bool _))) ⟨h,gl,d,t,os⟩
 dsimp only
 first|exact K|(rw[show(i==j)=decide (i=j) from rfl];exact K)|(rw[show(i !=j)=decide (i≠j) from by by_cases q:i=j<;>simp[q]];exact K)
theorem lP{r:Bool}(e:decide (i=j)=r):(⟨(.call (.builtin "int.__eq__") ⟨[.int i u,.int j v],[]⟩),fun t=>((.bool r)),0⟩:dn).Ok B.prog B.w:=fun _ _ _ _ _ _ _ K=>lQ e K
theorem BV{r:Bool}(e:decide (i≠j)=r)
 (K:R (.ok (.ret (.bool r))) ⟨h,gl,d,t,os⟩):codeAny (MB B) A (.call (.builtin "int.__ne__") ⟨[.int i u,.int j v],[]⟩) R ⟨h,gl,d,t,os⟩:=by
 subst e
 refine gd F.slot_int_ne rfl F.entry_int_ne (F.args_int_ne_2 _ _) (AutoIntG6.int___ne___int_int_0 _ _ _ _) ?_
 show R (.ok (.ret (.bool _))) ⟨h,gl,d,t,os⟩
 dsimp only
 first|exact K|(rw[show(i==j)=decide (i=j) from rfl];exact K)|(rw[show(i !=j)=decide (i≠j) from by by_cases q:i=j<;>simp[q]];exact K)
theorem pU{r:Bool}(e:decide (i≠j)=r):(⟨(.call (.builtin "int.__ne__") ⟨[.int i u,.int j v],[]⟩),fun t=>((.bool r)),0⟩:dn).Ok B.prog B.w:=fun _ _ _ _ _ _ _ K=>BV e K
theorem oo{r:Bool}(e:decide (i<j)=r)
 (K:R (.ok (.ret (.bool r))) ⟨h,gl,d,t,os⟩):codeAny (MB B) A (.call (.builtin "int.__lt__") ⟨[.int i u,.int j v],[]⟩) R ⟨h,gl,d,t,os⟩:=by
 subst e
 refine gd F.slot_int_lt rfl F.entry_int_lt (F.args_int_lt_2 _ _) (AutoIntG1.int___lt___int_int_0 _ _ _ _) ?_
 show R (.ok (.ret (.bool _))) ⟨h,gl,d,t,os⟩
 dsimp only
 first|exact K|(rw[show(i==j)=decide (i=j) from rfl];exact K)|(rw[show(i !=j)=decide (i≠j) from by by_cases q:i=j<;>simp[q]];exact K)
theorem iE{r:Bool}(e:decide (i<j)=r):(⟨(.call (.builtin "int.__lt__") ⟨[.int i u,.int j v],[]⟩),fun t=>((.bool r)),0⟩:dn).Ok B.prog B.w:=fun _ _ _ _ _ _ _ K=>oo e K
theorem BW{r:Bool}(e:decide (i≤j)=r)
 (K:R (.ok (.ret (.bool r))) ⟨h,gl,d,t,os⟩):codeAny (MB B) A (.call (.builtin "int.__le__") ⟨[.int i u,.int j v],[]⟩) R ⟨h,gl,d,t,os⟩:=by
 subst e
 refine gd F.slot_int_le rfl F.entry_int_le (F.args_int_le_2 _ _) (AutoIntG1.int___le___int_int_0 _ _ _ _) ?_
 show R (.ok (.ret (.bool _))) ⟨h,gl,d,t,os⟩
 dsimp only
 first|exact K|(rw[show(i==j)=decide (i=j) from rfl];exact K)|(rw[show(i !=j)=decide (i≠j) from by by_cases q:i=j<;>simp[q]];exact K)
theorem BX{r:Bool}(e:decide (i>j)=r)
 (K:R (.ok (.ret (.bool r))) ⟨h,gl,d,t,os⟩):codeAny (MB B) A (.call (.builtin "int.__gt__") ⟨[.int i u,.int j v],[]⟩) R ⟨h,gl,d,t,os⟩:=by
 subst e
 refine gd F.slot_int_gt rfl F.entry_int_gt (F.args_int_gt_2 _ _) (AutoIntG4.int___gt___int_int_0 _ _ _ _) ?_
 show R (.ok (.ret (.bool _))) ⟨h,gl,d,t,os⟩
 dsimp only
 first|exact K|(rw[show(i==j)=decide (i=j) from rfl];exact K)|(rw[show(i !=j)=decide (i≠j) from by by_cases q:i=j<;>simp[q]];exact K)
theorem nQ{r:Bool}(e:decide (i>j)=r):(⟨(.call (.builtin "int.__gt__") ⟨[.int i u,.int j v],[]⟩),fun t=>((.bool r)),0⟩:dn).Ok B.prog B.w:=fun _ _ _ _ _ _ _ K=>BX e K
theorem BY{r:Bool}(e:decide (i≥j)=r)
 (K:R (.ok (.ret (.bool r))) ⟨h,gl,d,t,os⟩):codeAny (MB B) A (.call (.builtin "int.__ge__") ⟨[.int i u,.int j v],[]⟩) R ⟨h,gl,d,t,os⟩:=by
 subst e
 refine gd F.slot_int_ge rfl F.entry_int_ge (F.args_int_ge_2 _ _) (AutoIntG9.int___ge___int_int_0 _ _ _ _) ?_
 show R (.ok (.ret (.bool _))) ⟨h,gl,d,t,os⟩
 dsimp only
 first|exact K|(rw[show(i==j)=decide (i=j) from rfl];exact K)|(rw[show(i !=j)=decide (i≠j) from by by_cases q:i=j<;>simp[q]];exact K)
theorem pW{r:Bool}(e:decide (i≥j)=r):(⟨(.call (.builtin "int.__ge__") ⟨[.int i u,.int j v],[]⟩),fun t=>((.bool r)),0⟩:dn).Ok B.prog B.w:=fun _ _ _ _ _ _ _ K=>BY e K
theorem om(hj:0<j)(hc:ag c)(e:i*2^24=c*j)
 (K:R (.ok (.ret (.float (fl c) t))) ⟨h,gl,d,t+1,os⟩):codeAny (MB B) A (.call (.builtin "int.__truediv__") ⟨[.int i u,.int j v],[]⟩) R ⟨h,gl,d,t,os⟩:=by
 have q:=r6 hj hc e
 refine gd F.slot_int_truediv rfl F.entry_int_truediv (F.args_int_truediv_2 _ _) (AutoIntG4.int___truediv___int_int_2 _ _ _ _ (by simp only[beq_iff_eq];exact vO hj) (by rw[q,lZ hc];exact Bool.false_ne_true)) ?_
 show R (.ok (.ret (.float (Float64.ofFrac (decide (i<0)!=decide (j<0)) i.natAbs j.natAbs) t))) ⟨h,gl,d,t+1,os⟩
 rw[q];exact K
theorem df(hj:0<j)(hc:ag c)(e:i*2^24=c*j):(⟨(.call (.builtin "int.__truediv__") ⟨[.int i u,.int j v],[]⟩),fun t=>((.float (fl c) t)),1⟩:dn).Ok B.prog B.w:=fun _ _ _ _ _ _ _ K=>om hj hc e K
theorem mV(e:((Builtin.Int.intBits i:Nat):Int)=c)
 (K:R (.ok (.ret (.int c t))) ⟨h,gl,d,t+1,os⟩):codeAny (MB B) A (.call (.builtin "int.bit_length") ⟨[.int i u],[]⟩) R ⟨h,gl,d,t,os⟩:=by
 subst e
 exact gd F.slot_int_bit_length rfl F.entry_int_bit_length (F.args_int_bit_length_1 _) (AutoIntG2.int_bit_length_int_0 _ _) K
theorem uJ(hx:x=fl a)(ha:ag a)(h0:0≤a)(e:a/2^24=c)
 (K:R (.ok (.ret (.int c t))) ⟨h,gl,d,t+1,os⟩):codeAny (MB B) A (.call (.builtin "float.__int__") ⟨[.float x u],[]⟩) R ⟨h,gl,d,t,os⟩:=by
 subst hx e
 obtain⟨m,f,hd,_⟩:=c6 ha
 have q:=qq ha h0 hd
 refine gd F.slot_float_int rfl F.entry_float_int (F.args_float_int_1 _) (gives_float_int _ _ hd) ?_
 show R (.ok (.ret (.int _ t))) ⟨h,gl,d,t+1,os⟩
 rw[q];exact K
theorem aV(hx:x=fl a)(ha:ag a)(h0:0≤a)(e:a/2^24=c):(⟨(.call (.builtin "float.__int__") ⟨[.float x u],[]⟩),fun t=>((.int c t)),1⟩:dn).Ok B.prog B.w:=fun _ _ _ _ _ _ _ K=>uJ hx ha h0 e K
end
section
variable {α:Type} {B:aQ} {A:Around} {N t₀:Nat} {Q:α→Shared→Prop} {E:Value→Shared→Prop} {t:Sem α} {tab:ae} {h:Heap} {gl:Array GenState} {d:Drawn} {os:OsState}
theorem kB(hh:A.handled=none)(R:Rep B N h tab 0)(n:Nat)(adv:List Nat)(bL:List Bool)(a:Value)(aR:ae)(m i:Nat)
 (e:view (run B N t₀ n adv t tab) bL=⟨.exc a,aR,m,i,(run B N t₀ n adv t tab).ob.map (·.2)⟩)
 (K:∀h' N' t',Rep B N' h' aR 0→E a ⟨h',gl,d,t',os⟩):wpAny (MB B) A t Q E ⟨h,gl,d,t₀,os⟩:=by
 generalize hx:run B N t₀ n adv t tab=x at e
 unfold view at e
 injection e with e1 e2 e3 e4 e5
 refine(cM (V:=tO B N t₀) (B:=B) n).T α A Q E t tab 0 0 [] adv h gl d os x (kH B hh N t₀) R hx (gS.of_map e5) fun h' R'=>?_
 have hv:x.t=.raise a:=by
  cases q:x.t<;>rw[q] at e1<;>unfold jf at e1<;>first|(cases e1;done)|(injection e1 with e1;rw[e1])|(dsimp only at e1;split at e1<;>cases e1)
 rw[hv]
 exact wpAny_throw (K h' (N+x.m) _ (e2▸(R'.sub (dd _ bL)).flat))
end
structure yV where
 r:Option Result
 tab:ae
 m:Nat
 i:Nat
 ob:List Ob
noncomputable def o2(x:oE)(bL:List Bool):yV:=⟨x.r,i9 x.tab bL,x.m,x.i,x.ob.map (·.1)⟩
noncomputable abbrev runC(B:aQ)(N t₀:Nat)(ans:List dn)(n:Nat)(adv:List Nat)(c:Code)(tab:ae):oE:=(ev (jC B N t₀ ans) n).C c tab 0 0 [] adv
theorem bN{B:aQ}{A:Around}{P:Result→Shared→Prop}{N t₀:Nat}{tab:ae}{h:Heap}{gl:Array GenState}{d:Drawn}{os:OsState}{c:Code}
 (hh:A.handled=none) (R:Rep B N h tab 0) (ans:List dn) (n:Nat) (adv:List Nat) (bL:List Bool) (r:Result) (aR:ae) (m i:Nat)
 (e:o2 (runC B N t₀ ans n adv c tab) bL=⟨some r,aR,m,i,(runC B N t₀ ans n adv c tab).ob.map (·.2)⟩) (ha:cV B.prog B.w ans)
 (K:∀h' N' t',Rep B N' h' aR 0→P r ⟨h',gl,d,t',os⟩):codeAny (MB B) A c P ⟨h,gl,d,t₀,os⟩:=by
 generalize hx:runC B N t₀ ans n adv c tab=x at e
 unfold o2 at e
 injection e with e1 e2 e3 e4 e5
 exact(cM (V:=jC B N t₀ ans) (B:=B) n).C A P c tab 0 0 [] adv h gl d os r x (fF B hh N t₀ ha) R hx e1 (gS.of_map e5) fun h' R'=>K h' (N+x.m) _ (e2▸(R'.sub (dd _ bL)).flat)
theorem yH{B:aQ}{A:Around}{R:Result→Shared→Prop}{h:Heap}{gl:Array GenState}{d:Drawn}{t N:Nat}{os:OsState}{tab:ae}(hh:A.handled=none)(Rp:Rep B N h tab 0)
 (K:∀h' N' t' e u,Rep B N' h' ((e,⟨.type "ZeroDivisionError",none,.fields #[.ref u,.none,.none,.none,.bool false,.none],#[]⟩)::(u,⟨.type "tuple",none,.seq #[] 0,#[]⟩)::tab) 0→R (.ok (.ret (.ref e))) ⟨h',gl,d,t',os⟩):
 codeAny (MB B) A (.call (.builtin "ZeroDivisionError.__new__") ⟨[.type "ZeroDivisionError"],[]⟩) R ⟨h,gl,d,t,os⟩:=by
 refine af ?_
 refine aE hh Rp 20 [] [] (Fin.again (.builtin "ZeroDivisionError.__new__" ⟨[.type "ZeroDivisionError"],[]⟩)) (tab) 0 0 (by rfl') fun h1 N1 t1 Rp=>?_
 refine⟨Code.quiet_builtin _ (by decide+kernel),?_⟩
 refine codeAny_exc_new PySem.F.excCall_ZeroDivisionError.toExcNewFacts ?_
 have hs:=Rp.size
 have q:=((Rp.push (o:=⟨.type "tuple",none,.seq #[] 0,#[]⟩) rfl).push (o:=⟨.type "ZeroDivisionError",none,.fields #[.ref N1,.none,.none,.none,.bool false,.none],#[]⟩) rfl).flat
 rw[hs]
 exact K _ _ _ _ _ q
theorem nM{B:aQ}{A:Around}{R:Result→Shared→Prop}{a b:Int}{u v w N t:Nat}{h:Heap}{gl:Array GenState}{d:Drawn}{os:OsState}{tab:ae}(hh:A.handled=none)(Rp:Rep B N h tab 0)
 (h0:0≤a) (h1:a≤2^24) (h2:0≤b) (h3:b≤2^24)
 (K:∀h' N' t',Rep B N' h' tab 0→R (.ok (.ret (.int 1 u))) ⟨h',gl,d,t',os⟩):codeAny (MB B) A (.call (.builtin "max") ⟨[.int 1 u,.float (fl a) v,.float (fl b) w],[]⟩) R ⟨h,gl,d,t,os⟩:=by
 refine bN hh Rp [⟨.call (.builtin "float.__gt__") ⟨[.float (fl a) v,.int 1 u],[]⟩,fun _=>.bool false,0⟩,⟨.call (.builtin "float.__gt__") ⟨[.float (fl b) w,.int 1 u],[]⟩,fun _=>.bool false,0⟩] 93 [5,5,0,5,5,5,6,0,6,6,6,7,6,2,5,1,5,5,6,0,6,6,6,7,6,2,1,5,6,0,6,6,6,7,6,2,2,5,6,0,6,6,6,7,6,2,5,7,3,7] [false,false,false,false,false] (.ok (.ret (.int 1 u))) (tab) 5 0 (by rfl') (aC (eM rfl (by exact dR h0 h1) (decide_eq_false (by exact tH h1))) (aC (eM rfl (by exact dR h2 h3) (decide_eq_false (by exact tH h3))) aN)) fun h4 N4 t4 Rp=>?_
 exact K _ _ _ Rp
theorem jX{B:aQ}{A:Around}{R:Result→Shared→Prop}{a b:Int}{u v w N t:Nat}{h:Heap}{gl:Array GenState}{d:Drawn}{os:OsState}{tab:ae}(hh:A.handled=none)(Rp:Rep B N h tab 0)
 (h0:0≤a) (h1:a≤2^24) (h2:0≤b) (h3:b≤2^24) (e:a<2^24)
 (K:∀h' N' t',Rep B N' h' tab 0→R (.ok (.ret (.int 1 v))) ⟨h',gl,d,t',os⟩):codeAny (MB B) A (.call (.builtin "max") ⟨[.float (fl a) u,.int 1 v,.float (fl b) w],[]⟩) R ⟨h,gl,d,t,os⟩:=by
 refine bN hh Rp [⟨.call (.builtin "float.__lt__") ⟨[.float (fl a) u,.int 1 v],[]⟩,fun _=>.bool true,0⟩,⟨.call (.builtin "float.__gt__") ⟨[.float (fl b) w,.int 1 v],[]⟩,fun _=>.bool false,0⟩] 101 [5,5,0,5,5,5,6,0,6,6,6,7,6,2,5,1,5,5,6,0,6,6,6,7,6,2,0,1,5,1,5,5,6,0,6,6,6,7,6,2,2,5,6,0,6,6,6,7,6,2,5,7,3,7] [false,false,false,false,false] (.ok (.ret (.int 1 v))) (tab) 5 0 (by rfl') (aC (d3 rfl (by exact gM h0 e) (decide_eq_true (by exact xf e))) (aC (eM rfl (by exact dR h2 h3) (decide_eq_false (by exact tH h3))) aN)) fun h4 N4 t4 Rp=>?_
 exact K _ _ _ Rp
theorem jY{B:aQ}{A:Around}{R:Result→Shared→Prop}{a b:Int}{u v w N t:Nat}{h:Heap}{gl:Array GenState}{d:Drawn}{os:OsState}{tab:ae}(hh:A.handled=none)(Rp:Rep B N h tab 0)
 (h0:0≤a) (h1:a≤2^24) (h2:0≤b) (h3:b≤2^24) (e:a=2^24)
 (K:∀h' N' t',Rep B N' h' tab 0→R (.ok (.ret (.float (fl a) u))) ⟨h',gl,d,t',os⟩):codeAny (MB B) A (.call (.builtin "max") ⟨[.float (fl a) u,.int 1 v,.float (fl b) w],[]⟩) R ⟨h,gl,d,t,os⟩:=by
 refine bN hh Rp [⟨.call (.builtin "float.__lt__") ⟨[.float (fl a) u,.int 1 v],[]⟩,fun _=>.bool false,0⟩,⟨.call (.builtin "float.__gt__") ⟨[.float (fl b) w,.float (fl a) u],[]⟩,fun _=>.bool false,0⟩] 98 [5,5,0,5,5,5,6,0,6,6,6,7,6,2,5,1,5,5,6,0,6,6,6,7,6,2,0,1,5,6,0,6,6,6,7,6,2,2,5,6,0,6,6,6,7,6,2,5,7,3,7] [false,false,false,false,false] (.ok (.ret (.float (fl a) u))) (tab) 5 0 (by rfl') (aC (d3 rfl (by exact eS e) (decide_eq_false (by exact Di e))) (aC (g8 (b:=(a)) rfl (by exact dR h2 h3) rfl (by exact eS e) (decide_eq_false (by omega))) aN)) fun h4 N4 t4 Rp=>?_
 exact K _ _ _ Rp
theorem jZ{B:aQ}{A:Around}{R:Result→Shared→Prop}{a b:Int}{u v w N t:Nat}{h:Heap}{gl:Array GenState}{d:Drawn}{os:OsState}{tab:ae}(hh:A.handled=none)(Rp:Rep B N h tab 0)
 (h0:0≤a) (h1:a≤2^24) (h2:0≤b) (h3:b≤2^24) (e:a<2^24) (e2:b<2^24)
 (K:∀h' N' t',Rep B N' h' tab 0→R (.ok (.ret (.int 1 w))) ⟨h',gl,d,t',os⟩):codeAny (MB B) A (.call (.builtin "max") ⟨[.float (fl a) u,.float (fl b) v,.int 1 w],[]⟩) R ⟨h,gl,d,t,os⟩:=by
 rcases Int.lt_or_le a b with o|o
 ·refine bN hh Rp [⟨.call (.builtin "float.__gt__") ⟨[.float (fl b) v,.float (fl a) u],[]⟩,fun _=>.bool true,0⟩,⟨.call (.builtin "float.__lt__") ⟨[.float (fl b) v,.int 1 w],[]⟩,fun _=>.bool true,0⟩] 104 [5,5,0,5,5,5,6,0,6,6,6,7,6,2,5,1,5,5,6,0,6,6,6,7,6,2,1,5,1,5,5,6,0,6,6,6,7,6,2,0,2,5,1,5,5,6,0,6,6,6,7,6,2,5,7,3,7] [false,false,false,false,false] (.ok (.ret (.int 1 w))) (tab) 5 0 (by rfl') (aC (g8 (b:=(a)) rfl (by exact gM h2 e2) rfl (by exact gM h0 e) (decide_eq_true (by exact zp o))) (aC (d3 rfl (by exact gM h2 e2) (decide_eq_true (by exact xf e2))) aN)) fun h4 N4 t4 Rp=>?_
  exact K _ _ _ Rp
 ·refine bN hh Rp [⟨.call (.builtin "float.__gt__") ⟨[.float (fl b) v,.float (fl a) u],[]⟩,fun _=>.bool false,0⟩,⟨.call (.builtin "float.__lt__") ⟨[.float (fl a) u,.int 1 w],[]⟩,fun _=>.bool true,0⟩] 101 [5,5,0,5,5,5,6,0,6,6,6,7,6,2,5,1,5,5,6,0,6,6,6,7,6,2,1,5,6,0,6,6,6,7,6,2,0,2,5,1,5,5,6,0,6,6,6,7,6,2,5,7,3,7] [false,false,false,false,false] (.ok (.ret (.int 1 w))) (tab) 5 0 (by rfl') (aC (g8 (b:=(a)) rfl (by exact gM h2 e2) rfl (by exact gM h0 e) (decide_eq_false (by exact zo o))) (aC (d3 rfl (by exact gM h0 e) (decide_eq_true (by exact xf e))) aN)) fun h4 N4 t4 Rp=>?_
  exact K _ _ _ Rp
theorem j0{B:aQ}{A:Around}{R:Result→Shared→Prop}{a b:Int}{u v w N t:Nat}{h:Heap}{gl:Array GenState}{d:Drawn}{os:OsState}{tab:ae}(hh:A.handled=none)(Rp:Rep B N h tab 0)
 (h0:0≤a) (h1:a≤2^24) (h2:0≤b) (h3:b≤2^24) (e:a<2^24) (e2:b=2^24)
 (K:∀h' N' t',Rep B N' h' tab 0→R (.ok (.ret (.float (fl b) v))) ⟨h',gl,d,t',os⟩):codeAny (MB B) A (.call (.builtin "max") ⟨[.float (fl a) u,.float (fl b) v,.int 1 w],[]⟩) R ⟨h,gl,d,t,os⟩:=by
 refine bN hh Rp [⟨.call (.builtin "float.__gt__") ⟨[.float (fl b) v,.float (fl a) u],[]⟩,fun _=>.bool true,0⟩,⟨.call (.builtin "float.__lt__") ⟨[.float (fl b) v,.int 1 w],[]⟩,fun _=>.bool false,0⟩] 101 [5,5,0,5,5,5,6,0,6,6,6,7,6,2,5,1,5,5,6,0,6,6,6,7,6,2,1,5,1,5,5,6,0,6,6,6,7,6,2,0,2,5,6,0,6,6,6,7,6,2,5,7,3,7] [false,false,false,false,false] (.ok (.ret (.float (fl b) v))) (tab) 5 0 (by rfl') (aC (g8 (b:=(a)) rfl (by exact eS e2) rfl (by exact gM h0 e) (decide_eq_true (by omega))) (aC (d3 rfl (by exact eS e2) (decide_eq_false (by exact Di e2))) aN)) fun h4 N4 t4 Rp=>?_
 exact K _ _ _ Rp
theorem od{B:aQ}{A:Around}{R:Result→Shared→Prop}{a b:Int}{u v w N t:Nat}{h:Heap}{gl:Array GenState}{d:Drawn}{os:OsState}{tab:ae}(hh:A.handled=none)(Rp:Rep B N h tab 0)
 (h0:0≤a) (h1:a≤2^24) (h2:0≤b) (h3:b≤2^24) (e:a≤b) (e2:a<2^24)
 (K:∀h' N' t',Rep B N' h' tab 0→R (.ok (.ret (.float (fl a) v))) ⟨h',gl,d,t',os⟩):codeAny (MB B) A (.call (.builtin "min") ⟨[.int 1 u,.float (fl a) v,.float (fl b) w],[]⟩) R ⟨h,gl,d,t,os⟩:=by
 refine bN hh Rp [⟨.call (.builtin "float.__lt__") ⟨[.float (fl a) v,.int 1 u],[]⟩,fun _=>.bool true,0⟩,⟨.call (.builtin "float.__lt__") ⟨[.float (fl b) w,.float (fl a) v],[]⟩,fun _=>.bool false,0⟩] 96 [5,5,0,5,5,5,6,0,6,6,6,7,6,2,5,1,5,5,6,0,6,6,6,7,6,2,1,5,1,5,5,6,0,6,6,6,7,6,2,2,5,6,0,6,6,6,7,6,2,5,7,3,7] [false,false,false,false,false] (.ok (.ret (.float (fl a) v))) (tab) 5 0 (by rfl') (aC (d3 rfl (by exact gM h0 e2) (decide_eq_true (by exact xf e2))) (aC (fz (b:=(a)) rfl (by exact dR h2 h3) rfl (by exact gM h0 e2) (decide_eq_false (by exact zo e))) aN)) fun h4 N4 t4 Rp=>?_
 exact K _ _ _ Rp
theorem oc{B:aQ}{A:Around}{R:Result→Shared→Prop}{a b:Int}{u v w N t:Nat}{h:Heap}{gl:Array GenState}{d:Drawn}{os:OsState}{tab:ae}(hh:A.handled=none)(Rp:Rep B N h tab 0)
 (h0:0≤a) (h1:a≤2^24) (h2:0≤b) (h3:b≤2^24) (e:b<a)
 (K:∀h' N' t',Rep B N' h' tab 0→R (.ok (.ret (.float (fl b) w))) ⟨h',gl,d,t',os⟩):codeAny (MB B) A (.call (.builtin "min") ⟨[.int 1 u,.float (fl a) v,.float (fl b) w],[]⟩) R ⟨h,gl,d,t,os⟩:=by
 rcases Int.lt_or_le a (2^24) with o|o
 ·refine bN hh Rp [⟨.call (.builtin "float.__lt__") ⟨[.float (fl a) v,.int 1 u],[]⟩,fun _=>.bool true,0⟩,⟨.call (.builtin "float.__lt__") ⟨[.float (fl b) w,.float (fl a) v],[]⟩,fun _=>.bool true,0⟩] 99 [5,5,0,5,5,5,6,0,6,6,6,7,6,2,5,1,5,5,6,0,6,6,6,7,6,2,1,5,1,5,5,6,0,6,6,6,7,6,2,2,5,1,5,5,6,0,6,6,6,7,6,2,5,7,3,7] [false,false,false,false,false] (.ok (.ret (.float (fl b) w))) (tab) 5 0 (by rfl') (aC (d3 rfl (by exact gM h0 o) (decide_eq_true (by exact xf o))) (aC (fz (b:=(a)) rfl (by exact dR h2 h3) rfl (by exact gM h0 o) (decide_eq_true (by exact zp e))) aN)) fun h4 N4 t4 Rp=>?_
  exact K _ _ _ Rp
 ·refine bN hh Rp [⟨.call (.builtin "float.__lt__") ⟨[.float (fl a) v,.int 1 u],[]⟩,fun _=>.bool false,0⟩,⟨.call (.builtin "float.__lt__") ⟨[.float (fl b) w,.int 1 u],[]⟩,fun _=>.bool true,0⟩] 96 [5,5,0,5,5,5,6,0,6,6,6,7,6,2,5,1,5,5,6,0,6,6,6,7,6,2,1,5,6,0,6,6,6,7,6,2,2,5,1,5,5,6,0,6,6,6,7,6,2,5,7,3,7] [false,false,false,false,false] (.ok (.ret (.float (fl b) w))) (tab) 5 0 (by rfl') (aC (d3 rfl (by unfold ag;omega) (decide_eq_false (by omega))) (aC (d3 rfl (by exact dR h2 h3) (decide_eq_true (by omega))) aN)) fun h4 N4 t4 Rp=>?_
  exact K _ _ _ Rp
theorem of{B:aQ}{A:Around}{R:Result→Shared→Prop}{a b:Int}{u v w N t:Nat}{h:Heap}{gl:Array GenState}{d:Drawn}{os:OsState}{tab:ae}(hh:A.handled=none)(Rp:Rep B N h tab 0)
 (h0:0≤a) (h1:a≤2^24) (h2:0≤b) (h3:b≤2^24) (e:a≤b)
 (K:∀h' N' t',Rep B N' h' tab 0→R (.ok (.ret (.float (fl a) u))) ⟨h',gl,d,t',os⟩):codeAny (MB B) A (.call (.builtin "min") ⟨[.float (fl a) u,.int 1 v,.float (fl b) w],[]⟩) R ⟨h,gl,d,t,os⟩:=by
 refine bN hh Rp [⟨.call (.builtin "float.__gt__") ⟨[.float (fl a) u,.int 1 v],[]⟩,fun _=>.bool false,0⟩,⟨.call (.builtin "float.__lt__") ⟨[.float (fl b) w,.float (fl a) u],[]⟩,fun _=>.bool false,0⟩] 98 [5,5,0,5,5,5,6,0,6,6,6,7,6,2,5,1,5,5,6,0,6,6,6,7,6,2,0,1,5,6,0,6,6,6,7,6,2,2,5,6,0,6,6,6,7,6,2,5,7,3,7] [false,false,false,false,false] (.ok (.ret (.float (fl a) u))) (tab) 5 0 (by rfl') (aC (eM rfl (by exact dR h0 h1) (decide_eq_false (by exact tH h1))) (aC (fz (b:=(a)) rfl (by exact dR h2 h3) rfl (by exact dR h0 h1) (decide_eq_false (by exact zo e))) aN)) fun h4 N4 t4 Rp=>?_
 exact K _ _ _ Rp
theorem oe{B:aQ}{A:Around}{R:Result→Shared→Prop}{a b:Int}{u v w N t:Nat}{h:Heap}{gl:Array GenState}{d:Drawn}{os:OsState}{tab:ae}(hh:A.handled=none)(Rp:Rep B N h tab 0)
 (h0:0≤a) (h1:a≤2^24) (h2:0≤b) (h3:b≤2^24) (e:b<a)
 (K:∀h' N' t',Rep B N' h' tab 0→R (.ok (.ret (.float (fl b) w))) ⟨h',gl,d,t',os⟩):codeAny (MB B) A (.call (.builtin "min") ⟨[.float (fl a) u,.int 1 v,.float (fl b) w],[]⟩) R ⟨h,gl,d,t,os⟩:=by
 refine bN hh Rp [⟨.call (.builtin "float.__gt__") ⟨[.float (fl a) u,.int 1 v],[]⟩,fun _=>.bool false,0⟩,⟨.call (.builtin "float.__lt__") ⟨[.float (fl b) w,.float (fl a) u],[]⟩,fun _=>.bool true,0⟩] 101 [5,5,0,5,5,5,6,0,6,6,6,7,6,2,5,1,5,5,6,0,6,6,6,7,6,2,0,1,5,6,0,6,6,6,7,6,2,2,5,1,5,5,6,0,6,6,6,7,6,2,5,7,3,7] [false,false,false,false,false] (.ok (.ret (.float (fl b) w))) (tab) 5 0 (by rfl') (aC (eM rfl (by exact dR h0 h1) (decide_eq_false (by exact tH h1))) (aC (fz (b:=(a)) rfl (by exact dR h2 h3) rfl (by exact dR h0 h1) (decide_eq_true (by exact zp e))) aN)) fun h4 N4 t4 Rp=>?_
 exact K _ _ _ Rp
theorem oh{B:aQ}{A:Around}{R:Result→Shared→Prop}{a b:Int}{u v w N t:Nat}{h:Heap}{gl:Array GenState}{d:Drawn}{os:OsState}{tab:ae}(hh:A.handled=none)(Rp:Rep B N h tab 0)
 (h0:0≤a) (h1:a≤2^24) (h2:0≤b) (h3:b≤2^24) (e:a≤b)
 (K:∀h' N' t',Rep B N' h' tab 0→R (.ok (.ret (.float (fl a) u))) ⟨h',gl,d,t',os⟩):codeAny (MB B) A (.call (.builtin "min") ⟨[.float (fl a) u,.float (fl b) v,.int 1 w],[]⟩) R ⟨h,gl,d,t,os⟩:=by
 refine bN hh Rp [⟨.call (.builtin "float.__lt__") ⟨[.float (fl b) v,.float (fl a) u],[]⟩,fun _=>.bool false,0⟩,⟨.call (.builtin "float.__gt__") ⟨[.float (fl a) u,.int 1 w],[]⟩,fun _=>.bool false,0⟩] 98 [5,5,0,5,5,5,6,0,6,6,6,7,6,2,5,1,5,5,6,0,6,6,6,7,6,2,1,5,6,0,6,6,6,7,6,2,0,2,5,6,0,6,6,6,7,6,2,5,7,3,7] [false,false,false,false,false] (.ok (.ret (.float (fl a) u))) (tab) 5 0 (by rfl') (aC (fz (b:=(a)) rfl (by exact dR h2 h3) rfl (by exact dR h0 h1) (decide_eq_false (by exact zo e))) (aC (eM rfl (by exact dR h0 h1) (decide_eq_false (by exact tH h1))) aN)) fun h4 N4 t4 Rp=>?_
 exact K _ _ _ Rp
theorem og{B:aQ}{A:Around}{R:Result→Shared→Prop}{a b:Int}{u v w N t:Nat}{h:Heap}{gl:Array GenState}{d:Drawn}{os:OsState}{tab:ae}(hh:A.handled=none)(Rp:Rep B N h tab 0)
 (h0:0≤a) (h1:a≤2^24) (h2:0≤b) (h3:b≤2^24) (e:b<a)
 (K:∀h' N' t',Rep B N' h' tab 0→R (.ok (.ret (.float (fl b) v))) ⟨h',gl,d,t',os⟩):codeAny (MB B) A (.call (.builtin "min") ⟨[.float (fl a) u,.float (fl b) v,.int 1 w],[]⟩) R ⟨h,gl,d,t,os⟩:=by
 refine bN hh Rp [⟨.call (.builtin "float.__lt__") ⟨[.float (fl b) v,.float (fl a) u],[]⟩,fun _=>.bool true,0⟩,⟨.call (.builtin "float.__gt__") ⟨[.float (fl b) v,.int 1 w],[]⟩,fun _=>.bool false,0⟩] 101 [5,5,0,5,5,5,6,0,6,6,6,7,6,2,5,1,5,5,6,0,6,6,6,7,6,2,1,5,1,5,5,6,0,6,6,6,7,6,2,0,2,5,6,0,6,6,6,7,6,2,5,7,3,7] [false,false,false,false,false] (.ok (.ret (.float (fl b) v))) (tab) 5 0 (by rfl') (aC (fz (b:=(a)) rfl (by exact dR h2 h3) rfl (by exact dR h0 h1) (decide_eq_true (by exact zp e))) (aC (eM rfl (by exact dR h2 h3) (decide_eq_false (by exact tH h3))) aN)) fun h4 N4 t4 Rp=>?_
 exact K _ _ _ Rp
noncomputable def Cr(P:Shared→Prop)(f:Flow)(s:Shared):Prop:=match f with
 | .next=>P s
 |_=>False
theorem ji(n:Nat)(P:Shared→Prop){B:aQ}{A:Around}{Q:Flow→Shared→Prop}{E:Value→Shared→Prop}{l:List Stmt}{bk:Env}{s:Shared}
 (h:wpAny (MB B) A (aj (l.take n) bk) (Cr P) E s) (K:∀s,P s→wpAny (MB B) A (aj (l.drop n) bk) Q E s):wpAny (MB B) A (aj l bk) Q E s:=by
 refine bS n (wpAny_mono h (fun f s q=>?_) fun _ _ q=>q)
 cases f
 case next=>exact K s q
 all_goals exact q.elim
section
variable {B:aQ} {A:Around} {R:Result→Shared→Prop} {a b m:Int} {u v w N t:Nat} {h:Heap} {gl:Array GenState} {d:Drawn} {os:OsState} {tab:ae}
theorem nL(hh:A.handled=none)(Rp:Rep B N h tab 0)(h0:0≤a)(h1:a≤2^24)(h2:0≤b)(h3:b≤2^24)(m1:m≤a)(m2:m≤b)(m3:m=a∨m=b)(m4:m<2^24)
 (K:∀h' N' t' u',Rep B N' h' tab 0→R (.ok (.ret (.float (fl m) u'))) ⟨h',gl,d,t',os⟩):codeAny (MB B) A (.call (.builtin "min") ⟨[.int 1 u,.float (fl a) v,.float (fl b) w],[]⟩) R ⟨h,gl,d,t,os⟩:=by
 rcases Int.lt_or_le b a with o|o
 ·have:m=b:=by exact AU m2 m3 o
  subst this
  exact oc hh Rp h0 h1 h2 h3 o fun h' N' t' R'=>K h' N' t' _ R'
 ·have:m=a:=by exact AT m1 m3 o
  subst this
  exact od hh Rp h0 h1 h2 h3 o m4 fun h' N' t' R'=>K h' N' t' _ R'
theorem iT(hh:A.handled=none)(Rp:Rep B N h tab 0)(h0:0≤a)(h1:a≤2^24)(h2:0≤b)(h3:b≤2^24)(m1:m≤a)(m2:m≤b)(m3:m=a∨m=b)
 (K:∀h' N' t' u',Rep B N' h' tab 0→R (.ok (.ret (.float (fl m) u'))) ⟨h',gl,d,t',os⟩):codeAny (MB B) A (.call (.builtin "min") ⟨[.float (fl a) u,.int 1 v,.float (fl b) w],[]⟩) R ⟨h,gl,d,t,os⟩:=by
 rcases Int.lt_or_le b a with o|o
 ·have:m=b:=by exact AU m2 m3 o
  subst this
  exact oe hh Rp h0 h1 h2 h3 o fun h' N' t' R'=>K h' N' t' _ R'
 ·have:m=a:=by exact AT m1 m3 o
  subst this
  exact of hh Rp h0 h1 h2 h3 o fun h' N' t' R'=>K h' N' t' _ R'
theorem iU(hh:A.handled=none)(Rp:Rep B N h tab 0)(h0:0≤a)(h1:a≤2^24)(h2:0≤b)(h3:b≤2^24)(m1:m≤a)(m2:m≤b)(m3:m=a∨m=b)
 (K:∀h' N' t' u',Rep B N' h' tab 0→R (.ok (.ret (.float (fl m) u'))) ⟨h',gl,d,t',os⟩):codeAny (MB B) A (.call (.builtin "min") ⟨[.float (fl a) u,.float (fl b) v,.int 1 w],[]⟩) R ⟨h,gl,d,t,os⟩:=by
 rcases Int.lt_or_le b a with o|o
 ·have:m=b:=by exact AU m2 m3 o
  subst this
  exact og hh Rp h0 h1 h2 h3 o fun h' N' t' R'=>K h' N' t' _ R'
 ·have:m=a:=by exact AT m1 m3 o
  subst this
  exact oh hh Rp h0 h1 h2 h3 o fun h' N' t' R'=>K h' N' t' _ R'
end
section
variable {B:aQ} {A:Around} {R:Result→Shared→Prop} {h:Heap} {gl:Array GenState} {d:Drawn} {t:Nat} {os:OsState} {u v:Tok} {c i j:Int}
theorem Ac{T:String}{name:Str}{id:String}{b:Builtin}{fj:Value}{rest:List Value}(jA:Slot T name id)(hT:(⟨h,gl,d,t,os⟩:Shared).TypeIs fj T)(l5:entryFor table id=some b)
 (args:argsOk id ⟨fj::rest,[]⟩) (K:∀A',wpAny (model B.prog B.w) A' (b ⟨fj::rest,[]⟩) (fun f s'=>∃v,f=.done (.ret v)∧R (.ok (.ret v)) s') (fun _ _=>False) ⟨h,gl,d,t,os⟩):codeAny (MB B) A (.call (.builtin id) ⟨fj::rest,[]⟩) R ⟨h,gl,d,t,os⟩:=
 codeAny_call_builtin jA.plain l5 (jA.check _ _ _ _ _ _ _ _ hT args (wpAny_mono (K _) (fun f s' q=>by obtain⟨v,rfl,q⟩:=q;exact q) (fun _ _ q=>q.elim)))
theorem nP(hn:0≤j)(qY:(Builtin.Int.intBits i:Int)+j≤2^27)(e:i*2^j.toNat=c)
 (K:R (.ok (.ret (.int c t))) ⟨h,gl,d,t+1,os⟩):codeAny (MB B) A (.call (.builtin "int.__lshift__") ⟨[.int i u,.int j v],[]⟩) R ⟨h,gl,d,t,os⟩:=by
 subst e
 refine Ac F.slot_int_lshift rfl F.entry_int_lshift (F.args_int_lshift_2 _ _) fun A'=>?_
 show wpAny _ _ (if j<0 then _ else _) _ _ _
 rw[if_neg (by exact rB hn)]
 show wpAny _ _ (if(i==0)=true then _ else _) _ _ _
 by_cases h0:i=0
 ·rw[if_pos (by simpa using h0)]
  have e:i*2^j.toNat=0:=by subst h0;exact Int.zero_mul _
  rw[e] at K
  repeat (first|refine wpAny_pure ?_ |refine wpAny_mkInt ?_ |refine wpAny_rule ?_ |refine wpAny_bind ?_)
  exact⟨_,rfl,K⟩
 rw[if_neg (by simpa using h0)]
 have h3:¬(((Builtin.Int.intBits i:Int)+29)/30+j/30+(if j%30==0 then 0 else 1)>Builtin.maxDigits):=by
  unfold Builtin.maxDigits
  split<;>omega
 show wpAny _ _ (if((Builtin.Int.intBits i:Int)+29)/30+j/30+(if j%30==0 then 0 else 1)>Builtin.maxDigits then _ else _) _ _ _
 rw[if_neg h3]
 have hbig:Builtin.Int.intTooBig ((Builtin.Int.intBits i:Int)+j)=false:=decide_eq_false (Int.not_lt.mpr qY)
 show wpAny _ _ (if Builtin.Int.intTooBig ((Builtin.Int.intBits i:Int)+j)=true then _ else _) _ _ _
 rw[if_neg (by rw[hbig];exact Bool.false_ne_true)]
 repeat (first|refine wpAny_pure ?_ |refine wpAny_mkInt ?_ |refine wpAny_rule ?_ |refine wpAny_bind ?_)
 exact⟨_,rfl,K⟩
theorem pT(hn:0≤j)(e:i.fdiv (2^j.toNat)=c)
 (K:R (.ok (.ret (.int c t))) ⟨h,gl,d,t+1,os⟩):codeAny (MB B) A (.call (.builtin "int.__rshift__") ⟨[.int i u,.int j v],[]⟩) R ⟨h,gl,d,t,os⟩:=by
 subst e
 refine Ac F.slot_int_rshift rfl F.entry_int_rshift (F.args_int_rshift_2 _ _) fun A'=>?_
 show wpAny _ _ (if j<0 then _ else _) _ _ _
 rw[if_neg (by exact rB hn)]
 show wpAny _ _ (if j≥(Builtin.Int.intBits i:Int) then _ else _) _ _ _
 by_cases hb:j≥(Builtin.Int.intBits i:Int)
 ·rw[if_pos hb]
  have e:i.fdiv (2^j.toNat)=(if i<0 then(-1:Int) else 0):=fdiv_pow_of_bits (by omega)
  rw[e] at K
  repeat (first|refine wpAny_pure ?_ |refine wpAny_mkInt ?_ |refine wpAny_rule ?_ |refine wpAny_bind ?_)
  exact⟨_,rfl,K⟩
 ·rw[if_neg hb]
  repeat (first|refine wpAny_pure ?_ |refine wpAny_mkInt ?_ |refine wpAny_rule ?_ |refine wpAny_bind ?_)
  exact⟨_,rfl,K⟩
theorem x6(e:Builtin.bitXor i j=c)
 (K:R (.ok (.ret (.int c t))) ⟨h,gl,d,t+1,os⟩):codeAny (MB B) A (.call (.builtin "int.__xor__") ⟨[.int i u,.int j v],[]⟩) R ⟨h,gl,d,t,os⟩:=by
 subst e
 refine Ac F.slot_int_xor rfl F.entry_int_xor (F.args_int_xor_2 _ _) fun A'=>?_
 show wpAny _ _ (do ret (←mkInt (Builtin.bitXor i j))) _ _ _
 exact wpAny_bind (wpAny_mkInt (wpAny_pure ⟨_,rfl,K⟩))
theorem BZ{N:Nat}{tab:ae}{q r:Int}(Rp:Rep B N h tab 0)(hj:j≠0)(hp:Builtin.divisionGoesByPylong i j=false)(eq:i.fdiv j=q)(er:i.fmod j=r)
 (K:∀h' N' t' a u v,Rep B N' h' ((a,⟨.type "tuple",none,.seq #[.int q u,.int r v] 0,#[]⟩)::tab) 0→R (.ok (.ret (.ref a))) ⟨h',gl,d,t',os⟩):codeAny (MB B) A (.call (.builtin "int.__divmod__") ⟨[.int i u,.int j v],[]⟩) R ⟨h,gl,d,t,os⟩:=by
 subst eq er
 refine Ac slot_int_divmod rfl entry_int_divmod (args_int_divmod _ _) fun A'=>?_
 have Cm:(j==0)=false:=by simpa using hj
 show wpAny _ _ (do
  if j==0 then rule "int.divmod.zero";raiseError "ZeroDivisionError" "integer division or modulo by zero"
  Builtin.roomForPylong i j
  ret (←newTuple [←mkInt (i.fdiv j),←mkInt (i.fmod j)])) _ _ _
 simp only[Cm,Bool.false_eq_true,if_false,pure_bind]
 refine wpAny_bind (wpAny_roomForPylong (.inl hp) ?_)
 refine wpAny_bind (wpAny_mkInt (wpAny_bind (wpAny_mkInt (wpAny_bind (wpAny_newTuple (wpAny_pure ⟨_,rfl,?_⟩))))))
 have hs:=Rp.size
 refine K _ (N+(0+1)) _ _ t (t+1) ?_
 have:=Rp.push (o:=⟨.type "tuple",none,.seq #[.int (i.fdiv j) t,.int (i.fmod j) (t+1)] 0,#[]⟩) rfl
 dsimp only
 rw[hs]
 exact this.flat
end
theorem qx{B:aQ}{A:Around}{R:Result→Shared→Prop}{i j q r:Int}{u v N t:Nat}{h:Heap}{gl:Array GenState}{d:Drawn}{os:OsState}{tab:ae}(hh:A.handled=none)(Rp:Rep B N h tab 0)
 (hj:j≠0) (hp:Builtin.divisionGoesByPylong i j=false) (eq:i.fdiv j=q) (er:i.fmod j=r)
 (K:∀h' N' t' a u v,Rep B N' h' ((a,⟨.type "tuple",none,.seq #[.int q u,.int r v] 0,#[]⟩)::tab) 0→R (.ok (.ret (.ref a))) ⟨h',gl,d,t',os⟩):codeAny (MB B) A (.call (.builtin "divmod") ⟨[.int i u,.int j v],[]⟩) R ⟨h,gl,d,t,os⟩:=by
 refine af ?_
 refine aE hh Rp 11 [] [] (Fin.again (.builtin "divmod" ⟨[.int (i) u,.int (j) v],[]⟩)) (tab) 0 0 (by rfl') fun h1 N1 t1 Rp=>?_
 refine⟨Code.quiet_builtin _ (by decide+kernel),af ?_⟩
 refine seg_call hh Rp 11 [] [] (.call (.builtin "int.__divmod__") ⟨[.int (i) u,.int (j) v],[]⟩) (tab) 0 0 (by rfl') fun h2 N2 t2 Rp=>?_
 refine BZ (i:=(i)) (j:=(j)) (q:=q) (r:=r) Rp (by omega) (by assumption) (by assumption) (by assumption) fun h3 N3 t3 a3 u3 v3 Rp=>?_
 refine aE hh Rp 11 [] [true] (Fin.done (Flow.ret (.ref a3))) ((a3,⟨.type "tuple",none,.seq #[.int (q) u3,.int (r) v3] 0,#[]⟩)::tab) 0 0 (by rfl') fun h4 N4 t4 Rp=>?_
 exact K _ _ _ _ _ _ Rp
noncomputable def aQ.ext(B:aQ)(ro:ae)(hro:∀p∈ro,p.1<B.top∨eH p.2=false):aQ where
 prog:=B.prog
 w:=B.w
 stat:=B.stat
 ro:=ro
 top:=B.top
 I:=fun h=>B.I h∧∀p∈ro,h.get? p.1=some p.2
 push:=fun h o i=>⟨B.push h o i.1,fun p hp=>Heap.get?_push_of_some _ (i.2 p hp)⟩
 upd:=fun h a f o ha ho hp i=>⟨B.upd h a f o ha ho hp i.1,fun p hq=>by
  have sb:Heap.SameBut a h (h.update a f):=Heap.SameBut.update ..
  refine(sb.2 p.1 fun z=>?_).trans (i.2 p hq)
  rcases hro p hq with q|q
  ·exact absurd ha (by rw[←z];exact Nat.not_le.mpr q)
  ·have e:=i.2 p hq
   rw[z,ho] at e
   cases e
   rw[hp] at q
   cases q⟩
 hold:=fun h i=>B.hold h i.1
 hro:=fun h i=>i.2
 lim:=fun h i=>B.lim h i.1
theorem Rep.toExt{B:aQ}{ro:ae}(hro:∀p∈ro,p.1<B.top∨eH p.2=false){N m:Nat}{h:Heap}{tab:ae}(R:Rep B N h tab m)(e:∀p∈ro,h.get? p.1=some p.2):Rep (B.ext ro hro) N h tab m:=
 ⟨⟨R.inv,e⟩,R.size,R.top,R.cells,R.nd⟩
theorem Rep.ofExt{B:aQ}{ro:ae}{hro:∀p∈ro,p.1<B.top∨eH p.2=false}{N m:Nat}{h:Heap}{tab:ae}(R:Rep (B.ext ro hro) N h tab m):Rep B N h tab m:=
 ⟨R.inv.1,R.size,R.top,R.cells,R.nd⟩
end Mine
namespace Mine
open PySem PySem.W PySem.W.X PyProof.Rows PySem.Calls
section
variable {B:aQ} {A:Around} {R:Result→Shared→Prop} {h:Heap} {gl:Array GenState} {d:Drawn} {t:Nat} {os:OsState} {u v:Tok} {N m:Nat} {tab aR:ae}
theorem gm{T:String}{name:Str}{id:String}{b:Builtin}{fj:Value}{rest:List Value}{S:PySem.Spec}(jA:Slot T name id)(hT:(⟨h,gl,d,t,os⟩:Shared).TypeIs fj T)(l5:entryFor table id=some b)
 (args:argsOk id ⟨fj::rest,[]⟩) (g:Meets (b ⟨fj::rest,[]⟩) S) (K:S A R ⟨h,gl,d,t,os⟩):codeAny (MB B) A (.call (.builtin id) ⟨fj::rest,[]⟩) R ⟨h,gl,d,t,os⟩:=
 codeAny_call_builtin jA.plain l5 (jA.check _ _ _ _ _ _ _ _ hT args (g B.prog B.w A R _ K))
noncomputable abbrev an(items:Array Value)(n:Nat):Obj:=⟨.type "list",none,.seq items n,#[]⟩
variable {l:Addr} {items:Array Value} {n i:Nat} {c:Int} {x:Value}
theorem fq(f:Array Value→Array Value):Obj.mapSeq f (l,an items n).snd=an (f items) (if((f items).size==items.size)=true then n else n+1):=rfl
theorem bn(Rp:Rep B N h tab 0)(i:Nat)(hx:nth tab i=some (l,an items n))(hz:items.size≤2^24)(ht:bm tab i (l,an (items.push x) (n+1))=aR)
 (K:∀h',Rep B N h' aR 0→R (.ok (.ret .none)) ⟨h',gl,d,t,os⟩):codeAny (MB B) A (.call (.builtin "list.append") ⟨[.ref l,x],[]⟩) R ⟨h,gl,d,t,os⟩:=by
 subst ht
 have hl:h.get? l=some (an items n):=Rp.at hx
 refine gm F.slot_list_append ⟨_,hl,rfl⟩ F.entry_list_append (F.args_list_append_2 _ _) (AutoListH.list_append_list_val_0 l items n x hz) ⟨hl,?_⟩
 have q:=Rp.upd (f:=Obj.mapSeq fun y=>y.push x) hx rfl (by rw[fq];rfl)
 rw[fq,if_neg (by rw[Array.size_push];simp)] at q
 exact K _ q
theorem j3(Rp:Rep B N h tab 0)(i:Nat)(hx:nth tab i=some (l,an items n))(hz:items.size≤2^24)(ht:bm tab i (l,an items.reverse n)=aR)
 (K:∀h',Rep B N h' aR 0→R (.ok (.ret .none)) ⟨h',gl,d,t,os⟩):codeAny (MB B) A (.call (.builtin "list.reverse") ⟨[.ref l],[]⟩) R ⟨h,gl,d,t,os⟩:=by
 subst ht
 have hl:h.get? l=some (an items n):=Rp.at hx
 refine gm F.slot_list_reverse ⟨_,hl,rfl⟩ F.entry_list_reverse (F.args_list_reverse_1 _) (AutoListH.list_reverse_list_0 l items n hz) ⟨hl,?_⟩
 have q:=Rp.upd (f:=Obj.mapSeq fun y=>y.reverse) hx rfl (by rw[fq];rfl)
 rw[fq,if_pos (by rw[Array.size_reverse];simp)] at q
 exact K _ q
theorem rL(x:Value)(k:Nat):List.foldl (fun x1 x2=>x1++x2) #[] (List.replicate k #[x])=Array.replicate k x:=by
 have key:∀(k:Nat) (cD:Array Value),List.foldl (fun x1 x2=>x1++x2) cD (List.replicate k #[x])=cD++Array.replicate k x:=by
  intro k
  induction k with
  |zero=>intro cD;simp
  |succ k ih=>intro cD;rw[List.replicate_succ,List.foldl_cons,ih,Array.append_assoc,Array.replicate_succ',←Array.singleton_eq_toArray_singleton]<;>simp
 rw[key];simp
theorem xT(Rp:Rep B N h tab 0)(i:Nat)(hx:nth tab i=some (l,an #[x] n))(h0:0≤c)(h1:c<2^24)
 (K:∀h' N' a,Rep B N' h' ((a,an (Array.replicate c.toNat x) 0)::tab) 0→R (.ok (.ret (.ref a))) ⟨h',gl,d,t,os⟩):codeAny (MB B) A (.call (.builtin "list.__mul__") ⟨[.ref l,.int c u],[]⟩) R ⟨h,gl,d,t,os⟩:=by
 have hl:h.get? l=some (an #[x] n):=Rp.at hx
 have hs:=Rp.size
 have h2:(#[x]:Array Value).size*c.toNat≤2^24:=by show 1*c.toNat≤_;omega
 refine gm F.slot_list_mul ⟨_,hl,rfl⟩ F.entry_list_mul (F.args_list_mul_2 _ _) (AutoListH.list___mul___list_int_3 l #[x] n c u (by rw[show Builtin.List.listFitsIndex c=true from fitsIndex_of h0 (by omega)];decide) (by omega) (by unfold Builtin.List.listTooLong sizeLine;simpa using(show c.toNat≤2^24 by omega))) ⟨hl,?_⟩
 have q:=(Rp.push (o:=an (Array.replicate c.toNat x) 0) rfl).flat
 refine K _ (N+(0+1)) _ ?_
 dsimp only
 rw[hs]
 have e:List.foldl (fun x1 x2=>x1++x2) #[] (List.replicate (if(#[x]:Array Value).isEmpty=true then 0 else c.toNat) #[x])=Array.replicate c.toNat x:=rL x _
 rw[e]
 exact q
theorem g6(Rp:Rep B N h tab 0)(i:Nat)(hx:nth tab i=some (l,an items n))(h0:0≤c)(h1:c<2^63)(e:items[c.toNat]? =some x)
 (K:R (.ok (.ret x)) ⟨h,gl,d,t,os⟩):codeAny (MB B) A (.call (.builtin "list.__getitem__") ⟨[.ref l,.int c u],[]⟩) R ⟨h,gl,d,t,os⟩:=by
 have hl:h.get? l=some (an items n):=Rp.at hx
 refine codeAny_call_builtin F.slot_list_getitem.plain F.entry_list_getitem (F.slot_list_getitem.check _ _ _ _ _ _ _ _ ⟨_,hl,rfl⟩ (F.args_list_getitem_2 _ _) ?_)
 show wpAny _ _ (Builtin.List.listSubscript? (.int c u) >>= _) _ _ _
 refine wpAny_bind (wpAny_listSubscript_int (fitsIndex_of h0 h1) ?_)
 clear h1
 obtain⟨j,rfl⟩:=Int.eq_ofNat_of_zero_le h0
 have B3:items[j]? =some x:=e
 show wpAny _ _ ((seqItemAt l j >>= fun r=>pure (r.map (j,·))) >>= _) _ _ _
 refine wpAny_bind (wpAny_bind (wpAny_seqItemAt hl rfl (wpAny_pure ?_)))
 rw[B3]
 first
  |exact wpAny_bind (wpAny_pure (wpAny_pure K))
  |exact wpAny_pure K
theorem ja(Rp:Rep B N h tab 0)(i:Nat)(hx:nth tab i=some (l,an items n))(h0:0≤c)(h1:c<2^63)(h2:c<items.size)(ht:bm tab i (l,an (items.setIfInBounds c.toNat x) n)=aR)
 (K:∀h',Rep B N h' aR 0→R (.ok (.ret .none)) ⟨h',gl,d,t,os⟩):codeAny (MB B) A (.call (.builtin "list.__setitem__") ⟨[.ref l,.int c u,x],[]⟩) R ⟨h,gl,d,t,os⟩:=by
 subst ht
 have hl:h.get? l=some (an items n):=Rp.at hx
 refine codeAny_call_builtin F.slot_list_setitem.plain F.entry_list_setitem (F.slot_list_setitem.check _ _ _ _ _ _ _ _ ⟨_,hl,rfl⟩ (F.args_list_setitem_3 _ _ _) ?_)
 show wpAny _ _ (Builtin.List.listSubscript? (.int c u) >>= _) _ _ _
 refine wpAny_bind (wpAny_listSubscript_int (fitsIndex_of h0 h1) ?_)
 clear h1
 obtain⟨j,rfl⟩:=Int.eq_ofNat_of_zero_le h0
 have hj:j<items.size:=by exact tI h2
 have B3:items[j]? =some items[j]:=Array.getElem?_eq_getElem hj
 show wpAny _ _ ((seqItemAt l j >>= fun r=>pure (r.map (j,·))) >>= _) _ _ _
 refine wpAny_bind (wpAny_bind (wpAny_seqItemAt hl rfl (wpAny_pure ?_)))
 rw[B3]
 show wpAny _ _ (setSeqItemAt l j x >>= _) _ _ _
 have q:=Rp.upd (f:=Obj.mapSeq (·.setIfInBounds j x)) hx rfl (by rw[fq];rfl)
 rw[fq,if_pos (by rw[Array.size_setIfInBounds];simp)] at q
 have q:=K _ q
 refine wpAny_bind (wpAny_setSeqItemAt hl rfl ?_)
 first
  |exact wpAny_bind (wpAny_pure (wpAny_pure q))
  |exact wpAny_pure q
end
section
variable {B:aQ} {A:Around} {R:Result→Shared→Prop} {h:Heap} {gl:Array GenState} {d:Drawn} {t:Nat} {os:OsState} {N m:Nat} {tab:ae} {l:Addr} {items:Array Value} {n k:Nat}
theorem mT(Rp:Rep B N h tab 0)(i:Nat)(hx:nth tab i=some (l,an items n))(e:items.size=k)(hk:k<2^63)
 (K:R (.ok (.ret (.int k (t+1)))) ⟨h,gl,d,t+2,os⟩):codeAny (MB B) A (.builtin "len" ⟨[.ref l],[]⟩) R ⟨h,gl,d,t,os⟩:=by
 subst e
 have hl:h.get? l=some (an items n):=Rp.at hx
 refine codeAny_builtin entry_len ?_
 rw[Around.under_plainId plain_len _]
 refine wpAny_mono (wpAny_len_body_list (Q:=fun r s'=>R (.ok (.ret r)) s') ⟨_,hl,rfl,n,rfl⟩ (by omega) K) (fun fin s' h'=>by obtain⟨r,rfl,hq⟩:=h';exact hq) fun _ _ e=>e
theorem pP(hh:A.handled=none)(Rp:Rep B N h tab 0)(i:Nat)(hx:nth tab i=some (l,an items n))(e:items.size=k)(hk:k<2^63)
 (K:∀h' N' t' u,Rep B N' h' tab 0→R (.ok (.ret (.int k u))) ⟨h',gl,d,t',os⟩):codeAny (MB B) A (.call (.builtin "len") ⟨[.ref l],[]⟩) R ⟨h,gl,d,t,os⟩:=by
 refine af ?_
 refine aE hh Rp 11 [] [] (Fin.again (.builtin "len" ⟨[.ref l],[]⟩)) (tab) 0 0 (by rfl') fun h1 N1 t1 Rp=>?_
 refine⟨Code.quiet_builtin _ (by decide+kernel),?_⟩
 exact mT Rp i hx e hk (K _ _ _ _ Rp)
end
noncomputable abbrev hI(l:Addr)(j:Int):Obj:=⟨.type "list_reverseiterator",none,.fields #[.ref l,.int j 0],#[]⟩
section
variable {B:aQ} {A:Around} {R:Result→Shared→Prop} {h:Heap} {gl:Array GenState} {d:Drawn} {t:Nat} {os:OsState} {N m:Nat} {tab aR:ae} {l it:Addr} {items:Array Value} {n j:Nat} {x:Value}
theorem pA(Rp:Rep B N h tab 0)(i k:Nat)(hi:nth tab i=some (it,hI l (j:Int)))(hk:nth tab k=some (l,an items n))(e:items[j]? =some x)(ht:bm tab i (it,hI l ((j:Int)-1))=aR)
 (K:∀h',Rep B N h' aR 0→R (.ok (.ret x)) ⟨h',gl,d,t,os⟩):codeAny (MB B) A (.call (.builtin "list_reverseiterator.__next__") ⟨[.ref it],[]⟩) R ⟨h,gl,d,t,os⟩:=by
 subst ht
 have hl:h.get? l=some (an items n):=Rp.at hk
 have hit:h.get? it=some (hI l (j:Int)):=Rp.at hi
 refine codeAny_call_builtin F.slot_lri_next.plain F.entry_lri_next (F.slot_lri_next.check _ _ _ _ _ _ _ _ ⟨_,hit,rfl⟩ (F.args_lri_next_1 _) ?_)
 unfold Builtin.«list_reverseiterator.__next__»
 refine wpAny_bind (wpAny_of_eq (a:=(Value.ref it,[])) rfl ?_)
 try dsimp only
 refine wpAny_bind (wpAny_field hit rfl (x:=rawInt (j:Int)) rfl ?_)
 show wpAny _ _ (if(j:Int)<0 then _ else _) _ _ _
 rw[if_neg (by exact zB)]
 show wpAny _ _ (field (.ref it) 0 >>= _) _ _ _
 refine wpAny_bind (wpAny_field hit rfl (x:=.ref l) rfl ?_)
 show wpAny _ _ (seqItems? (.ref l) >>= _) _ _ _
 refine wpAny_bind (wpAny_seqItems hl rfl ?_)
 simp only[Int.toNat_natCast,e]
 have q:=K _ (Rp.upd (f:=Obj.mapFields fun vs=>vs.setIfInBounds 1 (rawInt ((j:Int)-1))) hi rfl rfl)
 refine wpAny_bind (wpAny_setField hit rfl (by simp) ?_)
 first
  |exact wpAny_pure q
  |exact wpAny_bind (wpAny_pure (wpAny_pure q))
end
noncomputable def me:Stmt→Expr
 | .Assign _ v _=>v
 | .Return (some v) _=>v
 |_=>default
noncomputable def iP:Expr→Bool
 | .ListComp _ (g::_) _ _=>g.is_async==0
 |_=>false
theorem i8{e:Expr}(h:iP e=true):∃Ae bM tW BR rest scope eG,e=.ListComp Ae (⟨bM,tW,BR,0⟩::rest) scope eG:=by
 unfold iP at h
 split at h
 ·rename_i Ae g rest scope eG
  obtain⟨t,i,f,a⟩:=g
  have:a=0:=by simpa using h
  subst this
  exact⟨_,_,_,_,_,_,_,rfl⟩
 ·cases h
noncomputable def pk:Expr→Scope
 | .ListComp _ _ s _=>s
 |_=>default
noncomputable def fc(o:Env)(e:Expr)(L:Addr)(cells:List (Str×Addr)):Env:={scope:={pk e with names:=(pk e).names.map fun(n,k)=>if k==.free&&o.scope.kind==.function&&o.kindOf n==some .cell then(n,.cell) else(n,k)},locals:=L,globals:=o.globals,cells:=cells,qual:=o.qual,func:=none,code:=o.code,frame:=o.frame,builtins:=o.builtins}
noncomputable abbrev aD(l:Addr)(j:Int):Obj:=⟨.type "list_iterator",none,.fields #[.ref l,.int j 0],#[]⟩
noncomputable abbrev ki(l:Addr)(j:Int):Obj:=⟨.type "tuple_iterator",none,.fields #[.ref l,.int j 0],#[]⟩
section
variable {B:aQ} {A:Around} {R:Result→Shared→Prop} {h:Heap} {gl:Array GenState} {d:Drawn} {t:Nat} {os:OsState} {N m:Nat} {tab:ae} {l it:Addr} {e:Expr} {cD:Value} {bk:Env}
theorem bP(he:iP e=true)(Rp:Rep B N h tab 0)(i:Nat)(hx:nth tab i=some (it,aD l ((0:Nat):Int)))
 (K:codeAny (MB B) A (.compLoop e 0 (.ref it) cD bk) R ⟨h,gl,d,t,os⟩):codeAny (MB B) A (.compStart e 0 (.ref it) cD bk) R ⟨h,gl,d,t,os⟩:=by
 obtain⟨Ae,bM,tW,BR,rest,scope,eG,rfl⟩:=i8 he
 exact codeAny_compStart_list K (wpAny_pyIter_listiter ⟨_,Rp.at hx,rfl,rfl⟩ K)
theorem eU(he:iP e=true)(Rp:Rep B N h tab 0)(i:Nat)(hx:nth tab i=some (it,ki l ((0:Nat):Int)))
 (K:codeAny (MB B) A (.compLoop e 0 (.ref it) cD bk) R ⟨h,gl,d,t,os⟩):codeAny (MB B) A (.compStart e 0 (.ref it) cD bk) R ⟨h,gl,d,t,os⟩:=by
 obtain⟨Ae,bM,tW,BR,rest,scope,eG,rfl⟩:=i8 he
 exact codeAny_compStart_list K (wpAny_pyIter_tupleiter ⟨_,Rp.at hx,rfl,rfl⟩ K)
variable {items:Array Value} {n j:Nat} {x:Value} {aR:ae}
theorem b6(Rp:Rep B N h tab 0)(i k:Nat)(hi:nth tab i=some (it,aD l (j:Int)))(hk:nth tab k=some (l,an items n))(e:items[j]? =some x)(ht:bm tab i (it,aD l ((j+1:Nat):Int))=aR)
 (K:∀h',Rep B N h' aR 0→R (.ok (.ret x)) ⟨h',gl,d,t,os⟩):codeAny (MB B) A (.call (.builtin "list_iterator.__next__") ⟨[.ref it],[]⟩) R ⟨h,gl,d,t,os⟩:=by
 subst ht
 have hl:h.get? l=some (an items n):=Rp.at hk
 have hit:h.get? it=some (aD l (j:Int)):=Rp.at hi
 refine codeAny_call_builtin slot_listiter_next.plain entry_listiter_next (slot_listiter_next.check _ _ _ _ _ _ _ _ ⟨_,hit,rfl⟩ (args_listiter_next _) ?_)
 unfold Builtin.«list_iterator.__next__»
 refine wpAny_bind (wpAny_of_eq (a:=(Value.ref it,[])) rfl ?_)
 try dsimp only
 refine wpAny_bind (wpAny_field hit rfl (x:=.ref l) rfl ?_)
 rw[if_neg (show¬((Value.ref l==Value.none)=true) from Bool.false_ne_true)]
 refine wpAny_bind (wpAny_field hit rfl (x:=rawInt (j:Int)) rfl ?_)
 show wpAny _ _ (seqItems? (.ref l) >>= _) _ _ _
 refine wpAny_bind (wpAny_seqItems hl rfl ?_)
 simp only[Int.toNat_natCast,e]
 have q:=K _ (Rp.upd (f:=Obj.mapFields fun vs=>vs.setIfInBounds 1 (rawInt ((j:Int)+1))) hi rfl rfl)
 refine wpAny_bind (wpAny_setField hit rfl (by simp) ?_)
 first
  |exact wpAny_pure q
  |exact wpAny_bind (wpAny_pure (wpAny_pure q))
end
noncomputable abbrev iB(l:List Nat)(u:Nat)(j:Int):Obj:=⟨.type "str_ascii_iterator",none,.fields #[.str (S l) u,.int j 0],#[]⟩
noncomputable abbrev bf(a it:Value)(i:Int)(old:Value):Obj:=⟨.type "enumerate",none,.fields #[a,.bool false,it,.int i 0,.none,old],#[]⟩
noncomputable def s5(l:List Nat):Prop:=∀c∈l,c<128
section
variable {B:aQ} {A:Around} {R:Result→Shared→Prop} {h:Heap} {gl:Array GenState} {d:Drawn} {t:Nat} {os:OsState} {N m u j c:Nat} {tab aR:ae} {it:Addr} {l:List Nat}
theorem s5.all(h:s5 l):(S l).cps.all (·<128)=true:=by
 show Array.all ⟨l⟩ _=true
 simpa[S,s5] using h
theorem rl(Rp:Rep B N h tab 0)(i:Nat)(hi:nth tab i=some (it,iB l u (j:Int)))(e:l[j]? =some c)(ht:bm tab i (it,iB l u ((j+1:Nat):Int))=aR)
 (K:∀h',Rep B N h' aR 0→R (.ok (.ret (.str (S [c]) t))) ⟨h',gl,d,t+1,os⟩):codeAny (MB B) A (.call (.builtin "str_ascii_iterator.__next__") ⟨[.ref it],[]⟩) R ⟨h,gl,d,t,os⟩:=by
 subst ht
 have hit:h.get? it=some (iB l u (j:Int)):=Rp.at hi
 refine codeAny_call_builtin F.slot_str_ascii_iterator_next.plain F.entry_str_ascii_iterator_next (F.slot_str_ascii_iterator_next.check _ _ _ _ _ _ _ _ ⟨_,hit,rfl⟩ (F.args_str_ascii_iterator_next_1 _) ?_)
 show wpAny _ _ (field (.ref it) 0 >>= _) _ _ _
 refine wpAny_bind (wpAny_field hit rfl (x:=.str (S l) u) rfl ?_)
 show wpAny _ _ (field (.ref it) 1 >>= _) _ _ _
 refine wpAny_bind (wpAny_field hit rfl (x:=.int j 0) rfl ?_)
 have hx:(S l).cps[j]? =some c:=by show(Array.mk l)[j]? =_;simpa using e
 simp only[Int.toNat_natCast,hx]
 have q:=K _ (Rp.upd (f:=Obj.mapFields fun vs=>vs.setIfInBounds 1 (rawInt ((j:Int)+1))) hi rfl rfl)
 exact wpAny_bind (wpAny_setField hit rfl (by simp) (wpAny_bind (wpAny_mkStr (wpAny_pure q))))
theorem sj(hh:A.handled=none)(hl:s5 l)(Rp:Rep B N h tab 0)
 (K:∀h' N' t' e it,Rep B N' h' ((e,bf .none (.ref it) 0 .none)::(it,iB l u 0)::tab) 0→R (.ok (.ret (.ref e))) ⟨h',gl,d,t',os⟩):codeAny (MB B) A (.call (.builtin "enumerate.__new__") ⟨[.type "enumerate",.str (S l) u],[]⟩) R ⟨h,gl,d,t,os⟩:=by
 refine af ?_
 refine aE hh Rp 20 [] [] (Fin.again (.builtin "enumerate.__new__" ⟨[.type "enumerate",.str (S l) u],[]⟩)) (tab) 0 0 (by rfl') fun h1 N1 t1 Rp=>?_
 refine⟨Code.quiet_builtin _ (by decide+kernel),codeAny_builtin F.entry_enumerate_new ?_⟩
 rw[Around.under_plainId (by decide+kernel)]
 refine meets_enumerate_newS (S l) u B.prog B.w A R _ ?_
 have hs:=Rp.size
 have q:=((Rp.push (o:=iB l u 0) rfl).push (o:=bf .none (.ref N1) 0 .none) rfl).flat
 have e1:strIterType (S l)="str_ascii_iterator":=by unfold strIterType;rw[hl.all];rfl
 rw[e1]
 dsimp only
 rw[Heap.size_push,hs]
 exact K _ _ _ _ _ q
noncomputable abbrev gJ(a:Addr):Obj:=⟨.type "StopIteration",none,.fields #[.ref a,.none,.none,.none,.bool false,.none],#[]⟩
theorem tB(hh:A.handled=none)(Rp:Rep B N h tab 0)(i:Nat)(hi:nth tab i=some (it,iB l u (j:Int)))(e:l[j]? =none)(ht:bm tab i (it,⟨.type "str_ascii_iterator",none,.fields #[.none,.int j 0],#[]⟩)=aR)
 (K:∀h' N' a e,Rep B N' h' ((e,gJ a)::(a,⟨.type "tuple",none,.seq #[] 0,#[]⟩)::aR) 0→R (.error (.ref e)) ⟨h',gl,d,t,os⟩):codeAny (MB B) A (.call (.builtin "str_ascii_iterator.__next__") ⟨[.ref it],[]⟩) R ⟨h,gl,d,t,os⟩:=by
 subst ht
 have hit:h.get? it=some (iB l u (j:Int)):=Rp.at hi
 refine codeAny_call_builtin F.slot_str_ascii_iterator_next.plain F.entry_str_ascii_iterator_next (F.slot_str_ascii_iterator_next.check _ _ _ _ _ _ _ _ ⟨_,hit,rfl⟩ (F.args_str_ascii_iterator_next_1 _) ?_)
 show wpAny _ _ (field (.ref it) 0 >>= _) _ _ _
 refine wpAny_bind (wpAny_field hit rfl (x:=.str (S l) u) rfl ?_)
 show wpAny _ _ (field (.ref it) 1 >>= _) _ _ _
 refine wpAny_bind (wpAny_field hit rfl (x:=.int j 0) rfl ?_)
 have hx:(S l).cps[j]? =none:=by show(Array.mk l)[j]? =_;simpa using e
 simp only[Int.toNat_natCast,hx]
 have q:=Rp.upd (f:=Obj.mapFields fun vs=>vs.setIfInBounds 0 .none) hi rfl rfl
 have hs:=q.size
 have q:=((q.push (o:=⟨.type "tuple",none,.seq #[] 0,#[]⟩) rfl).push (o:=gJ N) rfl).flat
 refine wpAny_bind (wpAny_rule (wpAny_bind (wpAny_setField hit rfl (by simp) ?_)))
 refine wpAny_bind (wpAny_letGo ?_)
 show wpAny _ _ (newExc (.type "StopIteration") [] >>= _) _ _ _
 refine wpAny_bind ?_
 simp only[newExc,newTuple]
 refine wpAny_bind (wpAny_newObj_type ?_ (by size_fits))
 refine wpAny_bind (m:=firstArgMember _ _) (wpAny_of_eq (a:=Value.none) (by first|rfl|(simp only[firstArgMember];rfl)) ?_)
 refine wpAny_newObj_type ?_ (by size_fits)
 simp only[raiseNew]
 refine wpAny_bind (wpAny_handled ?_)
 rw[hh]
 refine wpAny_bind (wpAny_pure (wpAny_throw ?_))
 have q:=K _ _ _ _ q
 rw[Heap.size_push]
 rw[show(h.update it (Obj.mapFields fun x=>x.setIfInBounds 0 Value.none)).objs.size=N from hs]
 exact q
theorem kw(a b:Str)(t u:Tok):Gives (Builtin.«str.__eq__» ⟨[.str a t,.str b u],[]⟩) (.val (.bool (a.cps.toList==b.cps.toList))):=
 .of_wp fun M A E s Q h=>by obtain⟨hp,g,d,tk,os⟩:=s;wp_walk;exact⟨_,rfl,h⟩
theorem s_eq{r:Bool}{l':List Nat}{u v:Tok}(e:(l==l')=r)(K:R (.ok (.ret (.bool r))) ⟨h,gl,d,t,os⟩):codeAny (MB B) A (.call (.builtin "str.__eq__") ⟨[.str (S l) u,.str (S l') v],[]⟩) R ⟨h,gl,d,t,os⟩:=by
 subst e
 exact gd F.slot_str_eq rfl F.entry_str_eq (F.args_str_eq_2 _ _) (kw _ _ _ _) K
theorem dc{r:Bool}{l':List Nat}{u v:Tok}(e:(l==l')=r):(⟨(.call (.builtin "str.__eq__") ⟨[.str (S l) u,.str (S l') v],[]⟩),fun t=>((.bool r)),0⟩:dn).Ok B.prog B.w:=fun _ _ _ _ _ _ _ K=>s_eq e K
end
end Mine
namespace Mine
open PySem
noncomputable def z6:Str:=⟨#[76]⟩
noncomputable def z5:Str:=⟨#[82]⟩
noncomputable def ef:Str:=⟨#[95,104,101,97,100,101,114,115]⟩
noncomputable def rH:Str:=⟨#[95,110,97,109,101]⟩
noncomputable def oa:Str:=⟨#[95,112,97,114,97,109,115]⟩
noncomputable def pJ:Str:=⟨#[95,118,97,108,117,101]⟩
noncomputable def eI:Str:=⟨#[97]⟩
noncomputable def ee:Str:=⟨#[97,95,100,105,103,105,116]⟩
noncomputable def bC:Str:=⟨#[97,95,100,105,103,105,116,115]⟩
noncomputable def ir:Str:=⟨#[97,98]⟩
noncomputable def ar:Str:=⟨#[97,100,100,114]⟩
noncomputable def fT:Str:=⟨#[98]⟩
noncomputable def pI:Str:=⟨#[98,97,115,101]⟩
noncomputable def ch:Str:=⟨#[98,108,117,101]⟩
noncomputable def kG:Str:=⟨#[99,101,108,108]⟩
noncomputable def aJ:Str:=⟨#[99,101,108,108,115]⟩
noncomputable def aW:Str:=⟨#[99,104]⟩
noncomputable def bl:Str:=⟨#[99,111,117,110,116]⟩
noncomputable def en:Str:=⟨#[100,105,103,105,116,115]⟩
noncomputable def bF:Str:=⟨#[100,114,97,119,110]⟩
noncomputable def sR:Str:=⟨#[101,110,100]⟩
noncomputable def bi:Str:=⟨#[101,110,100,115]⟩
noncomputable def b8:Str:=⟨#[101,115,99,97,112,101]⟩
noncomputable def HB:Str:=⟨#[102]⟩
noncomputable def mQ:Str:=⟨#[103]⟩
noncomputable def bJ:Str:=⟨#[103,114,101,101,110]⟩
noncomputable def HA:Str:=⟨#[104]⟩
noncomputable def pH:Str:=⟨#[104,97,108,102]⟩
noncomputable def n9:Str:=⟨#[104,101,97,100,101,114,115]⟩
noncomputable def ds:Str:=⟨#[104,101,114,101]⟩
noncomputable def az:Str:=⟨#[104,105,100,100,101,110]⟩
noncomputable def d6:Str:=⟨#[104,117,101]⟩
noncomputable def dF:Str:=⟨#[104,117,101,115]⟩
noncomputable def Hz:Str:=⟨#[105]⟩
noncomputable def cA:Str:=⟨#[105,110,110,101,114]⟩
noncomputable def n8:Str:=⟨#[107,118]⟩
noncomputable def qX:Str:=⟨#[108]⟩
noncomputable def aw:Str:=⟨#[108,101,116,116,101,114]⟩
noncomputable def br:Str:=⟨#[108,101,116,116,101,114,115]⟩
noncomputable def eB:Str:=⟨#[108,105,103,104,116]⟩
noncomputable def rG:Str:=⟨#[108,111,119,101,114]⟩
noncomputable def cg:Str:=⟨#[109,97,116,101]⟩
noncomputable def dD:Str:=⟨#[109,97,120,99]⟩
noncomputable def sQ:Str:=⟨#[109,105,100]⟩
noncomputable def e9:Str:=⟨#[109,105,110,99]⟩
noncomputable def ib:Str:=⟨#[110]⟩
noncomputable def bK:Str:=⟨#[110,97,109,101]⟩
noncomputable def aM:Str:=⟨#[110,117,109,98,101,114,115]⟩
noncomputable def dm:Str:=⟨#[111,102,116,101,110]⟩
noncomputable def xS:Str:=⟨#[111,110]⟩
noncomputable def aL:Str:=⟨#[111,112,101,110,95,112,111,115]⟩
noncomputable def cv:Str:=⟨#[111,112,101,110,115]⟩
noncomputable def Hy:Str:=⟨#[112]⟩
noncomputable def rF:Str:=⟨#[112,97,114,116,115]⟩
noncomputable def cr:Str:=⟨#[112,105,101,99,101,115]⟩
noncomputable def aA:Str:=⟨#[112,108,97,99,101]⟩
noncomputable def aH:Str:=⟨#[112,111,115]⟩
noncomputable def BF:Str:=⟨#[113]⟩
noncomputable def ed:Str:=⟨#[113,95,100,105,103,105,116]⟩
noncomputable def cT:Str:=⟨#[113,95,100,105,103,105,116,115]⟩
noncomputable def iS:Str:=⟨#[114]⟩
noncomputable def dx:Str:=⟨#[114,97,110,103,101,99]⟩
noncomputable def c9:Str:=⟨#[114,101,100]⟩
noncomputable def nK:Str:=⟨#[114,101,103,101,120]⟩
noncomputable def bH:Str:=⟨#[114,101,115,116]⟩
noncomputable def ba:Str:=⟨#[114,101,115,117,108,116]⟩
noncomputable def cP:Str:=⟨#[114,117,110]⟩
noncomputable def mA:Str:=⟨#[115]⟩
noncomputable def aq:Str:=⟨#[115,99,114,105,112,116]⟩
noncomputable def eZ:Str:=⟨#[115,101,108,102]⟩
noncomputable def cu:Str:=⟨#[115,104,97,114,101]⟩
noncomputable def dw:Str:=⟨#[115,104,97,114,101,115]⟩
noncomputable def nJ:Str:=⟨#[115,104,105,102,116]⟩
noncomputable def bz:Str:=⟨#[115,105,100,101]⟩
noncomputable def bw:Str:=⟨#[115,105,103,110]⟩
noncomputable def bA:Str:=⟨#[115,116,97,114,116]⟩
noncomputable def eY:Str:=⟨#[115,117,109,99]⟩
noncomputable def Hx:Str:=⟨#[116]⟩
noncomputable def cS:Str:=⟨#[116,97,98,108,101]⟩
noncomputable def bv:Str:=⟨#[116,111,108,100]⟩
noncomputable def dr:Str:=⟨#[116,117,114,110]⟩
noncomputable def rE:Str:=⟨#[117,112,112,101,114]⟩
noncomputable def Hw:Str:=⟨#[118]⟩
noncomputable def dT:Str:=⟨#[118,97,108,117,101]⟩
noncomputable def bu:Str:=⟨#[119,111,114,100]⟩
noncomputable def F1:Str:=⟨#[120]⟩
end Mine
namespace Mine
open PySem PySem.W PySem.W.X PyProof.Rows PySem.Spec PySem.Calls
theorem x7{B:aQ}{A:Around}{R:Result→Shared→Prop}{h:Heap}{gl:Array GenState}{d:Drawn}{t:Nat}{os:OsState}{u v:Tok}{c i j:Int}(hk:i=2∨i=10)(h0:0<j)(h1:j≤64)(e:i^j.toNat=c)
 (K:R (.ok (.ret (.int c t))) ⟨h,gl,d,t+1,os⟩):codeAny (MB B) A (.call (.builtin "int.__pow__") ⟨[.int i u,.int j v],[]⟩) R ⟨h,gl,d,t,os⟩:=by
 subst e
 refine gd F.slot_int_pow rfl F.entry_int_pow (F.args_int_pow_2 _ _) (AutoIntG2.int___pow___int_int_4 _ _ _ _ (by omega) (by simp;exact vO h0) (by rcases hk with rfl|rfl<;>decide) (by rcases hk with rfl|rfl<;>decide) ?_) K
 have hb:Builtin.Int.intBits i≤4:=by rcases hk with rfl|rfl<;>decide+kernel
 have:¬(((Builtin.Int.intBits i:Nat):Int)*j>(bitsLine:Int)):=by
  have h2:((Builtin.Int.intBits i:Nat):Int)*j≤4*j:=Int.mul_le_mul_of_nonneg_right (by omega) (by exact qS h0)
  have h3:(bitsLine:Int)=2^27:=by decide+kernel
  omega
 unfold Builtin.Int.intTooBig
 simpa using this
theorem aS{B:aQ}{u v:Tok}{c i j:Int}(hk:i=2∨i=10)(h0:0<j)(h1:j≤64)(e:i^j.toNat=c):(⟨(.call (.builtin "int.__pow__") ⟨[.int i u,.int j v],[]⟩),fun t=>((.int c t)),1⟩:dn).Ok B.prog B.w:=fun _ _ _ _ _ _ _ K=>x7 hk h0 h1 e K
section
variable {B:aQ} {A:Around} {R:Result→Shared→Prop} {h:Heap} {gl:Array GenState} {d:Drawn} {t:Nat} {os:OsState} {N m u i c:Nat} {tab:ae} {e it:Addr} {l:List Nat}
theorem hB(hh:A.handled=none)(old:Value)(Rp:Rep B N h ((e,bf .none (.ref it) (i:Int) old)::(it,iB l u (i:Int))::tab) 0)(hc:l[i]? =some c)
 (K:∀h' N' t' a v w,Rep B N' h' ((a,⟨.type "tuple",none,.seq #[.int (i:Int) v,.str (S [c]) w] 0,#[]⟩)::(e,bf (.int a 0) (.ref it) ((i+1:Nat):Int) (.str (S [c]) w))::(it,iB l u ((i+1:Nat):Int))::tab) 0→R (.ok (.ret (.ref a))) ⟨h',gl,d,t',os⟩):
 codeAny (MB B) A (.call (.builtin "enumerate.__next__") ⟨[.ref e],[]⟩) R ⟨h,gl,d,t,os⟩:=by
 refine af ?_
 refine aE hh Rp 12 [5] [true,true] (Fin.again (.builtin "enumerate.__next__" ⟨[.ref e],[]⟩)) ((e,⟨.type "enumerate",none,.fields #[.none,.bool false,.ref it,.int ((↑i:Int)) 0,.none,old],#[]⟩)::(it,⟨.type "str_ascii_iterator",none,.fields #[.str (S l) u,.int ((↑i:Int)) 0],#[]⟩)::tab) 0 0 (by rfl') fun h1 N1 t1 Rp=>?_
 refine⟨Code.quiet_builtin _ (by decide+kernel),af ?_⟩
 refine seg_call hh Rp 13 [5,6] [true,true] (.call (.builtin "str_ascii_iterator.__next__") ⟨[.ref it],[]⟩) ((e,⟨.type "enumerate",none,.fields #[.none,.bool false,.ref it,.int ((↑i:Int)) 0,.none,old],#[]⟩)::(it,⟨.type "str_ascii_iterator",none,.fields #[.str (S l) u,.int ((↑i:Int)) 0],#[]⟩)::tab) 0 0 (by rfl') fun h2 N2 t2 Rp=>?_
 refine rl Rp 1 rfl hc rfl fun gH Rp=>?_
 dsimp only[bm] at Rp
 refine aE hh Rp 29 [5,5,5,1,5,1,6,6,6,2,6,2,6,2] [true,true,true] (Fin.done (Flow.ret (.ref (N2+0)))) ((N2+0,⟨.type "tuple",none,.seq #[.int ((↑i:Int)) (t2+1+0),.str (S [c]) t2] 0,#[]⟩)::(e,⟨.type "enumerate",none,.fields #[.int ((↑(N2+0):Int)) 0,.bool false,.ref it,.int ((↑i:Int)+1) 0,.none,.str (S [c]) t2],#[]⟩)::(it,⟨.type "str_ascii_iterator",none,.fields #[.str (S l) u,.int ((↑(i+1):Int)) 0],#[]⟩)::tab) 1 1 (by rfl') fun h3 N3 t3 Rp=>?_
 exact K _ _ _ _ _ _ Rp
theorem l6(hh:A.handled=none)(old:Value)(Rp:Rep B N h ((e,bf .none (.ref it) (i:Int) old)::(it,iB l u (i:Int))::tab) 0)(hc:l[i]? =none)
 (K:∀h' N' t' a e,Rep B N' h' ((e,gJ a)::tab) 0→R (.error (.ref e)) ⟨h',gl,d,t',os⟩):
 codeAny (MB B) A (.call (.builtin "enumerate.__next__") ⟨[.ref e],[]⟩) R ⟨h,gl,d,t,os⟩:=by
 refine af ?_
 refine aE hh Rp 12 [5] [true,true] (Fin.again (.builtin "enumerate.__next__" ⟨[.ref e],[]⟩)) ((e,⟨.type "enumerate",none,.fields #[.none,.bool false,.ref it,.int ((↑i:Int)) 0,.none,old],#[]⟩)::(it,⟨.type "str_ascii_iterator",none,.fields #[.str (S l) u,.int ((↑i:Int)) 0],#[]⟩)::tab) 0 0 (by rfl') fun h1 N1 t1 Rp=>?_
 refine⟨Code.quiet_builtin _ (by decide+kernel),af ?_⟩
 refine seg_call hh Rp 13 [5,6] [true,true] (.call (.builtin "str_ascii_iterator.__next__") ⟨[.ref it],[]⟩) ((e,⟨.type "enumerate",none,.fields #[.none,.bool false,.ref it,.int ((↑i:Int)) 0,.none,old],#[]⟩)::(it,⟨.type "str_ascii_iterator",none,.fields #[.str (S l) u,.int ((↑i:Int)) 0],#[]⟩)::tab) 0 0 (by rfl') fun h2 N2 t2 Rp=>?_
 refine tB hh Rp 1 rfl hc rfl fun gH jG yQ l9 Rp=>?_
 dsimp only[bm] at Rp
 refine kB hh Rp 11 [] [true,false,false,false] (.ref l9) ((l9,⟨.type "StopIteration",none,.fields #[.ref yQ,.none,.none,.none,.bool false,.none],#[]⟩)::tab) 0 0 (by rfl') fun h3 N3 t3 Rp=>?_
 exact K _ _ _ _ _ Rp
end
section
variable {V:EV} {B:aQ} {prog:Program} {w:World}
structure qL (V:EV) (B:aQ) (prog:Program) (w:World) (ih:Ih):Prop where
 T:∀(A:Around) (c:Code) (fs:List Frame) (P:End→Shared→Prop) (t:Sem Fin) tab m i ob adv h gl d os (x:oZ Fin),V.Ok B prog w (A.over c fs)→Rep B V.N h tab m→
  ih.T Fin t tab m i ob adv=x→gS x.ob→
  (∀h',Rep B V.N h' x.tab x.m→SegX (model prog w) A c x.t fs ⟨h',gl,d,V.t₀+x.i,os⟩ P)→
  SegX (model prog w) A c t fs ⟨h,gl,d,V.t₀+i,os⟩ P
theorem mL{A:Around}{c:Code}{fs:List Frame}{P:End→Shared→Prop}{s:Shared}{c':Code}{g:Bool}{l:List Value}{k:Result→Sem Fin}
 (h:codeAny (model prog w) (A.over c fs) c' (fun r s'=>SegX (model prog w) A c (k r) fs s' P) s):SegX (model prog w) A c (.call c' none g l k) fs s P:=by
 refine s_cmd prog w A c fs P (m:=(Sem.call c' none g l Sem.pure:Sem Result)) (k:=k) (x_call ?_ (by intro z;cases z))
 rw[PySem.Around.mark_none]
 exact codeAny_mono h fun r s' q=>wpAny_pure q
theorem kA{ih:Ih}(H:lb V B prog w ih)(HX:qL V B prog w ih)(HM:km ih)(A:Around)(c:Code)(fs:List Frame)(P:End→Shared→Prop)(t:Sem Fin)(tab:ae)(m i ob adv h gl d os)(x:oZ Fin)
 (O:V.Ok B prog w (A.over c fs)) (R:Rep B V.N h tab m) (hx:stepT V ih Fin t tab m i ob adv=x) (et:gS x.ob)
 (K:∀h',Rep B V.N h' x.tab x.m→SegX (model prog w) A c x.t fs ⟨h',gl,d,V.t₀+x.i,os⟩ P):
 SegX (model prog w) A c t fs ⟨h,gl,d,V.t₀+i,os⟩ P:=by
 cases t
 case rule tg k=>exact s_skim prog w A c fs P _ (.rule tg k) 1 (HX.T A c fs P _ _ _ _ _ _ _ _ _ _ _ O R hx et K)
 case «at» q k=>exact s_skim prog w A c fs P _ (.at q k) 1 (HX.T A c fs P _ _ _ _ _ _ _ _ _ _ _ O R hx et K)
 case point l k=>exact s_skim prog w A c fs P _ (.point l k) 1 (HX.T A c fs P _ _ _ _ _ _ _ _ _ _ _ O R hx et K)
 case ask k=>
  have z:=HX.T A c fs P _ _ _ _ _ _ _ _ _ _ _ O R hx et K
  have q:k (V.st false)=k (V.st true):=by
   have e:Ob.tree PySem.Fin (k (V.st false))=Ob.tree PySem.Fin (k (V.st true)):=HM.T _ _ _ _ _ _ _ (hx▸et) (_,_) (.head _)
   injection e
  obtain⟨b,hb⟩:=O.st
  have q':k ⟨prog,w.params⟩=k (V.st true):=by
   rw[←hb]
   cases b
   ·exact q
   ·rfl
  refine s_skim prog w A c fs P _ (.ask k) 1 ?_
  show SegX (model prog w) A c (k ⟨prog,w.params⟩) fs _ P
  rw[q']
  exact z
 case fresh k=>exact s_fresh prog w A c fs P _ _ _ _ _ k (HX.T A c fs P _ _ _ _ _ _ _ _ _ _ _ O R hx et K)
 case handled own k=>
  cases own with
  |true=>subst hx;exact K h R
  |false=>
   have z:=HX.T A c fs P _ _ _ _ _ _ _ _ _ _ _ O R hx et K
   rw[O.hd] at z
   exact s_handled prog w A c fs P _ k z
 case alloc o k=>
  unfold stepT at hx
  dsimp only at hx
  split at hx
  ·subst hx;exact K h R
  ·rename_i hf
   refine s_cmd prog w A c fs P (m:=alloc o) (k:=k) (wpAny_alloc ?_)
   show SegX _ _ _ (k h.objs.size) _ _ _
   rw[R.size]
   exact HX.T A c fs P _ _ _ _ _ _ _ _ _ _ _ O (R.push hf) hx et K
 case load a p k=>
  unfold stepT at hx
  dsimp only at hx
  split at hx
  ·subst hx;exact K h R
  ·split at hx
   ·split at hx
    ·rename_i e
     exact s_load prog w A c fs P _ _ _ _ _ a p k _ (R.kt (O.stat▸e)) (HX.T A c fs P _ _ _ _ _ _ _ _ _ _ _ O R hx et K)
    ·subst hx;exact K h R
   ·split at hx
    ·rename_i q e
     have ha:a=q.1:=Ob.addr.inj (HM.T _ _ _ _ _ _ _ (hx▸et) (.addr a,.addr q.1) (.head _))
     exact s_load prog w A c fs P _ _ _ _ _ a p k _ (by rw[ha];exact O.at_place R e) (HX.T A c fs P _ _ _ _ _ _ _ _ _ _ _ O R hx et K)
    ·subst hx;exact K h R
 case loadIfAlive a k=>
  unfold stepT at hx
  dsimp only at hx
  split at hx
  ·subst hx;exact K h R
  ·split at hx
   ·split at hx
    ·rename_i e
     exact s_alive prog w A c fs P _ _ _ _ _ a k _ (R.kt (O.stat▸e)) (HX.T A c fs P _ _ _ _ _ _ _ _ _ _ _ O R hx et K)
    ·subst hx;exact K h R
   ·split at hx
    ·rename_i q e
     have ha:a=q.1:=Ob.addr.inj (HM.T _ _ _ _ _ _ _ (hx▸et) (.addr a,.addr q.1) (.head _))
     exact s_alive prog w A c fs P _ _ _ _ _ a k _ (by rw[ha];exact O.at_place R e) (HX.T A c fs P _ _ _ _ _ _ _ _ _ _ _ O R hx et K)
    ·subst hx;exact K h R
 case update a p f k=>
  unfold stepT at hx
  dsimp only at hx
  split at hx
  ·subst hx;exact K h R
  ·split at hx
   ·subst hx;exact K h R
   ·split at hx
    ·rename_i q e
     split at hx
     ·rename_i hf
      split at hx
      rotate_left
      ·subst hx;exact K h R
      rename_i v4
      have ha:a=q.1:=Ob.addr.inj (HM.T _ _ _ _ _ _ _ (hx▸et) (.addr a,.addr q.1) (.head _))
      subst ha
      exact s_cmd prog w A c fs P (m:=updatePart q.1 p f) (k:=k) (wpAny_updatePart (R.at e) (HX.T A c fs P _ _ _ _ _ _ _ _ _ _ _ O (R.upd e v4 hf) hx et K))
     ·subst hx;exact K h R
    ·subst hx;exact K h R
 case call c' hh g l k=>
  unfold stepT at hx
  dsimp only at hx
  split at hx
  ·subst hx;exact K h R
  ·split at hx
   ·subst hx;exact K h R
   ·split at hx
    ·split at hx
     ·rename_i r aR m' i' pF qI q
      refine mL ?_
      exact H.C (A.over c fs) _ c' _ _ _ _ _ _ _ _ _ r _ O R q rfl (HM.T _ _ _ _ _ _ _ (hx▸et)) fun h' R'=>HX.T A c fs P _ _ _ _ _ _ _ _ _ _ _ O R' hx et K
     ·subst hx;exact K h R
    ·split at hx
     ·rename_i a ea
      have hc:c'=a.code:=Ob.code.inj (HM.T _ _ _ _ _ _ _ (hx▸et) (.code c',.code a.code) (.head _))
      subst hc
      refine mL ?_
      refine O.ans.nth ea (A.over c fs) _ h gl d _ os ?_
      have z:=HX.T A c fs P _ _ _ _ _ _ _ _ _ _ _ O R hx et K
      rw[←Nat.add_assoc] at z
      exact z
     ·subst hx;exact K h R
 all_goals (unfold stepT at hx;dsimp only at hx;subst hx;exact K h R)
theorem kf:∀n,qL V B prog w (ev V n)
 |0=>⟨fun _ _ _ _ _ _ _ _ _ _ h _ _ _ _ _ R hx _ K=>by subst hx;exact K h R⟩
 |n+1=>⟨fun A c fs P t tab m i ob adv h gl d os x O R hx et K=>kA (cM n) (kf n) (g9 V n) A c fs P t tab m i ob adv h gl d os x O R hx et K⟩
end
inductive u9 where
 |val (f:Fin)
 |exc (e:Value)
 |call (c:Code)
 |yld (v:Value)
 |other
noncomputable def ou:Sem Fin→u9
 | .pure f=>.val f
 | .raise e=>.exc e
 | .call c h _ _ _=>match h with
  |none=>.call c
  |some _=>.other
 | .yield v g _ _=>match g with
  |false=>.yld v
  |true=>.other
 |_=>.other
noncomputable def yO:Sem Fin→Bool
 | .call _ _ g _ _=>g
 |_=>false
noncomputable def yN:Sem Fin→List Value
 | .call _ _ _ l _=>l
 |_=>[]
noncomputable def Ak:Sem Fin→Resume→Sem Fin
 | .yield _ _ _ k=>k
 |t=>fun _=>t
noncomputable def Aj:Sem Fin→List Value
 | .yield _ _ l _=>l
 |_=>[]
structure yT where
 got:u9
 tab:ae
 m:Nat
 i:Nat
 ob:List Ob
noncomputable def jI(x:oZ Fin)(bL:List Bool):yT:=⟨ou x.t,i9 x.tab bL,x.m,x.i,x.ob.map (·.1)⟩
section
variable {B:aQ} {A:Around} {N t₀:Nat} {c:Code} {fs:List Frame} {P:End→Shared→Prop} {t:Sem Fin} {tab:ae} {h:Heap} {gl:Array GenState} {d:Drawn} {os:OsState}
theorem ku(hh:(A.over c fs).handled=none)(R:Rep B N h tab 0)(ans:List dn)(n:Nat)(adv:List Nat)(bL:List Bool)(g:u9)(aR:ae)(m i:Nat)
 (e:jI (cw B N t₀ ans n adv t tab) bL=⟨g,aR,m,i,(cw B N t₀ ans n adv t tab).ob.map (·.2)⟩) (ha:cV B.prog B.w ans)
 (K:∀h' N' t',ou (cw B N t₀ ans n adv t tab).t=g→Rep B N' h' aR 0→SegX (MB B) A c (cw B N t₀ ans n adv t tab).t fs ⟨h',gl,d,t',os⟩ P):SegX (MB B) A c t fs ⟨h,gl,d,t₀,os⟩ P:=by
 generalize hx:cw B N t₀ ans n adv t tab=x at e K
 unfold jI at e
 injection e with e1 e2 e3 e4 e5
 exact(kf (V:=jC B N t₀ ans) (B:=B) n).T A c fs P t tab 0 0 [] adv h gl d os x (fF B (A:=A.over c fs) hh N t₀ ha) R hx (gS.of_map e5) fun h' R'=>K h' (N+x.m) _ e1 (e2▸(R'.sub (dd _ bL)).flat)
theorem fD(hh:(A.over c fs).handled=none)(R:Rep B N h tab 0)(ans:List dn)(n:Nat)(adv:List Nat)(bL:List Bool)(f:Fin)(aR:ae)(m i:Nat)
 (e:jI (cw B N t₀ ans n adv t tab) bL=⟨.val f,aR,m,i,(cw B N t₀ ans n adv t tab).ob.map (·.2)⟩) (ha:cV B.prog B.w ans)
 (K:∀h' N' t',Rep B N' h' aR 0→SegX (MB B) A c (.pure f) fs ⟨h',gl,d,t',os⟩ P):SegX (MB B) A c t fs ⟨h,gl,d,t₀,os⟩ P:=by
 refine ku hh R ans n adv bL _ aR m i e ha fun h' N' t' q R'=>?_
 have hv:(cw B N t₀ ans n adv t tab).t=.pure f:=by
  generalize (cw B N t₀ ans n adv t tab).t=y at q
  cases y<;>unfold ou at q<;>dsimp only at q<;>first|(cases q;done)|(injection q with q;rw[q])|(split at q<;>cases q)
 rw[hv]
 exact K h' N' t' R'
theorem rh(hh:(A.over c fs).handled=none)(R:Rep B N h tab 0)(ans:List dn)(n:Nat)(adv:List Nat)(bL:List Bool)(f:Code)(aR:ae)(m i:Nat)
 (e:jI (cw B N t₀ ans n adv t tab) bL=⟨.call f,aR,m,i,(cw B N t₀ ans n adv t tab).ob.map (·.2)⟩) (ha:cV B.prog B.w ans)
 (K:∀h' N' t',Rep B N' h' aR 0→codeAny (MB B) (A.over c fs) f (fun r s'=>SegX (MB B) A c (mf (cw B N t₀ ans n adv t tab).t r) fs s' P) ⟨h',gl,d,t',os⟩):SegX (MB B) A c t fs ⟨h,gl,d,t₀,os⟩ P:=by
 refine ku hh R ans n adv bL _ aR m i e ha fun h' N' t' q R'=>?_
 have K':=K h' N' t' R'
 generalize (cw B N t₀ ans n adv t tab).t=y at q K'⊢
 cases y<;>unfold ou at q<;>dsimp only at q
 case call c' hd g l k=>
  cases hd with
  |some _=>cases q
  |none=>
   injection q with q
   subst q
   exact mL K'
 case yield v g l k=>cases g<;>cases q
 all_goals cases q
theorem rg(hh:(A.over c fs).handled=none)(R:Rep B N h tab 0)(ans:List dn)(n:Nat)(adv:List Nat)(bL:List Bool)(f:Code)(aR:ae)(m i:Nat)
 (e:jI (cw B N t₀ ans n adv t tab) bL=⟨.call f,aR,m,i,(cw B N t₀ ans n adv t tab).ob.map (·.2)⟩) (ha:cV B.prog B.w ans)
 (K:∀h' N' t' p,Rep B N' h' aR 0→SegX (MB B) A f (dB f) (.ret (mf (cw B N t₀ ans n adv t tab).t) none (yO (cw B N t₀ ans n adv t tab).t) (yN (cw B N t₀ ans n adv t tab).t) c p []::fs) ⟨h',gl,d,t',os⟩ P):SegX (MB B) A c t fs ⟨h,gl,d,t₀,os⟩ P:=by
 refine ku hh R ans n adv bL _ aR m i e ha fun h' N' t' q R'=>?_
 have K':=fun p=>K h' N' t' p R'
 generalize (cw B N t₀ ans n adv t tab).t=y at q K'⊢
 cases y<;>unfold ou at q<;>dsimp only at q
 case call c' hd g l k=>
  cases hd with
  |some _=>cases q
  |none=>
   injection q with q
   subst q
   refine s_call B.prog B.w A c fs P _ c' none g l k fun p=>?_
   rw[fI]
   exact K' p
 case yield v g l k=>cases g<;>cases q
 all_goals cases q
theorem kr(hh:(A.over c fs).handled=none)(rW:splitAtGen fs=none)(rV:fs.any Frame.guarded=false)(R:Rep B N h tab 0)(ans:List dn)(n:Nat)(adv:List Nat)(bL:List Bool)(v:Value)(aR:ae)(m i:Nat)
 (e:jI (cw B N t₀ ans n adv t tab) bL=⟨.yld v,aR,m,i,(cw B N t₀ ans n adv t tab).ob.map (·.2)⟩) (ha:cV B.prog B.w ans)
 (K:∀h' N' t' p,Rep B N' h' aR 0→P (.susp v false (Aj (cw B N t₀ ans n adv t tab).t) (Ak (cw B N t₀ ans n adv t tab).t) c p fs) ⟨h',gl,d,t',os⟩):SegX (MB B) A c t fs ⟨h,gl,d,t₀,os⟩ P:=by
 refine ku hh R ans n adv bL _ aR m i e ha fun h' N' t' q R'=>?_
 have K':=fun p=>K h' N' t' p R'
 generalize (cw B N t₀ ans n adv t tab).t=y at q K'⊢
 cases y<;>unfold ou at q<;>dsimp only at q
 case call c' hd g l k=>cases hd<;>cases q
 case yield v' g l k=>
  cases g with
  |true=>cases q
  |false=>
   injection q with q
   subst q
   exact s_yield B.prog B.w A c fs P _ _ l k rW rV K'
 all_goals cases q
theorem fi{c':Code}(hq:c'.quiet=true)(K:SegX (MB B) A c' (dB c') fs ⟨h,gl,d,t₀,os⟩ P):SegX (MB B) A c (.pure (.again c')) fs ⟨h,gl,d,t₀,os⟩ P:=by
 refine PySem.W.X.s_again B.prog B.w A c fs P _ c' hq ?_
 rw[fI];exact K
end
end Mine
namespace Mine
open PySem PySem.W PySem.W.X PyProof.Rows PySem.Calls
noncomputable def kZ:Expr→Env→Value→Sem Unit:=PySem.W.ZFast.zw17772580674575903948
theorem jk:assign=kZ:=PySem.W.ZFast.ze17772580674575903948
noncomputable def sU:Expr→Bool
 | .Tuple .. =>true
 |_=>false
section
variable {B:aQ} {A:Around} {R:Result→Shared→Prop} {h:Heap} {gl:Array GenState} {d:Drawn} {t:Nat} {os:OsState} {N m u i c:Nat} {tab aR:ae} {e a:Addr} {E:Value→Shared→Prop}
theorem cI{bM:Expr}{it old:Value}{j:Int}{Q:Unit→Shared→Prop}(ht:sU bM=true)(Rp:Rep B N h tab 0)(i:Nat)(hx:nth tab i=some (e,bf (.int a 0) it j old))(ht':bm tab i (e,bf .none it j old)=aR)
 (K:∀h',Rep B N h' aR 0→Q () ⟨h',gl,d,t,os⟩):wpAny (MB B) A (letOwnedTupleGo bM (.ref e) (.ref a)) Q E ⟨h,gl,d,t,os⟩:=by
 subst ht'
 unfold sU at ht
 split at ht
 ·have he:h.get? e=some (bf (.int a 0) it j old):=Rp.at hx
  have q:=K _ (Rp.upd (f:=Obj.mapFields (·.setIfInBounds 0 .none)) hx rfl rfl)
  unfold letOwnedTupleGo
  dsimp only
  refine wpAny_bind (wpAny_load he ?_)
  dsimp only
  rw[if_pos (by simp[rawInt])]
  refine wpAny_bind (wpAny_rule ?_)
  unfold updateField
  refine wpAny_bind (wpAny_load he ?_)
  dsimp only
  rw[if_pos (by simp)]
  exact wpAny_update he q
 ·cases ht
theorem bh{it:Value}{T id:String}{Q:Option Value→Shared→Prop}{s:Shared}(hT:s.TypeIs it T)(jA:Slot T "__next__" id)
 (hc:codeAny (MB B) A (.call (.builtin id) ⟨[it],[]⟩) (fun r s'=>match r with| .ok (.ret v)=>Q (some v) s'| .error e=>s'.TypeIs e "StopIteration"∧Q none s'|_=>False) s):wpAny (MB B) A (pyNext it) Q E s:=by
 unfold pyNext
 refine wpAny_bind (wpAny_attempt (wpAny_callSpecial?_slot (name:=Str.ofString "__next__") hT jA (wpAny_call (codeAny_mono hc fun r s' q=>?_))))
 cases r with
 |ok f=>
  cases f with
  |ret v=>exact wpAny_pure q
  |_=>exact q.elim
 |error e=>
  exact wpAny_bind (wpAny_isInstance (T:="StopIteration") (b:=true) q.1 isSubtype_stop (wpAny_pure q.2))
end
section
variable {B:aQ} {A:Around} {s:Shared} {bM:Expr} {it:Value} {body cH:List Stmt} {bk:Env}
noncomputable abbrev sP:Value→Shared→Prop:=fun _ _=>False
theorem bZ{R:Result→Shared→Prop}(h:wpAny (MB B) (A.under (.forLoop bM it body cH bk)) (pyNext it) (fun r cG=>match r with
 |none=>codeAny (MB B) A (.block cH bk) R cG
 |some v=>wpAny (MB B) (A.under (.forLoop bM it body cH bk)) (letOwnedTupleGo bM it v) (fun _ dj=>wpAny (MB B) (A.under (.forLoop bM it body cH bk)) (kZ bM bk v) (fun _ lD=>
  wpAny (MB B) (A.under (.forLoop bM it body cH bk)) (aj body bk) (fun f mG=>match f with
   | .next| .cont=>codeAny (MB B) A (.forLoop bM it body cH bk) R mG
   | .brk=>R (.ok .next) mG
   | .ret v=>R (.ok (.ret v)) mG) sP lD) sP dj) sP cG) sP s):codeAny (MB B) A (.forLoop bM it body cH bk) R s:=by
 refine codeAny_of_tree ?_
 show wpAny _ _ ((forTurn bM it body cH bk).onRaise (fun x=>do noteFrame x bk;theTreesLotGoes x)) _ _ s
 refine wpAny_onRaise ?_
 simp only[forTurn]
 refine wpAny_bind (wpAny_standAt (wpAny_bind (wpAny_onRaise (wpAny_mono h (fun r cG h₁=>?_) fun _ _ q=>q.elim))))
 cases r with
 |none=>exact wpAny_pure ⟨rfl,h₁⟩
 |some v=>
  refine wpAny_bind (wpAny_mono h₁ (fun _ dj ue=>?_) fun _ _ q=>q.elim)
  rw[jk]
  refine wpAny_bind (wpAny_mono ue (fun _ lD pY=>?_) fun _ _ q=>q.elim)
  rw[cX]
  refine wpAny_bind (wpAny_mono pY (fun f mG rP=>?_) fun _ _ q=>q.elim)
  cases f with
  |next=>exact wpAny_pure ⟨rfl,rP⟩
  |cont=>exact wpAny_pure ⟨rfl,rP⟩
  |brk=>exact wpAny_pure rP
  |ret v=>exact wpAny_pure rP
theorem nX{α β γ:Type}(m:Sem α)(f:α→Sem β)(K:β→Sem γ)(H:Value→Sem γ):(m.wrap f .raise id id).wrap K H id id=m.wrap (fun a=>(f a).wrap K H id id) H id id:=by
 induction m<;>simp only[Sem.wrap,id, *]
theorem kC{α:Type}{c:Code}{fs:List Frame}{P:End→Shared→Prop}{m:Sem α}{k:α→Sem Fin}{H:Value→Sem Fin}(h:wpAny (MB B) (A.over c fs) m (fun a s'=>SegX (MB B) A c (k a) fs s' P) sP s):
 SegX (MB B) A c (m.wrap k H id id) fs s P:=by
 rintro Γ p rfl hΓ
 obtain⟨e,s',hr,hq⟩:=runs_wrap_of_wp (Φ:=fun e s'=>e.quiet=true∧P e s') k H id id m (h (Γ.over fs) p (hΓ.over fs)) (fun a p' s' h'=>h' Γ p' rfl hΓ) (fun x p' s' h'=>h'.elim)
 exact⟨e,s',hr,hq⟩
noncomputable def lA(bM:Expr)(it:Value)(body cH:List Stmt)(bk:Env):Sem Fin:=
 PySem.W.R.onRaiseR (PySem.W.R.bindR (aj body bk) fun f=>match f with
  | .next| .cont=>Sem.pure (PySem.Fin.again (.forLoop bM it body cH bk))
  | .brk=>Sem.pure (PySem.Fin.done .next)
  | .ret v=>Sem.pure (PySem.Fin.done (.ret v))) (fun x=>do noteFrame x bk;theTreesLotGoes x)
theorem eA{α β:Type}(m:Sem α)(f:α→Sem β)(g:Value→Sem Unit):(m >>= f).onRaise g=m.wrap (fun a=>(f a).onRaise g) (fun e=>(g e).bind fun _=>.raise e) id id:=by
 rw[Sem.onRaise_eq_wrap,Sem.bind_eq_wrap',nX]
 congr 1
 funext a
 rw[Sem.onRaise_eq_wrap]
theorem ij{fs:List Frame}{P:End→Shared→Prop}
 (h:wpAny (MB B) (A.over (.forLoop bM it body cH bk) fs) (pyNext it) (fun r cG=>match r with
  |none=>SegX (MB B) A (.forLoop bM it body cH bk) (.pure (.again (.block cH bk))) fs cG P
  |some v=>wpAny (MB B) (A.over (.forLoop bM it body cH bk) fs) (letOwnedTupleGo bM it v) (fun _ dj=>wpAny (MB B) (A.over (.forLoop bM it body cH bk) fs) (kZ bM bk v) (fun _ lD=>
   SegX (MB B) A (.forLoop bM it body cH bk) (lA bM it body cH bk) fs lD P) sP dj) sP cG) sP s):
 SegX (MB B) A (.forLoop bM it body cH bk) (dB (.forLoop bM it body cH bk)) fs s P:=by
 rw[←fI]
 show SegX _ _ _ ((forTurn bM it body cH bk).onRaise (fun x=>do noteFrame x bk;theTreesLotGoes x)) fs s P
 simp only[forTurn]
 rw[eA]
 refine kC (wpAny_standAt ?_)
 rw[eA]
 refine kC (wpAny_onRaise (wpAny_mono h (fun r cG h₁=>?_) fun _ _ q=>q.elim))
 cases r with
 |none=>exact h₁
 |some v=>
  dsimp only
  rw[eA]
  refine kC (wpAny_mono h₁ (fun _ dj ue=>?_) fun _ _ q=>q.elim)
  rw[eA,jk]
  refine kC (wpAny_mono ue (fun _ lD pY=>?_) fun _ _ q=>q.elim)
  unfold lA at pY
  rw[←PySem.W.R.bindR_eq,←PySem.W.R.onRaiseR_eq,←cX] at pY
  exact pY
end
noncomputable abbrev Ag(vl vu vs:Value):Obj:=⟨.type "slice",none,.fields #[vl,vu,vs],#[]⟩
section
variable {B:aQ} {A:Around} {R:Result→Shared→Prop} {h:Heap} {gl:Array GenState} {d:Drawn} {t:Nat} {os:OsState} {N:Nat} {tab:ae} {l sl:Addr} {items ys:Array Value} {n:Nat} {vl vu vs:Value} {lo hi st:Option Int}
theorem iW(Rp:Rep B N h tab 0)(i k:Nat)(oV:nth tab i=some (l,an items n))(hk:nth tab k=some (sl,Ag vl vu vs))(pl:IsPart vl lo)(pu:IsPart vu hi)(ps:IsPart vs st)(h0:st≠some 0)(qY:items.size≤2^24)(e:slicePick items lo hi st=ys)
 (K:∀h' N' a,Rep B N' h' ((a,an ys 0)::tab) 0→R (.ok (.ret (.ref a))) ⟨h',gl,d,t,os⟩):codeAny (MB B) A (.call (.builtin "list.__getitem__") ⟨[.ref l,.ref sl],[]⟩) R ⟨h,gl,d,t,os⟩:=by
 subst e
 have hl:h.get? l=some (an items n):=Rp.at oV
 have hs:h.get? sl=some (Ag vl vu vs):=Rp.at hk
 have yl:(⟨h,gl,d,t,os⟩:Shared).TypeIs (.ref sl) "slice":=⟨_,hs,rfl⟩
 refine codeAny_call_builtin F.slot_list_getitem.plain F.entry_list_getitem (F.slot_list_getitem.check _ _ _ _ _ _ _ _ ⟨_,hl,rfl⟩ (F.args_list_getitem_2 _ _) ?_)
 show wpAny _ _ (Builtin.List.listSubscript? (.ref sl) >>= _) _ _ _
 refine wpAny_bind ?_
 unfold Builtin.List.listSubscript?
 refine wpAny_bind (wpAny_specialOf yl slice_no_index ?_)
 simp only[Option.isNone_none,if_true]
 refine wpAny_pure ?_
 show wpAny _ _ (typeOf (.ref sl) >>= _) _ _ _
 refine wpAny_bind (wpAny_typeOf yl ?_)
 rw[if_neg (by decide)]
 rw[listSliceParts_eq]
 have p7:¬((rawPart st==rawInt 0)=true):=by
  cases st with
  |none=>exact Bool.false_ne_true
  |some c=>
   intro hh
   have:c=0:=by simpa[rawPart,rawInt] using hh
   exact h0 (by rw[this])
 refine wpAny_bind (wpAny_bind (wpAny_field hs rfl (x:=vs) rfl (wpAny_bind (wpAny_listPart ps ?_))))
 rw[if_neg p7]
 refine wpAny_bind (wpAny_field hs rfl (x:=vl) rfl (wpAny_bind (wpAny_listPart pl ?_)))
 refine wpAny_bind (wpAny_field hs rfl (x:=vu) rfl (wpAny_bind (wpAny_listPart pu (wpAny_pure ?_))))
 refine wpAny_bind (m:=Builtin.List.listItems (.ref l)) ?_
 unfold Builtin.List.listItems
 refine wpAny_bind (wpAny_seqItems hl rfl (wpAny_pure ?_))
 refine wpAny_bind (wpAny_of_eq (sliceIndices_raw lo hi st items.size h0) ?_)
 have q:=(Rp.push (o:=an (slicePick items lo hi st) 0) rfl).flat
 have hN:=Rp.size
 rw[show N+0=h.objs.size from hN.symm] at q
 exact wpAny_bind (wpAny_newObj_type (wpAny_pure (K _ _ _ q)) (Nat.le_trans (slicePick_size_le items lo hi st) qY))
end
section
variable {B:aQ} {A:Around} {R:Result→Shared→Prop} {h:Heap} {gl:Array GenState} {d:Drawn} {t:Nat} {os:OsState} {N:Nat} {tab aR:ae} {l sl it e:Addr} {items ys:Array Value} {n j:Nat} {vl vu vs x:Value} {lo hi st:Option Int}
theorem pO(Rp:Rep B N h tab 0)(hl:h.get? l=some (an items n))(k:Nat)(hk:nth tab k=some (sl,Ag vl vu vs))(pl:IsPart vl lo)(pu:IsPart vu hi)(ps:IsPart vs st)(h0:st≠some 0)(qY:items.size≤2^24)(e:slicePick items lo hi st=ys)
 (K:∀h' N' a,Rep B N' h' ((a,an ys 0)::tab) 0→R (.ok (.ret (.ref a))) ⟨h',gl,d,t,os⟩):codeAny (MB B) A (.call (.builtin "list.__getitem__") ⟨[.ref l,.ref sl],[]⟩) R ⟨h,gl,d,t,os⟩:=by
 subst e
 have hs:h.get? sl=some (Ag vl vu vs):=Rp.at hk
 have yl:(⟨h,gl,d,t,os⟩:Shared).TypeIs (.ref sl) "slice":=⟨_,hs,rfl⟩
 refine codeAny_call_builtin F.slot_list_getitem.plain F.entry_list_getitem (F.slot_list_getitem.check _ _ _ _ _ _ _ _ ⟨_,hl,rfl⟩ (F.args_list_getitem_2 _ _) ?_)
 show wpAny _ _ (Builtin.List.listSubscript? (.ref sl) >>= _) _ _ _
 refine wpAny_bind ?_
 unfold Builtin.List.listSubscript?
 refine wpAny_bind (wpAny_specialOf yl slice_no_index ?_)
 simp only[Option.isNone_none,if_true]
 refine wpAny_pure ?_
 show wpAny _ _ (typeOf (.ref sl) >>= _) _ _ _
 refine wpAny_bind (wpAny_typeOf yl ?_)
 rw[if_neg (by decide)]
 rw[listSliceParts_eq]
 have p7:¬((rawPart st==rawInt 0)=true):=by
  cases st with
  |none=>exact Bool.false_ne_true
  |some c=>
   intro hh
   have:c=0:=by simpa[rawPart,rawInt] using hh
   exact h0 (by rw[this])
 refine wpAny_bind (wpAny_bind (wpAny_field hs rfl (x:=vs) rfl (wpAny_bind (wpAny_listPart ps ?_))))
 rw[if_neg p7]
 refine wpAny_bind (wpAny_field hs rfl (x:=vl) rfl (wpAny_bind (wpAny_listPart pl ?_)))
 refine wpAny_bind (wpAny_field hs rfl (x:=vu) rfl (wpAny_bind (wpAny_listPart pu (wpAny_pure ?_))))
 refine wpAny_bind (m:=Builtin.List.listItems (.ref l)) ?_
 unfold Builtin.List.listItems
 refine wpAny_bind (wpAny_seqItems hl rfl (wpAny_pure ?_))
 refine wpAny_bind (wpAny_of_eq (sliceIndices_raw lo hi st items.size h0) ?_)
 have q:=(Rp.push (o:=an (slicePick items lo hi st) 0) rfl).flat
 have hN:=Rp.size
 rw[show N+0=h.objs.size from hN.symm] at q
 exact wpAny_bind (wpAny_newObj_type (wpAny_pure (K _ _ _ q)) (Nat.le_trans (slicePick_size_le items lo hi st) qY))
theorem sk(hh:A.handled=none)(Rp:Rep B N h tab 0)(i:Nat)(hx:nth tab i=some (l,an items n))
 (K:∀h' N' t' e it,Rep B N' h' ((e,bf .none (.ref it) 0 .none)::(it,aD l ((0:Nat):Int))::tab) 0→R (.ok (.ret (.ref e))) ⟨h',gl,d,t',os⟩):codeAny (MB B) A (.call (.builtin "enumerate.__new__") ⟨[.type "enumerate",.ref l],[]⟩) R ⟨h,gl,d,t,os⟩:=by
 refine af ?_
 refine aE hh Rp 20 [] [] (Fin.again (.builtin "enumerate.__new__" ⟨[.type "enumerate",.ref l],[]⟩)) (tab) 0 0 (by rfl') fun h1 N1 t1 Rp=>?_
 refine⟨Code.quiet_builtin _ (by decide+kernel),codeAny_builtin F.entry_enumerate_new ?_⟩
 rw[Around.under_plainId (by decide+kernel)]
 refine meets_enumerate_new l items n B.prog B.w A R _ ⟨Rp.at hx,?_⟩
 have hs:=Rp.size
 have q:=((Rp.push (o:=aD l ((0:Nat):Int)) rfl).push (o:=bf .none (.ref N1) 0 .none) rfl).flat
 dsimp only
 rw[Heap.size_push,hs]
 exact K _ _ _ _ _ q
theorem mS(hh:A.handled=none)(Rp:Rep B N h tab 0)(i k:Nat)(hi:nth tab i=some (it,aD l (j:Int)))(hk:nth tab k=some (l,an items n))(he:items[j]? =none)(ht:bm tab i (it,⟨.type "list_iterator",none,.fields #[.none,.int j 0],#[]⟩)=aR)
 (K:∀h' N' a e,Rep B N' h' ((e,gJ a)::(a,⟨.type "tuple",none,.seq #[] 0,#[]⟩)::aR) 0→R (.error (.ref e)) ⟨h',gl,d,t,os⟩):codeAny (MB B) A (.call (.builtin "list_iterator.__next__") ⟨[.ref it],[]⟩) R ⟨h,gl,d,t,os⟩:=by
 subst ht
 have hl:h.get? l=some (an items n):=Rp.at hk
 have hit:h.get? it=some (aD l (j:Int)):=Rp.at hi
 refine codeAny_call_builtin slot_listiter_next.plain entry_listiter_next (slot_listiter_next.check _ _ _ _ _ _ _ _ ⟨_,hit,rfl⟩ (args_listiter_next _) ?_)
 unfold Builtin.«list_iterator.__next__»
 refine wpAny_bind (wpAny_of_eq (a:=(Value.ref it,[])) rfl ?_)
 try dsimp only
 refine wpAny_bind (wpAny_field hit rfl (x:=.ref l) rfl ?_)
 rw[if_neg (show¬((Value.ref l==Value.none)=true) from Bool.false_ne_true)]
 refine wpAny_bind (wpAny_field hit rfl (x:=rawInt (j:Int)) rfl ?_)
 show wpAny _ _ (seqItems? (.ref l) >>= _) _ _ _
 refine wpAny_bind (wpAny_seqItems hl rfl ?_)
 simp only[Int.toNat_natCast,he]
 have q:=Rp.upd (f:=Obj.mapFields fun vs=>vs.setIfInBounds 0 .none) hi rfl rfl
 have hs:=q.size
 have q:=((q.push (o:=⟨.type "tuple",none,.seq #[] 0,#[]⟩) rfl).push (o:=gJ N) rfl).flat
 refine wpAny_bind (wpAny_rule (wpAny_bind (wpAny_setField hit rfl (by simp) ?_)))
 show wpAny _ _ (newExc (.type "StopIteration") [] >>= _) _ _ _
 refine wpAny_bind ?_
 simp only[newExc,newTuple]
 refine wpAny_bind (wpAny_newObj_type ?_ (by size_fits))
 refine wpAny_bind (m:=firstArgMember _ _) (wpAny_of_eq (a:=Value.none) (by first|rfl|(simp only[firstArgMember];rfl)) ?_)
 refine wpAny_newObj_type ?_ (by size_fits)
 simp only[raiseNew]
 refine wpAny_bind (wpAny_handled ?_)
 rw[hh]
 refine wpAny_bind (wpAny_pure (wpAny_throw ?_))
 have q:=K _ _ _ _ q
 rw[Heap.size_push]
 rw[show(h.update it (Obj.mapFields fun x=>x.setIfInBounds 0 Value.none)).objs.size=N from hs]
 exact q
end
end Mine
namespace Mine
open PySem PySem.W PySem.W.X PyProof.Rows PySem.Spec PySem.Calls
section
variable {B:aQ} {A:Around} {R:Result→Shared→Prop} {h:Heap} {gl:Array GenState} {d:Drawn} {t:Nat} {os:OsState} {N u i n:Nat} {c:Int} {tab:ae} {e it l:Addr} {items:Array Value} {s:List Nat}
theorem l7(hh:A.handled=none)(old:Value)(Rp:Rep B N h ((e,bf .none (.ref it) (i:Int) old)::(it,aD l (i:Int))::(l,an items n)::tab) 0)(hc:items[i]? =some (.int c u))
 (K:∀h' N' t' a v,Rep B N' h' ((a,⟨.type "tuple",none,.seq #[.int (i:Int) v,.int c u] 0,#[]⟩)::(e,bf (.int a 0) (.ref it) ((i+1:Nat):Int) (.int c u))::(it,aD l ((i+1:Nat):Int))::(l,an items n)::tab) 0→R (.ok (.ret (.ref a))) ⟨h',gl,d,t',os⟩):
 codeAny (MB B) A (.call (.builtin "enumerate.__next__") ⟨[.ref e],[]⟩) R ⟨h,gl,d,t,os⟩:=by
 refine af ?_
 refine aE hh Rp 12 [5] [true,true,true] (Fin.again (.builtin "enumerate.__next__" ⟨[.ref e],[]⟩)) ((e,⟨.type "enumerate",none,.fields #[.none,.bool false,.ref it,.int ((↑i:Int)) 0,.none,old],#[]⟩)::(it,⟨.type "list_iterator",none,.fields #[.ref l,.int ((↑i:Int)) 0],#[]⟩)::(l,⟨.type "list",none,.seq items n,#[]⟩)::tab) 0 0 (by rfl') fun h1 N1 t1 Rp=>?_
 refine⟨Code.quiet_builtin _ (by decide+kernel),af ?_⟩
 refine seg_call hh Rp 13 [5,6] [true,true,true] (.call (.builtin "list_iterator.__next__") ⟨[.ref it],[]⟩) ((e,⟨.type "enumerate",none,.fields #[.none,.bool false,.ref it,.int ((↑i:Int)) 0,.none,old],#[]⟩)::(it,⟨.type "list_iterator",none,.fields #[.ref l,.int ((↑i:Int)) 0],#[]⟩)::(l,⟨.type "list",none,.seq items n,#[]⟩)::tab) 0 0 (by rfl') fun h2 N2 t2 Rp=>?_
 refine b6 Rp 1 2 rfl rfl hc rfl fun gH Rp=>?_
 dsimp only[bm] at Rp
 refine aE hh Rp 29 [5,5,5,1,5,1,6,6,6,2,6,2,6,2] [true,true,true,true] (Fin.done (Flow.ret (.ref (N2+0)))) ((N2+0,⟨.type "tuple",none,.seq #[.int ((↑i:Int)) (t2+0),.int (c) u] 0,#[]⟩)::(e,⟨.type "enumerate",none,.fields #[.int ((↑(N2+0):Int)) 0,.bool false,.ref it,.int ((↑i:Int)+1) 0,.none,.int (c) u],#[]⟩)::(it,⟨.type "list_iterator",none,.fields #[.ref l,.int ((↑(i+1):Int)) 0],#[]⟩)::(l,⟨.type "list",none,.seq items n,#[]⟩)::tab) 1 1 (by rfl') fun h3 N3 t3 Rp=>?_
 exact K _ _ _ _ _ Rp
theorem fA(hh:A.handled=none)(old:Value)(Rp:Rep B N h ((e,bf .none (.ref it) (i:Int) old)::(it,aD l (i:Int))::(l,an items n)::tab) 0)(hc:items[i]? =some (.str (S s) u))
 (K:∀h' N' t' a v,Rep B N' h' ((a,⟨.type "tuple",none,.seq #[.int (i:Int) v,.str (S s) u] 0,#[]⟩)::(e,bf (.int a 0) (.ref it) ((i+1:Nat):Int) (.str (S s) u))::(it,aD l ((i+1:Nat):Int))::(l,an items n)::tab) 0→R (.ok (.ret (.ref a))) ⟨h',gl,d,t',os⟩):
 codeAny (MB B) A (.call (.builtin "enumerate.__next__") ⟨[.ref e],[]⟩) R ⟨h,gl,d,t,os⟩:=by
 refine af ?_
 refine aE hh Rp 12 [5] [true,true,true] (Fin.again (.builtin "enumerate.__next__" ⟨[.ref e],[]⟩)) ((e,⟨.type "enumerate",none,.fields #[.none,.bool false,.ref it,.int ((↑i:Int)) 0,.none,old],#[]⟩)::(it,⟨.type "list_iterator",none,.fields #[.ref l,.int ((↑i:Int)) 0],#[]⟩)::(l,⟨.type "list",none,.seq items n,#[]⟩)::tab) 0 0 (by rfl') fun h1 N1 t1 Rp=>?_
 refine⟨Code.quiet_builtin _ (by decide+kernel),af ?_⟩
 refine seg_call hh Rp 13 [5,6] [true,true,true] (.call (.builtin "list_iterator.__next__") ⟨[.ref it],[]⟩) ((e,⟨.type "enumerate",none,.fields #[.none,.bool false,.ref it,.int ((↑i:Int)) 0,.none,old],#[]⟩)::(it,⟨.type "list_iterator",none,.fields #[.ref l,.int ((↑i:Int)) 0],#[]⟩)::(l,⟨.type "list",none,.seq items n,#[]⟩)::tab) 0 0 (by rfl') fun h2 N2 t2 Rp=>?_
 refine b6 Rp 1 2 rfl rfl hc rfl fun gH Rp=>?_
 dsimp only[bm] at Rp
 refine aE hh Rp 29 [5,5,5,1,5,1,6,6,6,2,6,2,6,2] [true,true,true,true] (Fin.done (Flow.ret (.ref (N2+0)))) ((N2+0,⟨.type "tuple",none,.seq #[.int ((↑i:Int)) (t2+0),.str (S s) u] 0,#[]⟩)::(e,⟨.type "enumerate",none,.fields #[.int ((↑(N2+0):Int)) 0,.bool false,.ref it,.int ((↑i:Int)+1) 0,.none,.str (S s) u],#[]⟩)::(it,⟨.type "list_iterator",none,.fields #[.ref l,.int ((↑(i+1):Int)) 0],#[]⟩)::(l,⟨.type "list",none,.seq items n,#[]⟩)::tab) 1 1 (by rfl') fun h3 N3 t3 Rp=>?_
 exact K _ _ _ _ _ Rp
theorem kU(hh:A.handled=none)(old:Value)(Rp:Rep B N h ((e,bf .none (.ref it) (i:Int) old)::(it,aD l (i:Int))::(l,an items n)::tab) 0)(hc:items[i]? =none)
 (K:∀h' N' t' a e,Rep B N' h' ((e,gJ a)::(l,an items n)::tab) 0→R (.error (.ref e)) ⟨h',gl,d,t',os⟩):
 codeAny (MB B) A (.call (.builtin "enumerate.__next__") ⟨[.ref e],[]⟩) R ⟨h,gl,d,t,os⟩:=by
 refine af ?_
 refine aE hh Rp 12 [5] [true,true,true] (Fin.again (.builtin "enumerate.__next__" ⟨[.ref e],[]⟩)) ((e,⟨.type "enumerate",none,.fields #[.none,.bool false,.ref it,.int ((↑i:Int)) 0,.none,old],#[]⟩)::(it,⟨.type "list_iterator",none,.fields #[.ref l,.int ((↑i:Int)) 0],#[]⟩)::(l,⟨.type "list",none,.seq items n,#[]⟩)::tab) 0 0 (by rfl') fun h1 N1 t1 Rp=>?_
 refine⟨Code.quiet_builtin _ (by decide+kernel),af ?_⟩
 refine seg_call hh Rp 13 [5,6] [true,true,true] (.call (.builtin "list_iterator.__next__") ⟨[.ref it],[]⟩) ((e,⟨.type "enumerate",none,.fields #[.none,.bool false,.ref it,.int ((↑i:Int)) 0,.none,old],#[]⟩)::(it,⟨.type "list_iterator",none,.fields #[.ref l,.int ((↑i:Int)) 0],#[]⟩)::(l,⟨.type "list",none,.seq items n,#[]⟩)::tab) 0 0 (by rfl') fun h2 N2 t2 Rp=>?_
 refine mS hh Rp 1 2 rfl rfl hc rfl fun gH jG yQ l9 Rp=>?_
 dsimp only[bm] at Rp
 refine kB hh Rp 11 [] [true,false,false,false,true] (.ref l9) ((l9,⟨.type "StopIteration",none,.fields #[.ref yQ,.none,.none,.none,.bool false,.none],#[]⟩)::(l,⟨.type "list",none,.seq items n,#[]⟩)::tab) 0 0 (by rfl') fun h3 N3 t3 Rp=>?_
 exact K _ _ _ _ _ Rp
end
noncomputable def dE(P:Params)(k:List Nat)(t:Nat)(v:Value):DictEntry:={hash:=PyData.keyHash P (S k),key:=.str (S k) t,val:=v}
noncomputable def CC(P:Params):Nat→List (String×List Nat)→List DictEntry
 |_,[]=>[]
 |n,(b,k)::r=>dE P k n (.builtin b)::CC P (n+1) r
noncomputable def sA(i:Nat):Stmt:=(PySem.Challenge.pw_ta0116_02.main.body.drop i).headD default
noncomputable def sC(i:Nat):Stmt:=match sA 23 with
 | .ClassDef _ _ _ b _ _ _ _ _ _ _=>(b.drop i).headD default
 |_=>default
noncomputable def fO(q:List Nat)(s:Stmt)(d m:Value)(c:Nat):Obj:=match s with
 | .FunctionDef n a b _ _ _ s _ _ _=>⟨.type "function",none,.func {name:=n,qualname:=S q,params:=a,body:=.stmts b,scope:=s,globals:=3,closure:=[],defaults:=d,kwdefaults:=.none,pyModule:=m,code:=.ref c},#[]⟩
 |_=>default
noncomputable def cO(n q:List Nat)(t l k w f a:Nat)(y:Bool)(u:Nat):Obj:=
 let p:=S [47,99,108,97,105,109,47,99,117,116,46,112,121]
 ⟨.type "code",none,.fields #[.str (S n) t,.str (S q) (t+1),.str p (t+2),.int l 0,.int k 0,.int 0 0,.int w 0,.int f 0,.ref a,.bool true,.int 276 0,.ref (a+1),.none,
  cond y (.ref (a+2)) .none,cond y (.ref (a+3)) .none,.ref (cond y (a+4) (a+2)),.int u 0,.int l 0,.str p (u+1)],#[]⟩
set_option genSizeOf false in
set_option genInjectivity false in
inductive OT where
 |leaf (a:Addr) (o:Obj)
 |node (k:Addr) (l r:OT)
noncomputable def OT.get:OT→Addr→Option Obj
 | .leaf b o,a=>match Nat.beq a b with
  |true=>some o
  |false=>none
 | .node k l r,a=>match Nat.blt a k with
  |true=>l.get a
  |false=>r.get a
noncomputable def OT.list:OT→Frag
 | .leaf a o=>[(a,o)]
 | .node _ l r=>l.list++r.list
theorem gC{h:Heap}:∀{k l:Frag},AllIn h (k++l)→AllIn h k∧AllIn h l
 |[],_,H=>⟨trivial,H⟩
 |_::_,_,H=>⟨⟨H.1,(gC H.2).1⟩,(gC H.2).2⟩
theorem OT.holds{h:Heap}{a:Addr}{o:Obj}:∀{t:OT},AllIn h t.list→t.get a=some o→h.get? a=some o
 | .leaf b _,H,e=>by
  unfold OT.get at e
  split at e
  ·cases e;rename_i q;rw[Nat.eq_of_beq_eq_true q];exact H.1
  ·cases e
 | .node ..,H,e=>by
  unfold OT.get at e
  split at e
  ·exact OT.holds (gC H).1 e
  ·exact OT.holds (gC H).2 e
noncomputable def Hs(P:Params):Obj:=⟨.type "dict",none,.dict ([dE P [95,95,110,97,109,101,95,95] 1 (.str (S [98,117,105,108,116,105,110,115]) 160),dE P [95,95,100,111,99,95,95] 2 (.builtin "builtins.__doc__:str#opaque"),dE P [95,95,112,97,99,107,97,103,101,95,95] 3 (.builtin "builtins.__package__:str#opaque"),dE P [95,95,108,111,97,100,101,114,95,95] 4 (.builtin "builtins.__loader__:shared#opaque"),dE P [95,95,115,112,101,99,95,95] 5 (.builtin "builtins.__spec__#opaque")]++CC P 6 [("__build_class__",[95,95,98,117,105,108,100,95,99,108,97,115,115,95,95]),("__import__",[95,95,105,109,112,111,114,116,95,95]),("abs",[97,98,115]),("all",[97,108,108]),("any",[97,110,121]),("ascii",[97,115,99,105,105]),("bin",[98,105,110]),("breakpoint",[98,114,101,97,107,112,111,105,110,116]),("callable",[99,97,108,108,97,98,108,101]),("chr",[99,104,114]),("compile",[99,111,109,112,105,108,101]),("delattr",[100,101,108,97,116,116,114]),("dir",[100,105,114]),("divmod",[100,105,118,109,111,100]),("eval",[101,118,97,108]),("exec",[101,120,101,99]),("format",[102,111,114,109,97,116]),("getattr",[103,101,116,97,116,116,114]),("globals",[103,108,111,98,97,108,115]),("hasattr",[104,97,115,97,116,116,114]),("hash",[104,97,115,104]),("hex",[104,101,120]),("id",[105,100]),("input",[105,110,112,117,116]),("isinstance",[105,115,105,110,115,116,97,110,99,101]),("issubclass",[105,115,115,117,98,99,108,97,115,115]),("iter",[105,116,101,114]),("aiter",[97,105,116,101,114]),("len",[108,101,110]),("locals",[108,111,99,97,108,115]),("max",[109,97,120]),("min",[109,105,110]),("next",[110,101,120,116]),("anext",[97,110,101,120,116]),("oct",[111,99,116]),("ord",[111,114,100]),("pow",[112,111,119]),("print",[112,114,105,110,116]),("repr",[114,101,112,114]),("round",[114,111,117,110,100]),("setattr",[115,101,116,97,116,116,114]),("sorted",[115,111,114,116,101,100]),("sum",[115,117,109]),("vars",[118,97,114,115])]++[dE P [78,111,110,101] 50 (.none),dE P [69,108,108,105,112,115,105,115] 51 (.ellipsis),dE P [78,111,116,73,109,112,108,101,109,101,110,116,101,100] 52 (.notImplemented),dE P [70,97,108,115,101] 53 (.bool false),dE P [84,114,117,101] 54 (.bool true),dE P [98,111,111,108] 55 (.type "bool"),dE P [109,101,109,111,114,121,118,105,101,119] 56 (.type "memoryview"),dE P [98,121,116,101,97,114,114,97,121] 57 (.type "bytearray"),dE P [98,121,116,101,115] 58 (.type "bytes"),dE P [99,108,97,115,115,109,101,116,104,111,100] 59 (.type "classmethod"),dE P [99,111,109,112,108,101,120] 60 (.type "complex"),dE P [100,105,99,116] 61 (.type "dict"),dE P [101,110,117,109,101,114,97,116,101] 62 (.type "enumerate"),dE P [102,105,108,116,101,114] 63 (.type "filter"),dE P [102,108,111,97,116] 64 (.type "float"),dE P [102,114,111,122,101,110,115,101,116] 65 (.type "frozenset"),dE P [112,114,111,112,101,114,116,121] 66 (.type "property"),dE P [105,110,116] 67 (.type "int"),dE P [108,105,115,116] 68 (.type "list"),dE P [109,97,112] 69 (.type "map"),dE P [111,98,106,101,99,116] 70 (.type "object"),dE P [114,97,110,103,101] 71 (.type "range"),dE P [114,101,118,101,114,115,101,100] 72 (.type "reversed"),dE P [115,101,116] 73 (.type "set"),dE P [115,108,105,99,101] 74 (.type "slice"),dE P [115,116,97,116,105,99,109,101,116,104,111,100] 75 (.type "staticmethod"),dE P [115,116,114] 76 (.type "str"),dE P [115,117,112,101,114] 77 (.type "super"),dE P [116,117,112,108,101] 78 (.type "tuple"),dE P [116,121,112,101] 79 (.type "type"),dE P [122,105,112] 80 (.type "zip"),dE P [95,95,100,101,98,117,103,95,95] 81 (.bool true),dE P [66,97,115,101,69,120,99,101,112,116,105,111,110] 82 (.type "BaseException"),dE P [66,97,115,101,69,120,99,101,112,116,105,111,110,71,114,111,117,112] 83 (.type "BaseExceptionGroup"),dE P [69,120,99,101,112,116,105,111,110] 84 (.type "Exception"),dE P [71,101,110,101,114,97,116,111,114,69,120,105,116] 85 (.type "GeneratorExit"),dE P [75,101,121,98,111,97,114,100,73,110,116,101,114,114,117,112,116] 86 (.type "KeyboardInterrupt"),dE P [83,121,115,116,101,109,69,120,105,116] 87 (.type "SystemExit"),dE P [65,114,105,116,104,109,101,116,105,99,69,114,114,111,114] 88 (.type "ArithmeticError"),dE P [65,115,115,101,114,116,105,111,110,69,114,114,111,114] 89 (.type "AssertionError"),dE P [65,116,116,114,105,98,117,116,101,69,114,114,111,114] 90 (.type "AttributeError"),dE P [66,117,102,102,101,114,69,114,114,111,114] 91 (.type "BufferError"),dE P [69,79,70,69,114,114,111,114] 92 (.type "EOFError"),dE P [73,109,112,111,114,116,69,114,114,111,114] 93 (.type "ImportError"),dE P [76,111,111,107,117,112,69,114,114,111,114] 94 (.type "LookupError"),dE P [77,101,109,111,114,121,69,114,114,111,114] 95 (.type "MemoryError"),dE P [78,97,109,101,69,114,114,111,114] 96 (.type "NameError"),dE P [79,83,69,114,114,111,114] 97 (.type "OSError"),dE P [82,101,102,101,114,101,110,99,101,69,114,114,111,114] 98 (.type "ReferenceError"),dE P [82,117,110,116,105,109,101,69,114,114,111,114] 99 (.type "RuntimeError"),dE P [83,116,111,112,65,115,121,110,99,73,116,101,114,97,116,105,111,110] 100 (.type "StopAsyncIteration"),dE P [83,116,111,112,73,116,101,114,97,116,105,111,110] 101 (.type "StopIteration"),dE P [83,121,110,116,97,120,69,114,114,111,114] 102 (.type "SyntaxError"),dE P [83,121,115,116,101,109,69,114,114,111,114] 103 (.type "SystemError"),dE P [84,121,112,101,69,114,114,111,114] 104 (.type "TypeError"),dE P [86,97,108,117,101,69,114,114,111,114] 105 (.type "ValueError"),dE P [87,97,114,110,105,110,103] 106 (.type "Warning"),dE P [70,108,111,97,116,105,110,103,80,111,105,110,116,69,114,114,111,114] 107 (.type "FloatingPointError"),dE P [79,118,101,114,102,108,111,119,69,114,114,111,114] 108 (.type "OverflowError"),dE P [90,101,114,111,68,105,118,105,115,105,111,110,69,114,114,111,114] 109 (.type "ZeroDivisionError"),dE P [66,121,116,101,115,87,97,114,110,105,110,103] 110 (.type "BytesWarning"),dE P [68,101,112,114,101,99,97,116,105,111,110,87,97,114,110,105,110,103] 111 (.type "DeprecationWarning"),dE P [69,110,99,111,100,105,110,103,87,97,114,110,105,110,103] 112 (.type "EncodingWarning"),dE P [70,117,116,117,114,101,87,97,114,110,105,110,103] 113 (.type "FutureWarning"),dE P [73,109,112,111,114,116,87,97,114,110,105,110,103] 114 (.type "ImportWarning"),dE P [80,101,110,100,105,110,103,68,101,112,114,101,99,97,116,105,111,110,87,97,114,110,105,110,103] 115 (.type "PendingDeprecationWarning"),dE P [82,101,115,111,117,114,99,101,87,97,114,110,105,110,103] 116 (.type "ResourceWarning"),dE P [82,117,110,116,105,109,101,87,97,114,110,105,110,103] 117 (.type "RuntimeWarning"),dE P [83,121,110,116,97,120,87,97,114,110,105,110,103] 118 (.type "SyntaxWarning"),dE P [85,110,105,99,111,100,101,87,97,114,110,105,110,103] 119 (.type "UnicodeWarning"),dE P [85,115,101,114,87,97,114,110,105,110,103] 120 (.type "UserWarning"),dE P [66,108,111,99,107,105,110,103,73,79,69,114,114,111,114] 121 (.type "BlockingIOError"),dE P [67,104,105,108,100,80,114,111,99,101,115,115,69,114,114,111,114] 122 (.type "ChildProcessError"),dE P [67,111,110,110,101,99,116,105,111,110,69,114,114,111,114] 123 (.type "ConnectionError"),dE P [70,105,108,101,69,120,105,115,116,115,69,114,114,111,114] 124 (.type "FileExistsError"),dE P [70,105,108,101,78,111,116,70,111,117,110,100,69,114,114,111,114] 125 (.type "FileNotFoundError"),dE P [73,110,116,101,114,114,117,112,116,101,100,69,114,114,111,114] 126 (.type "InterruptedError"),dE P [73,115,65,68,105,114,101,99,116,111,114,121,69,114,114,111,114] 127 (.type "IsADirectoryError"),dE P [78,111,116,65,68,105,114,101,99,116,111,114,121,69,114,114,111,114] 128 (.type "NotADirectoryError"),dE P [80,101,114,109,105,115,115,105,111,110,69,114,114,111,114] 129 (.type "PermissionError"),dE P [80,114,111,99,101,115,115,76,111,111,107,117,112,69,114,114,111,114] 130 (.type "ProcessLookupError"),dE P [84,105,109,101,111,117,116,69,114,114,111,114] 131 (.type "TimeoutError"),dE P [73,110,100,101,110,116,97,116,105,111,110,69,114,114,111,114] 132 (.type "IndentationError"),dE P [95,73,110,99,111,109,112,108,101,116,101,73,110,112,117,116,69,114,114,111,114] 133 (.type "_IncompleteInputError"),dE P [73,110,100,101,120,69,114,114,111,114] 134 (.type "IndexError"),dE P [75,101,121,69,114,114,111,114] 135 (.type "KeyError"),dE P [77,111,100,117,108,101,78,111,116,70,111,117,110,100,69,114,114,111,114] 136 (.type "ModuleNotFoundError"),dE P [78,111,116,73,109,112,108,101,109,101,110,116,101,100,69,114,114,111,114] 137 (.type "NotImplementedError"),dE P [80,121,116,104,111,110,70,105,110,97,108,105,122,97,116,105,111,110,69,114,114,111,114] 138 (.type "PythonFinalizationError"),dE P [82,101,99,117,114,115,105,111,110,69,114,114,111,114] 139 (.type "RecursionError"),dE P [85,110,98,111,117,110,100,76,111,99,97,108,69,114,114,111,114] 140 (.type "UnboundLocalError"),dE P [85,110,105,99,111,100,101,69,114,114,111,114] 141 (.type "UnicodeError"),dE P [66,114,111,107,101,110,80,105,112,101,69,114,114,111,114] 142 (.type "BrokenPipeError"),dE P [67,111,110,110,101,99,116,105,111,110,65,98,111,114,116,101,100,69,114,114,111,114] 143 (.type "ConnectionAbortedError"),dE P [67,111,110,110,101,99,116,105,111,110,82,101,102,117,115,101,100,69,114,114,111,114] 144 (.type "ConnectionRefusedError"),dE P [67,111,110,110,101,99,116,105,111,110,82,101,115,101,116,69,114,114,111,114] 145 (.type "ConnectionResetError"),dE P [84,97,98,69,114,114,111,114] 146 (.type "TabError"),dE P [85,110,105,99,111,100,101,68,101,99,111,100,101,69,114,114,111,114] 147 (.type "UnicodeDecodeError"),dE P [85,110,105,99,111,100,101,69,110,99,111,100,101,69,114,114,111,114] 148 (.type "UnicodeEncodeError"),dE P [85,110,105,99,111,100,101,84,114,97,110,115,108,97,116,101,69,114,114,111,114] 149 (.type "UnicodeTranslateError"),dE P [69,120,99,101,112,116,105,111,110,71,114,111,117,112] 150 (.type "ExceptionGroup"),dE P [69,110,118,105,114,111,110,109,101,110,116,69,114,114,111,114] 151 (.type "OSError"),dE P [73,79,69,114,114,111,114] 152 (.type "OSError")]++CC P 153 [("open",[111,112,101,110])]++[dE P [113,117,105,116] 154 (.builtin "builtins.quit#opaque"),dE P [101,120,105,116] 155 (.builtin "builtins.exit#opaque"),dE P [99,111,112,121,114,105,103,104,116] 156 (.builtin "builtins.copyright#opaque"),dE P [99,114,101,100,105,116,115] 157 (.builtin "builtins.credits#opaque"),dE P [108,105,99,101,110,115,101] 158 (.builtin "builtins.license#opaque"),dE P [104,101,108,112] 159 (.builtin "builtins.help#opaque")]).toArray 159,#[]⟩
noncomputable def Hr(P:Params):Obj:=⟨.none,none,.dict ([dE P [105,109,112,111,114,116,46,108,111,97,100,101,100,46,95,115,114,101] 183 (.bool true),dE P [99,108,97,115,115,46,95,102,114,111,122,101,110,95,105,109,112,111,114,116,108,105,98,46,66,117,105,108,116,105,110,73,109,112,111,114,116,101,114] 185 (.ref 14),dE P [119,97,116,99,104,101,100,46,105,109,112,111,114,116] 206 (.ref 18),dE P [99,108,97,115,115,46,95,102,114,111,122,101,110,95,105,109,112,111,114,116,108,105,98,46,77,111,100,117,108,101,83,112,101,99] 216 (.ref 22),dE P [115,121,115,46,109,111,100,117,108,101,115,46,98,111,111,107,101,100,45,101,112,111,99,104] 245 (.int 3 0),dE P [105,109,112,111,114,116,46,108,97,116,101,114,45,108,97,105,100,46,95,115,114,101] 270 (.bool true),dE P [119,97,116,99,104,101,100,46,108,105,98,114,97,114,121] 272 (.ref 27),dE P [119,97,116,99,104,101,100,46,108,105,98,114,97,114,121,45,111,98,106,101,99,116,115] 0 (.str (S [12]) 0),dE P [119,97,116,99,104,101,100,46,108,105,98,114,97,114,121,45,100,101,101,112,46,95,115,114,101] 273 (.str (S [4,0,0,11,4,0,0,11,4,0,0,3,4,0,0,11,8,4,100,105,99,116,2]) 0)]).toArray 9,#[]⟩
noncomputable def Hq(P:Params):Obj:=⟨.type "dict",none,.dict ([dE P [95,95,110,97,109,101,95,95] 165 (.str (S [108,97,119,95,116,97,48,49,49,54,95,48,50]) 721),dE P [95,95,100,111,99,95,95] 166 (.none),dE P [95,95,112,97,99,107,97,103,101,95,95] 167 (.none),dE P [95,95,108,111,97,100,101,114,95,95] 168 (.builtin "__main__.__loader__#opaque"),dE P [95,95,115,112,101,99,95,95] 169 (.none),dE P [95,95,97,110,110,111,116,97,116,105,111,110,115,95,95] 170 (.ref 6),dE P [95,95,98,117,105,108,116,105,110,115,95,95] 171 (.ref 4),dE P [95,95,102,105,108,101,95,95] 173 (.str (S [47,99,108,97,105,109,47,99,117,116,46,112,121]) 172),dE P [95,95,99,97,99,104,101,100,95,95] 174 (.none),dE P [95,115,114,101] 275 (.ref 12),dE P [95,119,97,108,108] 288 (.ref 38),dE P [95,68,73,86,95,76,73,77,73,84] 292 (.int 4000 291),dE P [95,100,105,118,50,110,49,110] 309 (.ref 45),dE P [95,100,105,118,51,110,50,110] 323 (.ref 52),dE P [95,105,110,116,50,100,105,103,105,116,115] 334 (.ref 59),dE P [95,100,105,103,105,116,115,50,105,110,116] 345 (.ref 66),dE P [95,100,105,118,109,111,100,95,112,111,115] 360 (.ref 73),dE P [105,110,116,95,100,105,118,109,111,100] 370 (.ref 80),dE P [114,103,98,95,116,111,95,104,108,115] 391 (.ref 87),dE P [114,103,98,95,116,111,95,104,115,118] 409 (.ref 94),dE P [104,115,118,95,116,111,95,114,103,98] 423 (.ref 101),dE P [95,105,116,101,114,95,101,115,99,97,112,101,100,95,99,104,97,114,115] 435 (.ref 108),dE P [95,115,116,114,105,112,95,113,117,111,116,101,100,95,114,101,97,108,110,97,109,101,115] 447 (.ref 115),dE P [95,99,104,101,99,107,95,112,97,114,101,110,116,104,101,115,105,115] 457 (.ref 122),dE P [116,115,112,101,99,105,97,108,115] 493 (.ref 127),dE P [95,110,97,109,101,95,100,105,115,97,108,108,111,119,101,100,95,114,101] 519 (.ref 132),dE P [95,118,97,108,117,101,95,100,105,115,97,108,108,111,119,101,100,95,114,101] 553 (.ref 137),dE P [95,102,111,114,109,97,116,112,97,114,97,109] 563 (.ref 145),dE P [72,101,97,100,101,114,115] 720 (.ref 266),dE P [95,108,97,119,95,116,119,105,115,116,101,100] 742 (.ref 277),dE P [95,108,97,119,95,110,117,109,98,101,114,115] 748 (.ref 282),dE P [108,97,119] 754 (.ref 287)]).toArray 32,#[]⟩
noncomputable def Hp(_:Params):Obj:=⟨.type "module",some 0,.plain,#[]⟩
noncomputable def BC(_:Params):Obj:=cO [95,100,105,118,50,110,49,110] [95,100,105,118,50,110,49,110] 293 7 3 0 3 39 true 307
noncomputable def BB(_:Params):Obj:=fO [95,100,105,118,50,110,49,110] (sA 4) (.none) (.str (S [99,112,121,51,49,51,46,95,112,121,108,111,110,103]) 289) 44
noncomputable def BA(_:Params):Obj:=⟨.none,none,.fields #[],#[]⟩
noncomputable def Bz(_:Params):Obj:=cO [95,105,110,116,50,100,105,103,105,116,115] [95,105,110,116,50,100,105,103,105,116,115] 324 33 2 0 3 53 true 332
noncomputable def By(_:Params):Obj:=fO [95,105,110,116,50,100,105,103,105,116,115] (sA 6) (.none) (.str (S [99,112,121,51,49,51,46,95,112,121,108,111,110,103]) 289) 58
noncomputable def Bx(_:Params):Obj:=⟨.none,none,.fields #[],#[]⟩
noncomputable def Bw(_:Params):Obj:=cO [95,100,105,103,105,116,115,50,105,110,116] [95,100,105,103,105,116,115,50,105,110,116] 335 49 2 0 3 60 true 343
noncomputable def Bv(_:Params):Obj:=fO [95,100,105,103,105,116,115,50,105,110,116] (sA 7) (.none) (.str (S [99,112,121,51,49,51,46,95,112,121,108,111,110,103]) 289) 65
noncomputable def Bu(_:Params):Obj:=cO [95,100,105,118,109,111,100,95,112,111,115] [95,100,105,118,109,111,100,95,112,111,115] 346 58 2 0 3 67 true 358
noncomputable def Bt(_:Params):Obj:=fO [95,100,105,118,109,111,100,95,112,111,115] (sA 8) (.none) (.str (S [99,112,121,51,49,51,46,95,112,121,108,111,110,103]) 289) 72
noncomputable def Bs(_:Params):Obj:=cO [105,110,116,95,100,105,118,109,111,100] [105,110,116,95,100,105,118,109,111,100] 361 69 2 0 3 74 true 368
noncomputable def Br(_:Params):Obj:=fO [105,110,116,95,100,105,118,109,111,100] (sA 9) (.none) (.str (S [99,112,121,51,49,51,46,95,112,121,108,111,110,103]) 289) 79
noncomputable def Bq(_:Params):Obj:=cO [114,103,98,95,116,111,95,104,108,115] [114,103,98,95,116,111,95,104,108,115] 373 81 3 0 3 81 true 389
noncomputable def Bp(_:Params):Obj:=fO [114,103,98,95,116,111,95,104,108,115] (sA 11) (.none) (.str (S [99,112,121,51,49,51,46,99,111,108,111,114,115,121,115]) 371) 86
noncomputable def Bo(_:Params):Obj:=cO [114,103,98,95,116,111,95,104,115,118] [114,103,98,95,116,111,95,104,115,118] 392 104 3 0 3 88 true 407
noncomputable def Bn(_:Params):Obj:=fO [114,103,98,95,116,111,95,104,115,118] (sA 12) (.none) (.str (S [99,112,121,51,49,51,46,99,111,108,111,114,115,121,115]) 371) 93
noncomputable def xN(_:Params):Obj:=cO [104,115,118,95,116,111,95,114,103,98] [104,115,118,95,116,111,95,114,103,98] 410 123 3 0 3 95 true 421
noncomputable def xM(_:Params):Obj:=fO [104,115,118,95,116,111,95,114,103,98] (sA 13) (.none) (.str (S [99,112,121,51,49,51,46,99,111,108,111,114,115,121,115]) 371) 100
noncomputable def xL(_:Params):Obj:=cO [95,105,116,101,114,95,101,115,99,97,112,101,100,95,99,104,97,114,115] [95,105,116,101,114,95,101,115,99,97,112,101,100,95,99,104,97,114,115] 426 145 1 0 35 102 true 433
noncomputable def xK(_:Params):Obj:=fO [95,105,116,101,114,95,101,115,99,97,112,101,100,95,99,104,97,114,115] (sA 15) (.none) (.str (S [99,112,121,51,49,51,46,101,109,97,105,108,46,117,116,105,108,115]) 424) 107
noncomputable def xJ(_:Params):Obj:=cO [95,115,116,114,105,112,95,113,117,111,116,101,100,95,114,101,97,108,110,97,109,101,115] [95,115,116,114,105,112,95,113,117,111,116,101,100,95,114,101,97,108,110,97,109,101,115] 436 158 1 0 3 109 true 445
noncomputable def xI(_:Params):Obj:=fO [95,115,116,114,105,112,95,113,117,111,116,101,100,95,114,101,97,108,110,97,109,101,115] (sA 16) (.none) (.str (S [99,112,121,51,49,51,46,101,109,97,105,108,46,117,116,105,108,115]) 424) 114
noncomputable def xH(_:Params):Obj:=cO [95,99,104,101,99,107,95,112,97,114,101,110,116,104,101,115,105,115] [95,99,104,101,99,107,95,112,97,114,101,110,116,104,101,115,105,115] 448 176 1 0 3 116 true 455
noncomputable def xG(_:Params):Obj:=fO [95,99,104,101,99,107,95,112,97,114,101,110,116,104,101,115,105,115] (sA 17) (.none) (.str (S [99,112,121,51,49,51,46,101,109,97,105,108,46,117,116,105,108,115]) 424) 121
noncomputable def xF(_:Params):Obj:=⟨.type "tuple",none,.seq #[.int 14 0,.int 10 0,.int 4 0,.int 1 0,.int 1 0,.int 22 0,.int 0 0,.int 31 0,.int 16 0,.int 127 0,.int 0 0,.int 13 0,.int 7 0,.int 22 0,.int 0 0,.int 31 0,.int 16 0,.int 127 0,.int 0 0,.int 1 0],#[]⟩
noncomputable def xE(_:Params):Obj:=⟨.type "re.Pattern",none,.fields #[.str (S [91,92,120,48,48,45,92,120,49,70,92,120,55,70,93]) 495,.int 32 518,.int 0 0,.none,.none,.ref 131,.int 0 0],#[]⟩
noncomputable def xD(_:Params):Obj:=⟨.type "tuple",none,.seq #[.int 14 0,.int 14 0,.int 4 0,.int 1 0,.int 1 0,.int 9 0,.int 4294966783 0,.int 0 0,.int 0 0,.int 2147483648 0,.int 0 0,.int 0 0,.int 0 0,.int 0 0,.int 0 0,.int 13 0,.int 11 0,.int 9 0,.int 4294966783 0,.int 0 0,.int 0 0,.int 2147483648 0,.int 0 0,.int 0 0,.int 0 0,.int 0 0,.int 0 0,.int 1 0],#[]⟩
noncomputable def xC(_:Params):Obj:=⟨.type "re.Pattern",none,.fields #[.str (S [91,92,120,48,48,45,92,120,48,56,92,120,48,65,45,92,120,49,70,92,120,55,70,93]) 521,.int 32 552,.int 0 0,.none,.none,.ref 136,.int 0 0],#[]⟩
noncomputable def xB(_:Params):Obj:=⟨.type "tuple",none,.seq #[.none],#[]⟩
noncomputable def xA(_:Params):Obj:=cO [95,95,105,110,105,116,95,95] [72,101,97,100,101,114,115,46,95,95,105,110,105,116,95,95] 576 202 2 0 3 154 true 583
noncomputable def xz(_:Params):Obj:=fO [72,101,97,100,101,114,115,46,95,95,105,110,105,116,95,95] (sC 0) (.ref 153) (.str (S [99,112,121,51,49,51,46,119,115,103,105,114,101,102,46,104,101,97,100,101,114,115]) 458) 159
noncomputable def xy(_:Params):Obj:=cO [95,99,111,110,118,101,114,116,95,115,116,114,105,110,103,95,116,121,112,101] [72,101,97,100,101,114,115,46,95,99,111,110,118,101,114,116,95,115,116,114,105,110,103,95,116,121,112,101] 586 212 2 1 3 161 true 593
noncomputable def xx(_:Params):Obj:=fO [72,101,97,100,101,114,115,46,95,99,111,110,118,101,114,116,95,115,116,114,105,110,103,95,116,121,112,101] (sC 1) (.none) (.str (S [99,112,121,51,49,51,46,119,115,103,105,114,101,102,46,104,101,97,100,101,114,115]) 458) 166
noncomputable def xv(_:Params):Obj:=cO [103,101,116,95,97,108,108] [72,101,97,100,101,114,115,46,103,101,116,95,97,108,108] 634 237 2 0 3 201 false 637
noncomputable def xu(_:Params):Obj:=fO [72,101,97,100,101,114,115,46,103,101,116,95,97,108,108] (sC 7) (.none) (.str (S [99,112,121,51,49,51,46,119,115,103,105,114,101,102,46,104,101,97,100,101,114,115]) 458) 204
noncomputable def xt(_:Params):Obj:=cO [97,100,100,95,104,101,97,100,101,114] [72,101,97,100,101,114,115,46,97,100,100,95,104,101,97,100,101,114] 699 269 3 0 11 257 true 709
noncomputable def xr(_:Params):Obj:=fO [72,101,97,100,101,114,115,46,97,100,100,95,104,101,97,100,101,114] (sC 16) (.none) (.str (S [99,112,121,51,49,51,46,119,115,103,105,114,101,102,46,104,101,97,100,101,114,115]) 458) 262
noncomputable def xq(P:Params):Obj:=⟨.type "dict",none,.dict ([dE P [95,95,109,111,100,117,108,101,95,95] 571 (.str (S [99,112,121,51,49,51,46,119,115,103,105,114,101,102,46,104,101,97,100,101,114,115]) 458),dE P [95,95,102,105,114,115,116,108,105,110,101,110,111,95,95] 575 (.int 200 574),dE P [95,95,105,110,105,116,95,95] 585 (.ref 160),dE P [95,99,111,110,118,101,114,116,95,115,116,114,105,110,103,95,116,121,112,101] 595 (.ref 167),dE P [95,95,108,101,110,95,95] 602 (.ref 174),dE P [95,95,115,101,116,105,116,101,109,95,95] 611 (.ref 181),dE P [95,95,100,101,108,105,116,101,109,95,95] 617 (.ref 186),dE P [95,95,103,101,116,105,116,101,109,95,95] 625 (.ref 193),dE P [95,95,99,111,110,116,97,105,110,115,95,95] 633 (.ref 200),dE P [103,101,116,95,97,108,108] 639 (.ref 205),dE P [103,101,116] 650 (.ref 213),dE P [107,101,121,115] 656 (.ref 218),dE P [118,97,108,117,101,115] 662 (.ref 223),dE P [105,116,101,109,115] 669 (.ref 230),dE P [95,95,114,101,112,114,95,95] 676 (.ref 237),dE P [95,95,115,116,114,95,95] 682 (.ref 242),dE P [95,95,98,121,116,101,115,95,95] 689 (.ref 249),dE P [115,101,116,100,101,102,97,117,108,116] 698 (.ref 256),dE P [97,100,100,95,104,101,97,100,101,114] 711 (.ref 263),dE P [95,95,115,116,97,116,105,99,95,97,116,116,114,105,98,117,116,101,115,95,95] 713 (.ref 264),dE P [95,95,100,105,99,116,95,95] 715 (.ref 267),dE P [95,95,119,101,97,107,114,101,102,95,95] 717 (.ref 268),dE P [95,95,100,111,99,95,95] 718 (.none)]).toArray 4,#[]⟩
noncomputable def xp(_:Params):Obj:=⟨.type "type",none,.cls {name:="Headers",bases:=[.type "object"],mro:=[.ref 266,.type "object"],ns:=265,qualname:="Headers"},#[none,none,some (.str (S [72,101,97,100,101,114,115]) 564),some (.str (S [72,101,97,100,101,114,115]) 572),some (.builtin "object.__new__"),some (.bool true)]⟩
noncomputable def xo(_:Params):Obj:=cO [95,108,97,119,95,116,119,105,115,116,101,100] [95,108,97,119,95,116,119,105,115,116,101,100] 723 283 3 0 3 271 true 740
noncomputable def xn(_:Params):Obj:=fO [95,108,97,119,95,116,119,105,115,116,101,100] (sA 25) (.none) (.str (S [108,97,119,95,116,97,48,49,49,54,95,48,50]) 721) 276
noncomputable def xm(_:Params):Obj:=cO [95,108,97,119,95,110,117,109,98,101,114,115] [95,108,97,119,95,110,117,109,98,101,114,115] 743 298 1 0 3 278 false 746
noncomputable def xl(_:Params):Obj:=fO [95,108,97,119,95,110,117,109,98,101,114,115] (sA 26) (.none) (.str (S [108,97,119,95,116,97,48,49,49,54,95,48,50]) 721) 281
noncomputable def xk(_:Params):Obj:=cO [108,97,119] [108,97,119] 749 305 1 0 3 283 false 752
noncomputable def xj(_:Params):Obj:=fO [108,97,119] (sA 27) (.none) (.str (S [108,97,119,95,116,97,48,49,49,54,95,48,50]) 721) 286
noncomputable def tr(P:Params):OT:=.node 114 (.node 72 (.node 54 (.node 4 (.node 2 (.leaf 0 (Hs P)) (.node 3 (.leaf 2 (Hr P)) (.leaf 3 (Hq P)))) (.node 44 (.leaf 4 (Hp P)) (.node 45 (.leaf 44 (BC P)) (.leaf 45 (BB P))))) (.node 61 (.node 58 (.leaf 54 (BA P)) (.node 59 (.leaf 58 (Bz P)) (.leaf 59 (By P)))) (.node 65 (.leaf 61 (Bx P)) (.node 66 (.leaf 65 (Bw P)) (.leaf 66 (Bv P)))))) (.node 93 (.node 80 (.node 73 (.leaf 72 (Bu P)) (.node 79 (.leaf 73 (Bt P)) (.leaf 79 (Bs P)))) (.node 86 (.leaf 80 (Br P)) (.node 87 (.leaf 86 (Bq P)) (.leaf 87 (Bp P))))) (.node 101 (.node 94 (.leaf 93 (Bo P)) (.node 100 (.leaf 94 (Bn P)) (.leaf 100 (xN P)))) (.node 107 (.leaf 101 (xM P)) (.node 108 (.leaf 107 (xL P)) (.leaf 108 (xK P))))))) (.node 167 (.node 136 (.node 122 (.node 115 (.leaf 114 (xJ P)) (.node 121 (.leaf 115 (xI P)) (.leaf 121 (xH P)))) (.node 131 (.leaf 122 (xG P)) (.node 132 (.leaf 131 (xF P)) (.leaf 132 (xE P))))) (.node 159 (.node 137 (.leaf 136 (xD P)) (.node 153 (.leaf 137 (xC P)) (.leaf 153 (xB P)))) (.node 160 (.leaf 159 (xA P)) (.node 166 (.leaf 160 (xz P)) (.leaf 166 (xy P)))))) (.node 266 (.node 262 (.node 204 (.leaf 167 (xx P)) (.node 205 (.leaf 204 (xv P)) (.leaf 205 (xu P)))) (.node 263 (.leaf 262 (xt P)) (.node 265 (.leaf 263 (xr P)) (.leaf 265 (xq P))))) (.node 281 (.node 276 (.leaf 266 (xp P)) (.node 277 (.leaf 276 (xo P)) (.leaf 277 (xn P)))) (.node 286 (.node 282 (.leaf 281 (xm P)) (.leaf 282 (xl P))) (.node 287 (.leaf 286 (xk P)) (.leaf 287 (xj P)))))))
noncomputable def CE:List Addr:=[0,2,3,4,44,45,54,58,59,61,65,66,72,73,79,80,86,87,93,94,100,101,107,108,114,115,121,122,131,132,136,137,153,159,160,166,167,204,205,262,263,265,266,276,277,281,282,286,287]
noncomputable def Kf(P:Params):Frag:=(tr P).list
theorem xW:∀P,CE=(Kf P).map (·.1):=fun P=>by rfl'
noncomputable def KH(h:Heap)(P:Params):Prop:=∀a o,(tr P).get a=some o→h.get? a=some o
noncomputable def qv:Program:={PySem.Challenge.pw_ta0116_02 with main:={PySem.Challenge.pw_ta0116_02.main with body:=[sA 0,sA 27]}}
noncomputable def lz:List Str:=(["_wall","_div2n1n","_div3n2n","_int2digits","_digits2int","_divmod_pos","int_divmod","rgb_to_hls","rgb_to_hsv","hsv_to_rgb","_iter_escaped_chars","_strip_quoted_realnames","_check_parenthesis","tspecials","_name_disallowed_re","_value_disallowed_re","_formatparam","Headers","_law_twisted","_law_numbers","_DIV_LIMIT"]:List String).map Str.ofString
noncomputable def dk:DefRec×List (Str×Expr):=match defOf qv PySem.Challenge.rw_ta0116_02.row.name with|some x=>x|none=>(⟨⟨#[]⟩,default,[],default,default⟩,[])
theorem GN:PySem.Challenge.rw_ta0116_02.wellSaid=true:=by
 rfl'
theorem hl:LeftO PySem.Challenge.rw_ta0116_02.row.prog qv lz (fun s=>xlAt qv [] s&&recOk (RowW.records PySem.Challenge.rw_ta0116_02.row.toRowW) s) (obsZ CE) (valZ Kf 288 755) 3294:=by
 intro w
 rfl'
noncomputable def Good(h₁:Heap)(os:OsState)(v:Value)(s':Shared):Prop:=v=.bool true∧OldK h₁ s'.heap∧s'.os=os∧AllBare s'.gens
theorem AB(H:∀(w:World) (h₁:Heap) (d:Drawn) (t:Nat) (os:OsState) (ns:List Int) (vs:List Value),IntsAre vs ns→ns.length≤63→
 KH h₁ w.params→h₁.objs.size=289→h₁.get? 288=some {cls:=.type "list",data:=.seq vs.toArray}→755≤t→
 wpAny (model PySem.Challenge.pw_ta0116_02 w) callerA (call (.ref 287) [.ref 288]) (Good h₁ os) (fun _ _=>False) ⟨h₁,#[],d,t,os⟩):PySem.Challenge.rw_ta0116_02.Holds:=by
 refine holds_law GN fun said=>?_
 refine holds_openX (q:=qv) (loose:=lz) (Xt:=fun s=>xlAt qv [] s&&recOk (RowW.records PySem.Challenge.rw_ta0116_02.row.toRowW) s) (XP:=XL qv []) (Yf:=obsZ CE) (Ya:=valZ Kf 288 755) (d:=dk.1) (kwd:=dk.2) (N:=3294) hl (fun s e=>xl_of s (Bool.and_eq_true_iff.mp e).1) XL.keeps (by rfl') (by rfl') (by rfl') (fun s e=>recFacts_of (Bool.and_eq_true_iff.mp e).2) (by rfl') said (by decide+kernel) ⟨rfl,rfl,rfl,rfl,rfl,by decide+kernel⟩ ?hw ?hc
 case hw=>w_witness2
 case hc=>
  intro w eu cG mg mb G y fa o pm cd doc dV kV ho hd hcd hD Ga hg args vals as L hpre hlay hrd hwl hlo
  obtain⟨ZA,ZI,ZN,ZT⟩:=z_facts xW y
  have keeps:=Laid.keeps L
  have KX:Frag.In (Kf w.params) cG.heap:=InK.keeps w eu.heap cG.heap ZI keeps
  have ZH:KH cG.heap w.params:=fun a o e=>keeps _ _ (OT.holds ZA e)
  clear ZA ZI keeps
  refine Ground.open G ?_
  intro T B D TE TW
  wrow_args hpre hlay hrd hwl hlo
  obtain⟨Gd,qY⟩:=script_at L
  have htk:=script_toks L ZT
  rw[ZN] at Gd qY
  subst Gd
  x_fa T KX Ga
  all_lens
  z_lists L
  clear Ga hcd ho hD
  rename IntsAre _ _=>hint
  have e:cG=⟨cG.heap,#[],cG.drawn,cG.toks,cG.os⟩:=by rw[←hg]
  have Z:=H w cG.heap cG.drawn cG.toks cG.os _ _ hint (by omega) ZH qY (by assumption) htk
  rw[←e] at Z
  refine wpAny_mono Z (fun v s' g=>?_) (fun _ _ g=>g.elim)
  obtain⟨rfl,hK,hos,hbare⟩:=g
  exact⟨.inl ⟨_,_,[],rfl,fun _=>rfl,ReadsW.bool true,by rfl',fun _=>⟨List.nodup_nil,fun _ hm=>(nomatch hm)⟩⟩,hK,hos,hbare⟩
noncomputable def i6(w:World)(vs:List Value)(a:Addr):Option Obj:=match Nat.beq a 54 with
 |true=>none
 |false=>match Nat.beq a 61 with
  |true=>none
  |false=>match Nat.beq a 288 with
   |true=>some {cls:=.type "list",data:=.seq vs.toArray}
   |false=>(tr w.params).get a
theorem i5{w:World}{vs:List Value}{h:Heap}(H:KH h w.params)(hl:h.get? 288=some {cls:=.type "list",data:=.seq vs.toArray}){a:Addr}{o:Obj}(e:i6 w vs a=some o):h.get? a=some o:=by
 unfold i6 at e
 split at e
 ·cases e
 ·split at e
  ·cases e
  ·split at e
   ·rename_i q
    cases e
    rw[Nat.eq_of_beq_eq_true q];exact hl
   ·exact H _ _ e
noncomputable def jm(ps:Array Value):Obj:=⟨.none,none,.fields ps,#[]⟩
noncomputable def fP(qual:List Nat)(v:Nat→Value)(tk:Nat):Obj:=⟨.type "code",none,.fields #[v 0,.str (S qual) tk,v 2,v 3,v 4,v 5,v 6,v 7,v 8,v 9,v 10,v 11,v 12,v 13,v 14,v 15,v 16,v 17,v 18],#[]⟩
noncomputable def io:List Nat:=[95,105,110,116,50,100,105,103,105,116,115,46,60,108,111,99,97,108,115,62,46,105,110,110,101,114]
noncomputable def im:List Nat:=[95,100,105,103,105,116,115,50,105,110,116,46,60,108,111,99,97,108,115,62,46,105,110,110,101,114]
noncomputable def mj(h:Heap)(P:Addr)(l c:Int)(q:List Nat):Prop:=∃ps,h.get? P=some (jm ps)∧(ps= #[]∨∃a v tk,ps= #[.int l 0,.int c 0,.ref a]∧289≤a∧h.get? a=some (fP q v tk))
theorem mj.keeps{h h':Heap}{P:Addr}{l c:Int}{q:List Nat}(t:mj h P l c q)(k:∀b o,b=P∨289≤b∧eH o=false→h.get? b=some o→h'.get? b=some o):mj h' P l c q:=
 let⟨ps,e,r⟩:=t
 ⟨ps,k _ _ (.inl rfl) e,match r with
  | .inl r=>.inl r
  | .inr ⟨a,v,tk,e1,e2,e3⟩=>.inr ⟨a,v,tk,e1,e2,k _ _ (.inr ⟨e2,rfl⟩) e3⟩⟩
structure hJ (h₁:Heap) (w:World) (vs:List Value) (h:Heap):Prop where
 old:OldK h₁ h
 st:∀a o,i6 w vs a=some o→h.get? a=some o
 lim:h.NoLimit
 t54:mj h 54 36 4 io
 t61:mj h 61 51 4 im
noncomputable def B2(w:World)(vs:List Value)(h₁:Heap)(hs:h₁.objs.size=289)(H:KH h₁ w.params)(hl:h₁.get? 288=some {cls:=.type "list",data:=.seq vs.toArray}):aQ where
 prog:=PySem.Challenge.pw_ta0116_02
 w:=w
 stat:=i6 w vs
 ro:=[]
 top:=289
 I:=hJ h₁ w vs
 push:=fun h o i=>⟨i.old.step_keeps fun _ _ e=>Heap.get?_push_of_some _ e,fun a o e=>Heap.get?_push_of_some _ (i.st a o e),i.lim.push o,i.t54.keeps fun _ _ _ e=>Heap.get?_push_of_some _ e,i.t61.keeps fun _ _ _ e=>Heap.get?_push_of_some _ e⟩
 upd:=fun h a f o ha ho hp i=>by
  have sb:Heap.SameBut a h (h.update a f):=Heap.SameBut.update ..
  refine⟨i.old.step_same (hs▸ha) sb,fun b o e=>(sb.2 b fun z=>?_).trans (i.st b o e),i.lim.sameBut sb (fun z=>absurd (z▸ha) (by decide)),
   i.t54.keeps fun b o' q e=>(sb.2 _ fun z=>?_).trans e,i.t61.keeps fun b o' q e=>(sb.2 _ fun z=>?_).trans e⟩
  ·have:=Heap.lt_size (i5 H hl e)
   rw[hs,z] at this
   exact absurd this (Nat.not_lt.mpr ha)
  ·rcases q with q|q
   ·exact absurd (z.symm.trans q▸ha) (by decide)
   ·rw[z,ho] at e;cases e;exact absurd (hp.symm.trans q.2) (by decide)
  ·rcases q with q|q
   ·exact absurd (z.symm.trans q▸ha) (by decide)
   ·rw[z,ho] at e;cases e;exact absurd (hp.symm.trans q.2) (by decide)
 hold:=fun h i=>i.st
 hro:=fun _ _ _ hp=>(nomatch hp)
 lim:=fun h i=>i.lim
structure W2 where
 w:World
 vs:List Value
 h₁:Heap
 hs:h₁.objs.size=289
 H:KH h₁ w.params
 hl:h₁.get? 288=some {cls:=.type "list",data:=.seq vs.toArray}
noncomputable def W2.B(x:W2):aQ:=B2 x.w x.vs x.h₁ x.hs x.H x.hl
noncomputable def Gx(k:Nat)(n:Nat):List Nat:=match k with
 |0=>[]
 |k+1=>match Nat.beq n 0 with
  |true=>[]
  |false=>(n%64-1)::Gx k (n/64)
termination_by structural k
noncomputable def dA(n:Nat):List Nat:=Gx 900 n
noncomputable def Gw(k:Nat)(n:Nat):List Bool:=match k with
 |0=>[]
 |k+1=>match Nat.beq n 1 with
  |true=>[]
  |false=>(Nat.beq (n%2) 1)::Gw k (n/2)
termination_by structural k
noncomputable def dM(n:Nat):List Bool:=Gw 400 n
inductive Op where
 |k
 |d
 |u (f:Obj→Obj)
noncomputable def d8(g5:List Op)(l:ae):ae:=match g5 with
 |[]=>l
 |o::g5=>match l with
  |[]=>[]
  |x::l=>match o with
   | .k=>x::d8 g5 l
   | .d=>d8 g5 l
   | .u f=>match x with
    |(a,o)=>(a,f o)::d8 g5 l
termination_by structural g5
noncomputable def GL(o:Op):Bool:=match o with
 | .d=>false
 |_=>true
noncomputable def vY(mk:List Bool)(g5:List Op):List Bool:=match mk with
 |[]=>g5.map GL
 |b::mk=>b::vY mk g5
noncomputable def nw(fE l:ae):ae:=match fE with
 |[]=>l
 |x::r=>x::nw r l
noncomputable def wL(i:Nat)(v:Value)(l:List DictEntry):List DictEntry:=match i with
 |0=>match l with
  |[]=>[]
  |e::l=>{e with val:=v}::l
 |i+1=>match l with
  |[]=>[]
  |e::l=>e::wL i v l
noncomputable def sF(s:List (Nat×Value))(l:List DictEntry):List DictEntry:=match s with
 |[]=>l
 |(i,v)::s=>sF s (wL i v l)
noncomputable def dU(s:List (Nat×Value))(adds:List DictEntry)(n:Nat)(o:Obj):Obj:=match o with
 |⟨c,d,dt,sl⟩=>match dt with
  | .dict es _=>⟨c,d,.dict ⟨(sF s es.toList)++adds⟩ n,sl⟩
  |_=>o
noncomputable abbrev oL(xs:Array Value)(n:Nat):Obj:=⟨.type "list",none,.seq xs n,#[]⟩
noncomputable abbrev oT(xs:Array Value):Obj:=⟨.type "tuple",none,.seq xs 0,#[]⟩
noncomputable abbrev oF(es:Array DictEntry)(n:Nat):Obj:=⟨.type "frame",none,.dict es n,#[]⟩
noncomputable abbrev oD(es:Array DictEntry)(n:Nat):Obj:=⟨.type "dict",none,.dict es n,#[]⟩
noncomputable abbrev oC(v:Option Value):Obj:=⟨.type "cell",none,.cell v,#[]⟩
noncomputable abbrev oI(c:String)(fs:Array Value):Obj:=⟨.type c,none,.fields fs,#[]⟩
noncomputable abbrev cB(id:String)(l:List Value):Code:=.call (.builtin id) ⟨l,[]⟩
noncomputable abbrev cR(a:Addr)(l:List Value):Code:=.call (.ref a) ⟨l,[]⟩
noncomputable abbrev aI(id:String)(l:List Value)(c:Int):dn:=⟨cB id l,fun t=>.int c t,1⟩
noncomputable abbrev aF(id:String)(l:List Value)(c:Int):dn:=⟨cB id l,fun t=>.float (fl c) t,1⟩
noncomputable abbrev aB(id:String)(l:List Value)(r:Bool):dn:=⟨cB id l,fun _=>.bool r,0⟩
section
variable {α:Type} {B:aQ} {A:Around} {N t₀:Nat} {Q:α→Shared→Prop} {E:Value→Shared→Prop} {t:Sem α} {tab:ae} {h:Heap} {gl:Array GenState} {d:Drawn} {os:OsState}
theorem ab(hh:A.handled=none)(R:Rep B N h tab 0)(ans:List dn)(n:Nat)(adv:List Nat)(mk:List Bool)(a:α)(fE:ae)(g5:List Op)(m i:Nat)
 (K:let T:=nw fE (d8 g5 tab);∀h' N' t',Rep B N' h' T 0→Q a ⟨h',gl,d,t',os⟩) (ha:cV B.prog B.w ans:=by exact aN)
  (e:view (cw B N t₀ ans n adv t tab) (vY mk g5)=⟨.val a,nw fE (d8 g5 tab),m,i,(cw B N t₀ ans n adv t tab).ob.map (·.2)⟩:=by rfl'):wpAny (MB B) A t Q E ⟨h,gl,d,t₀,os⟩:=
 bI hh R ans n adv _ a _ m i e ha K
theorem aa(hh:A.handled=none)(R:Rep B N h tab 0)(ans:List dn)(n:Nat)(adv:List Nat)(mk:List Bool)(c:Code)(fE:ae)(g5:List Op)(m i:Nat)
 (K:let T:=nw fE (d8 g5 tab);∀h' N' t',Rep B N' h' T 0→let k:=mf (cw B N t₀ ans n adv t tab).t;codeAny (MB B) A c (fun r s'=>wpAny (MB B) A (k r) Q E s') ⟨h',gl,d,t',os⟩) (ha:cV B.prog B.w ans:=by exact aN)
  (e:view (cw B N t₀ ans n adv t tab) (vY mk g5)=⟨.call c,nw fE (d8 g5 tab),m,i,(cw B N t₀ ans n adv t tab).ob.map (·.2)⟩:=by rfl'):wpAny (MB B) A t Q E ⟨h,gl,d,t₀,os⟩:=
 gj hh R ans n adv _ c _ m i e ha K
theorem gZ(hh:A.handled=none)(R:Rep B N h tab 0)(ans:List dn)(n:Nat)(adv:List Nat)(mk:List Bool)(a:Value)(fE:ae)(g5:List Op)(m i:Nat)
 (K:let T:=nw fE (d8 g5 tab);∀h' N' t',Rep B N' h' T 0→E a ⟨h',gl,d,t',os⟩) (ha:cV B.prog B.w ans:=by exact aN)
  (e:view (cw B N t₀ ans n adv t tab) (vY mk g5)=⟨.exc a,nw fE (d8 g5 tab),m,i,(cw B N t₀ ans n adv t tab).ob.map (·.2)⟩:=by rfl'):wpAny (MB B) A t Q E ⟨h,gl,d,t₀,os⟩:=
 pj hh R ans n adv _ a _ m i e ha K
theorem aX{P:Result→Shared→Prop}{c:Code}(hh:A.handled=none)(R:Rep B N h tab 0)(ans:List dn)(n:Nat)(adv:List Nat)(mk:List Bool)(r:Result)(fE:ae)(g5:List Op)(m i:Nat)
 (K:let T:=nw fE (d8 g5 tab);∀h' N' t',Rep B N' h' T 0→P r ⟨h',gl,d,t',os⟩) (ha:cV B.prog B.w ans:=by exact aN)
  (e:o2 (runC B N t₀ ans n adv c tab) (vY mk g5)=⟨some r,nw fE (d8 g5 tab),m,i,(runC B N t₀ ans n adv c tab).ob.map (·.2)⟩:=by rfl'):codeAny (MB B) A c P ⟨h,gl,d,t₀,os⟩:=
 bN hh R ans n adv _ r _ m i e ha K
theorem bE{R:Result→Shared→Prop}{f:Value}{args:Args}(hh:A.handled=none)(Rp:Rep B N h tab 0)(hd:A.depth<1000)(n:Nat)(adv:List Nat)(body:List Stmt)(bk:Env)(fE:ae)(m i:Nat)
 (e:i4 (run B N t₀ n adv (dB (.call f args)) tab) []=⟨PySem.W.R.bindR (PySem.W.ZFast.enterX 0) (fun _=>.pure (.again (.func body bk))),nw fE tab,m,i,(run B N t₀ n adv (dB (.call f args)) tab).ob.map (·.2)⟩)
 (K:let T:=nw fE tab;∀h' N' t',Rep B N' h' T 0→wpAny (MB B) (A.under (.func body bk)) (aj body bk) (fun f s'=>R (.ok (.ret (eT f))) s') (fun _ _=>False) ⟨h',gl,d,t',os⟩):
 codeAny (MB B) A (.call f args) R ⟨h,gl,d,t₀,os⟩:=
 enter hh Rp hd n adv [] body bk _ m i e K
end
noncomputable abbrev iC(es:Array DictEntry)(n:Nat)(sl:Array (Option Value)):Obj:=⟨.type "frame",none,.dict es n,sl⟩
noncomputable abbrev nW(u:Addr)(tb:Value):Obj:=⟨.type "ZeroDivisionError",none,.fields #[.ref u,tb,.none,.none,.bool false,.none],#[]⟩
noncomputable abbrev oY(ts:Array Value):Obj:=⟨.type "traceback",none,.fields ts,#[]⟩
section
variable {B:aQ} {A:Around} {h:Heap} {gl:Array GenState} {d:Drawn} {t:Nat} {os:OsState} {N n n':Nat} {L L' e u T:Addr} {es yF:Array DictEntry} {sl:Array (Option Value)} {rest:ae} {E:Value→Shared→Prop}
theorem pz{bk:Env}(hf:bk.frame=some L)(Rp:Rep B N h ((L,iC es n sl)::rest) 0){Q:Unit→Shared→Prop}
 (K:∀h' jS,Rep B N h' ((L,iC es n jS)::rest) 0→Q () ⟨h',gl,d,t,os⟩):wpAny (MB B) A (readyFrames [bk]) Q E ⟨h,gl,d,t,os⟩:=by
 have ho:h.get? L=some (iC es n sl):=Rp.at (n:=0) rfl
 simp only[readyFrames,hf]
 refine wpAny_bind (wpAny_load ho ?_)
 by_cases hr:(((iC es n sl).slots.getD 3 none).isSome)=true
 ·rw[if_pos hr];exact wpAny_pure (K _ _ Rp)
 ·rw[if_neg hr]
  refine wpAny_bind (wpAny_of_eq (a:=false) (by simp[behindIsImport]) ?_)
  refine wpAny_bind (wpAny_keptBack_nil fun kY=>?_)
  exact wpAny_bind (wpAny_update ho (wpAny_pure (K _ _ (Rp.upd (n:=0) (p:=(L,iC es n sl)) rfl rfl rfl))))
theorem tC{bk env':Env}(hk:bk.scope.kind≠.module)(hf:bk.frame=some L)(Cd:env'.frame=some L')(Rp:Rep B N h ((L,iC es n #[])::(L',iC yF n' sl)::rest) 0){Q:Unit→Shared→Prop}
 (K:∀h' zf jS,Rep B N h' ((L,iC es n zf)::(L',iC yF n' jS)::rest) 0→Q () ⟨h',gl,d,t,os⟩):wpAny (MB B) A (readyFrames [bk,env']) Q E ⟨h,gl,d,t,os⟩:=by
 have ho:h.get? L=some (iC es n #[]):=Rp.at (n:=0) rfl
 rw[readyFrames]
 simp only[hf]
 refine wpAny_bind (wpAny_load ho ?_)
 rw[if_neg (by simp)]
 refine wpAny_bind (wpAny_of_eq (a:=false) (by simp[behindIsImport,hk]) ?_)
 refine wpAny_bind (wpAny_keptBack_false fun kY=>?_)
 refine wpAny_bind (wpAny_update ho ?_)
 have q:=Rp.upd (n:=0) (p:=(L,iC es n #[])) (f:=fun o=>{o with slots:=#[some bk.code,some (.ref bk.globals),o.slots.getD 2 none,some kY,o.slots.getD 4 none,bk.func.map Value.ref,some (.ref bk.builtins)]++(bk.cells.map fun c=>some (.ref c.2)).toArray}) rfl rfl rfl
 exact pz Cd (q.perm (.swap _ _ _)) fun h' jS Rp=>K h' _ jS (Rp.perm (.swap _ _ _))
theorem mM{pl:List Value}(h:IsPlace pl)(a b c d' f:Value):(([a,b,c,d',f]++(if pl.isEmpty then List.replicate 6 Value.none else pl)).toArray).size=11:=by
 rcases h with rfl|⟨_,_,_,_,_,_,_,rfl⟩<;>rfl
theorem lJ{ts:Array Value}(h:ts.size=11):eH (oY ts)=true:=by
 unfold eH
 dsimp only
 rw[h]
theorem kg{head:Value}{hadNext:Bool}{R1:ae}(Rp:Rep B N h ((e,nW u head)::R1) 0){Q:Unit→Shared→Prop}
 (K:∀h' N' T ts,ts.size=11→Rep B N' h' ((T,oY ts)::(e,nW u (.ref T))::R1) 0→Q () ⟨h',gl,d,t,os⟩):
 wpAny (MB B) A (do setField (.ref e) 1 (←EntryCells.newEntry head (.ref L) .none (rawInt L) .none (←entryPlaceOf L hadNext))) Q E ⟨h,gl,d,t,os⟩:=by
 refine wpAny_bind (wpAny_entryPlaceOf fun pl v4=>?_)
 unfold EntryCells.newEntry newFields
 refine wpAny_bind (wpAny_newObj_type ?_ (v4.sizeOk5 _ _ _ _ _))
 have hs:=Rp.size
 have q:=(Rp.push (o:=oY ([head,.ref L,.none,rawInt L,.none]++(if pl.isEmpty then List.replicate 6 Value.none else pl)).toArray) rfl).flat
 have he:=q.at (n:=1) rfl
 refine wpAny_setField he rfl (by simp) ?_
 have q2:=q.upd (n:=1) (f:=Obj.mapFields (·.setIfInBounds 1 (Value.ref h.objs.size))) rfl rfl rfl
 refine K _ (N+(0+1)) h.objs.size _ (mM v4 head (.ref L) .none (rawInt L) .none) ?_
 rw[hs] at q2⊢
 exact q2
theorem ge{ts:Array Value}(mW:ts.size=11){R1:ae}(Rp:Rep B N h ((T,oY ts)::(e,nW u (.ref T))::R1) 0){Q:Unit→Shared→Prop}
 (K:∀h' s9,s9.size=11→s9[3]? =some .none→Rep B N h' ((T,oY s9)::(e,nW u (.ref T))::R1) 0→Q () ⟨h',gl,d,t,os⟩):
 wpAny (MB B) A (setFlight (.ref e) none) Q E ⟨h,gl,d,t,os⟩:=by
 have he:=Rp.at (n:=1) rfl
 have hT:=Rp.at (n:=0) rfl
 unfold setFlight
 refine wpAny_bind (wpAny_field he rfl (x:=.ref T) rfl ?_)
 rw[if_pos (show(Value.ref T !=Value.none)=true from by simp)]
 refine wpAny_setField hT rfl (by exact AV mW) ?_
 refine K _ (ts.setIfInBounds 3 .none) (by simp[mW]) (by rw[Array.getElem?_setIfInBounds_self_of_lt (by exact AV mW)]) ?_
 exact Rp.upd (n:=0) (f:=Obj.mapFields (·.setIfInBounds 3 Value.none)) rfl (lJ mW) rfl
theorem tR{bk env':Env}(gv:A.frames=some [bk,env'])(hk:bk.scope.kind≠.module)(hf:bk.frame=some L)(Cd:env'.frame=some L')
 (Rp:Rep B N h ((L,iC es n #[])::(L',iC yF n' sl)::(e,nW u .none)::rest) 0) {Q:Unit→Shared→Prop}
 (K:∀h' N' jS T ts,ts.size=11→ts[3]? =some .none→Rep B N' h' ((T,oY ts)::(e,nW u (.ref T))::(L',iC yF n' jS)::rest) 0→Q () ⟨h',gl,d,t,os⟩):
 wpAny (MB B) A (leaving bk (.ref e)) Q E ⟨h,gl,d,t,os⟩:=by
 unfold leaving noteFrame
 simp only[hf]
 have he:=Rp.at (n:=2) rfl
 refine wpAny_bind (wpAny_bind (wpAny_field he rfl (x:=.none) rfl ?_))
 rw[if_neg (by decide)]
 unfold PySem.frameOf
 refine wpAny_bind (wpAny_bind (wpAny_frameEnvs gv ?_))
 have Ce:([bk,env'].dropWhile fun x=>x.frame !=bk.frame)=[bk,env']:=by simp[List.dropWhile]
 rw[Ce]
 unfold frameObject
 refine wpAny_bind (wpAny_bind (tC hk hf Cd Rp fun h1 zf jS Rp=>wpAny_pure ?_))
 rw[hf]
 refine wpAny_pure ?_
 have Rp:Rep B N h1 ((e,nW u .none)::(L,iC es n zf)::(L',iC yF n' jS)::rest) 0:=Rp.perm (List.perm_middle (l₁:=[_,_]))
 refine kg Rp fun h2 N2 T ts mW Rp=>?_
 refine ge mW Rp fun h3 s9 hts' Gi Rp=>?_
 exact K _ _ _ _ _ hts' Gi (Rp.sub (.cons_cons _ (.cons_cons _ (.cons _ (.refl _)))))
theorem xR{bk:Env}(gv:A.frames=some [bk])(hf:bk.frame=some L){ts:Array Value}(mW:ts.size=11)(h3:ts[3]? =some .none)
 (Rp:Rep B N h ((T,oY ts)::(e,nW u (.ref T))::(L,iC es n sl)::rest) 0) {Q:Unit→Shared→Prop}
 (K:∀h' N' jS T ts,ts.size=11→Rep B N' h' ((T,oY ts)::(e,nW u (.ref T))::(L,iC es n jS)::rest) 0→Q () ⟨h',gl,d,t,os⟩):
 wpAny (MB B) A (noteFrame (.ref e) bk) Q E ⟨h,gl,d,t,os⟩:=by
 unfold noteFrame
 simp only[hf]
 have he:=Rp.at (n:=1) rfl
 have hT:=Rp.at (n:=0) rfl
 refine wpAny_bind (wpAny_field he rfl (x:=.ref T) rfl ?_)
 rw[if_pos (show(Value.ref T !=Value.none)=true from by simp)]
 refine wpAny_bind (wpAny_field hT rfl h3 ?_)
 rw[if_neg (show¬((Value.none==rawInt L)=true) from by simp[rawInt])]
 refine wpAny_bind (wpAny_setField hT rfl (by exact AV mW) ?_)
 have Rp:=Rp.upd (n:=0) (f:=Obj.mapFields (·.setIfInBounds 3 Value.none)) rfl (lJ mW) rfl
 have Rp:Rep B N _ ((L,iC es n sl)::(e,nW u (.ref T))::rest) 0:=(Rp.sub (.cons _ (.refl _))).perm (.swap _ _ _)
 unfold PySem.frameOf
 refine wpAny_bind (wpAny_bind (wpAny_frameEnvs gv ?_))
 have Ce:([bk].dropWhile fun x=>x.frame !=bk.frame)=[bk]:=by simp[List.dropWhile]
 rw[Ce]
 unfold frameObject
 refine wpAny_bind (wpAny_bind (pz hf Rp fun h1 jS Rp=>wpAny_pure ?_))
 rw[hf]
 refine wpAny_pure ?_
 exact kg (Rp.perm (.swap _ _ _)) fun h2 N2 T ts mW Rp=>K _ _ _ _ _ mW Rp
end
noncomputable def pN(B:aQ)(A:Around)(bk:Env)(R:Result→Shared→Prop)(e:Value)(s:Shared):Prop:=wpAny (MB B) A (leaving bk e) (fun _ s'=>R (.error e) s') (fun e s'=>R (.error e) s') s
theorem m9{B:aQ}{A:Around}{R:Result→Shared→Prop}{body:List Stmt}{bk:Env}{s:Shared}
 (h:wpAny (MB B) (A.under (.func body bk)) (execs body bk) (fun f s'=>R (.ok (.ret (eT f))) s') (pN B (A.under (.func body bk)) bk R) s):codeAny (MB B) A (.func body bk) R s:=by
 refine x_code ?_
 show wpAny _ _ (point >>= fun _=>((execs body bk).onRaise (leaving bk)) >>= fun f=>match f with| .ret v=>ret v|_=>ret .none) _ _ _
 refine wpAny_bind (wpAny_point (wpAny_bind (wpAny_onRaise (wpAny_mono h (fun f s' q=>?_) fun _ _ q=>q))))
 cases f<;>exact wpAny_pure q
theorem uM{B:aQ}{A:Around}{R:Result→Shared→Prop}{N t₀:Nat}{tab:ae}{h:Heap}{gl:Array GenState}{d:Drawn}{os:OsState}{f:Value}{args:Args}
 (hh:A.handled=none) (Rp:Rep B N h tab 0) (hd:A.depth<recursionLimit) (n:Nat) (adv:List Nat) (bL:List Bool) (body:List Stmt) (bk:Env) (aR:ae) (m i:Nat)
 (e:i4 (run B N t₀ n adv (dB (.call f args)) tab) bL=⟨PySem.W.R.bindR (PySem.W.ZFast.enterX 0) (fun _=>.pure (.again (.func body bk))),aR,m,i,(run B N t₀ n adv (dB (.call f args)) tab).ob.map (·.2)⟩)
 (K:∀h' N' t',Rep B N' h' aR 0→wpAny (MB B) (A.under (.func body bk)) (aj body bk) (fun f s'=>R (.ok (.ret (eT f))) s') (pN B (A.under (.func body bk)) bk R) ⟨h',gl,d,t',os⟩):
 codeAny (MB B) A (.call f args) R ⟨h,gl,d,t₀,os⟩:=by
 refine af ?_
 generalize hx:run B N t₀ n adv (dB (.call f args)) tab=x at e
 unfold i4 at e
 injection e with e1 e2 e3 e4 e5
 refine(cM (V:=tO B N t₀) (B:=B) n).T PySem.Fin _ _ _ _ tab 0 0 [] adv h gl d os x (kH B (A:=A.under (.call f args)) hh N t₀) Rp hx (gS.of_map e5) fun h' R'=>?_
 rw[e1,←PySem.W.R.bindR_eq,←PySem.W.ZFast.enterX_eq]
 have jE:(A.under (.call f args)).depth<recursionLimit:=hd
 refine wpAny_bind (m:=enterFrame 0) (f:=fun _=>(Sem.pure (PySem.Fin.again (.func body bk)):Sem PySem.Fin)) ?_
 refine wpAny_enterFrame (B.lim _ R'.inv) jE ?_
 refine wpAny_pure ⟨rfl,m9 ?_⟩
 rw[cX]
 exact K h' (N+x.m) _ (e2▸(R'.sub (dd _ bL)).flat)
section
variable {α:Type} {B:aQ} {A:Around} {N t₀:Nat} {Q:α→Shared→Prop} {E:Value→Shared→Prop} {t:Sem α} {tab:ae} {h:Heap} {gl:Array GenState} {d:Drawn} {os:OsState}
noncomputable def tN(B:aQ)(N t₀:Nat)(ans:List dn)(hd:Option Value):EV:=⟨fun b=>⟨B.prog,B.ps b⟩,B.stat,B.ro,N,t₀,hd,dB,ans⟩
theorem rI(B:aQ){A:Around}{hd:Option Value}(hh:A.handled=hd)(N t₀:Nat){ans:List dn}(ha:cV B.prog B.w ans):(tN B N t₀ ans hd).Ok B B.prog B.w A:=⟨B.ps_ok,rfl,rfl,hh.symm,fI.symm,ha⟩
noncomputable abbrev pq(B:aQ)(N t₀:Nat)(ans:List dn)(hd:Option Value)(n:Nat)(adv:List Nat){α:Type}(t:Sem α)(tab:ae):oZ α:=(ev (tN B N t₀ ans hd) n).T α t tab 0 0 [] adv
theorem ph(hd:Option Value)(hh:A.handled=hd)(R:Rep B N h tab 0)(ans:List dn)(n:Nat)(adv:List Nat)(bL:List Bool)(a:α)(aR:ae)(m i:Nat)
 (e:view (pq B N t₀ ans hd n adv t tab) bL=⟨.val a,aR,m,i,(pq B N t₀ ans hd n adv t tab).ob.map (·.2)⟩) (ha:cV B.prog B.w ans)
 (K:∀h' N' t',Rep B N' h' aR 0→Q a ⟨h',gl,d,t',os⟩):wpAny (MB B) A t Q E ⟨h,gl,d,t₀,os⟩:=by
 generalize hx:pq B N t₀ ans hd n adv t tab=x at e
 unfold view at e
 injection e with e1 e2 e3 e4 e5
 refine(cM (V:=tN B N t₀ ans hd) (B:=B) n).T α A Q E t tab 0 0 [] adv h gl d os x (rI B hh N t₀ ha) R hx (gS.of_map e5) fun h' R'=>?_
 have hv:x.t=.pure a:=by
  cases q:x.t<;>rw[q] at e1<;>unfold jf at e1<;>first|(cases e1;done)|(injection e1 with e1;rw[e1])|(dsimp only at e1;split at e1<;>cases e1)
 rw[hv]
 exact wpAny_pure (K h' (N+x.m) _ (e2▸(R'.sub (dd _ bL)).flat))
end
noncomputable def fN:Expr→Env→Sem Value:=PySem.W.ZFast.zw14044960220447912780
theorem jg:eval=fN:=PySem.W.ZFast.ze14044960220447912780
set_option backward.match.sparseCases false
noncomputable def wx:Stmt→List Stmt
 | .Try b _ _ _ _=>b
 |_=>[]
noncomputable def te:Stmt→ExceptHandler
 | .Try _ (x::_) _ _ _=>x
 |_=>.ExceptHandler none none [] default
noncomputable def Cu:ExceptHandler→Expr
 | .ExceptHandler (some t) _ _ _=>t
 |_=>default
noncomputable def Cw:ExceptHandler→List Stmt
 | .ExceptHandler _ _ b _=>b
noncomputable def Cv:ExceptHandler→Pos
 | .ExceptHandler _ _ _ p=>p
noncomputable def At:Stmt→Pos
 | .Try _ _ _ _ p=>p
 |_=>default
noncomputable abbrev mE(s:Stmt):List Stmt:=Cw (te s)
noncomputable abbrev wv(s:Stmt):Expr:=Cu (te s)
noncomputable abbrev ww(s:Stmt):Stmt:=.Try (wx s) [.ExceptHandler (some (wv s)) none ((mE s).headD default::(mE s).tail) (Cv (te s))] [] [] (At s)
set_option backward.match.sparseCases true
section
variable {B:aQ} {A:Around} {bk:Env} {L:Addr} {s:Stmt}
noncomputable def vf(B:aQ)(A:Around)(bk:Env)(L:Addr)(s:Stmt)(Q:Flow→Shared→Prop)(e:Value)(cG:Shared):Prop:=
 ∃(a u T:Addr) (ts:Array Value) (es:Array DictEntry) (n:Nat) (sl:Array (Option Value)) (rest:ae) (N t:Nat) (h:Heap) (gl:Array GenState) (d:Drawn) (os:OsState),e=.ref a∧ts.size=11∧ts[3]? =some .none∧
  Rep B N h ((T,oY ts)::(a,nW u (.ref T))::(L,iC es n sl)::rest) 0∧cG=⟨h,gl,d,t,os⟩∧
  (∀h' N' t' jS T' s9,Rep B N' h' ((T',oY s9)::(a,nW u (.ref T'))::(L,iC es n jS)::rest) 0→wpAny (MB B) (A.mark (some (.ref a))) (fN (wv s) bk) (fun c dj=>c=.type "ZeroDivisionError"∧∃h'' N'' t'',Rep B N'' h'' ((T',oY s9)::(a,nW u (.ref T'))::(L,iC es n jS)::rest) 0∧dj=⟨h'',gl,d,t'',os⟩) noX ⟨h',gl,d,t',os⟩)∧
  ∀h' N' t' jS,Rep B N' h' ((L,iC es n jS)::rest) 0→wpAny (MB B) (A.mark (some (.ref a))) (aj (mE s) bk) Q noX ⟨h',gl,d,t',os⟩
where noX:Value→Shared→Prop:=fun _ _=>False
theorem mF{l:List Stmt}{Q:Flow→Shared→Prop}{E:Value→Shared→Prop}{eu:Shared}(hl:l=[s])(ht:s=ww s)(gv:A.frames=some [bk])(hf:bk.frame=some L)
 (h:wpAny (MB B) A (aj (wx s) bk) Q (vf B A bk L s Q) eu):wpAny (MB B) A (aj l bk) Q E eu:=by
 subst hl
 have hT:mE s=(mE s).headD default::(mE s).tail:=congrArg mE ht
 rw[←cX] at h⊢
 rw[ht]
 show wpAny (MB B) A (exec (ww s) bk >>= fun f=>match f with| .next=>execs [] bk|f=>pure f) Q E eu
 refine wpAny_bind (wpAny_Try_except (wpAny_mono h (fun f cG q=>?_) fun e cG q=>?_))
 ·cases f<;>first|exact wpAny_pure (wpAny_pure q)|exact wpAny_pure q
 ·obtain⟨a,u,T,ts,es,n,sl,rest,N,tk,hp',gl,d,os,rfl,mW,h3,Rp,rfl,ht,hb⟩:=q
  refine xR gv hf mW h3 Rp fun h1 N1 zf T1 ts1 hts1 Rp=>?_
  refine ge hts1 Rp fun h2 ts2 hts2 h32 Rp=>?_
  refine wpAny_handleBy_builtin (X:="ZeroDivisionError") (T:="ZeroDivisionError") (b:=true) (by rw[isSubtype_type];kernel_rfl) (by rw[isSubtype_type];kernel_rfl) (by rw[isSubtype_type];kernel_rfl) ?_
  have ht:=ht _ _ tk _ _ _ Rp
  rw[←jg] at ht
  refine wpAny_mono ht (fun c dj q=>?_) fun _ _ q=>q.elim
  obtain⟨rfl,Gi,N3,t3,Rp,rfl⟩:=q
  refine⟨rfl,⟨_,Rp.at (n:=1) rfl,rfl⟩,?_⟩
  rw[if_pos rfl]
  refine ge hts2 Rp fun h4 ts4 hts4 h34 Rp=>?_
  have hb:=hb _ _ t3 _ (Rp.sub (.cons _ (.cons _ (.refl _))))
  rw[←cX,hT] at hb
  refine wpAny_mono hb (fun f dj q=>?_) fun _ _ q=>q.elim
  cases f<;>exact wpAny_pure q
end
section
variable {α:Type} {B:aQ} {A:Around} {N t₀:Nat} {Q:α→Shared→Prop} {E:Value→Shared→Prop} {t:Sem α} {tab:ae} {h:Heap} {gl:Array GenState} {d:Drawn} {os:OsState}
theorem dJ(hd:Option Value)(hh:A.handled=hd)(R:Rep B N h tab 0)(ans:List dn)(n:Nat)(adv:List Nat)(mk:List Bool)(a:α)(fE:ae)(g5:List Op)(m i:Nat)
 (e:view (pq B N t₀ ans hd n adv t tab) (vY mk g5)=⟨.val a,nw fE (d8 g5 tab),m,i,(pq B N t₀ ans hd n adv t tab).ob.map (·.2)⟩) (ha:cV B.prog B.w ans)
 (K:let T:=nw fE (d8 g5 tab);∀h' N' t',Rep B N' h' T 0→Q a ⟨h',gl,d,t',os⟩):wpAny (MB B) A t Q E ⟨h,gl,d,t₀,os⟩:=
 ph hd hh R ans n adv _ a _ m i e ha K
end
noncomputable def nC(j:Int)(tc u v:Nat)(P Q T:Int):Array Value:=
 if j=0 then#[.int 1 tc,.float (fl T) v,.float (fl P) u] else if j=1 then#[.float (fl Q) v,.int 1 tc,.float (fl P) u]
 else if j=2 then#[.float (fl P) u,.int 1 tc,.float (fl T) v] else if j=3 then#[.float (fl P) u,.float (fl Q) v,.int 1 tc]
 else if j=4 then#[.float (fl T) v,.float (fl P) u,.int 1 tc] else#[.int 1 tc,.float (fl P) u,.float (fl Q) v]
theorem B5(x:W2)(A:Around)(hh:A.handled=none)(hA:A.depth<900)(R:Result→Shared→Prop)(k S q F G j:Int)(aO:0≤k)(hk:k<2^21)(hF:96*k=q*2^24+F)(jy:0≤F)(jx:F<2^24)(hj:q%6=j)
 (ot:0<S) (j9:S≤2^24) (hG:S*F=G*2^24) (Gh:S*(2^24-F)=(S-G)*2^24) (lW:0≤G) (qg:G≤S)
 (ta tb tc:Nat) (N t:Nat) (h:Heap) (gl d os) (rest:ae) (Rp:Rep x.B N h rest 0)
 (K:∀h' N' t' a u v,Rep x.B N' h' ((a,⟨.type "tuple",none,.seq (nC j tc (u+1) (v+1) (2^24-S) (2^24-G) (2^24- (S-G))) 0,#[]⟩)::rest) 0→R (.ok (.ret (.ref a))) ⟨h',gl,d,t',os⟩):
 codeAny (MB x.B) A (.call (.ref 101) ⟨[.float (fl (16*k)) ta,.float (fl S) tb,.int 1 tc],[]⟩) R ⟨h,gl,d,t,os⟩:=by
 refine bE hh Rp (by exact n7 hA) 26 (dA 0x86086086041) (am (fdOf x.B 101)) (envOf (fdOf x.B 101) 101 (N+0)) [(N+0,oF #[En x.B HA (t+0) (.float (fl (16*k)) ta),En x.B mA (t+1) (.float (fl S) tb),En x.B Hw (t+2) (.int 1 tc)] 3)] 1 3 (by rfl') ?_
 intro bT h1 N1 t1 Rp
 refine bS 7 ?_
 refine ab hh Rp [aB "float.__eq__" [.float (fl S) tb,.float 0 (t1+0)] false,aF "float.__mul__" [.float (fl (16*k)) ta,.float 4618441417868443648 (t1+1)] (96*k),aI "float.__int__" [.float (fl (96*k)) (t1+2)] (q),aF "float.__mul__" [.float (fl (16*k)) ta,.float 4618441417868443648 (t1+5)] (96*k),aF "float.__sub__" [.float (fl (96*k)) (t1+6),.int (q) (t1+3)] (F),aF "float.__sub__" [.float 4607182418800017408 (t1+9),.float (fl S) tb] (2^24-S),aF "float.__rmul__" [.float (fl (2^24-S)) (t1+10),.int 1 tc] (2^24-S),aF "float.__mul__" [.float (fl S) tb,.float (fl F) (t1+7)] (G),aF "float.__sub__" [.float 4607182418800017408 (t1+13),.float (fl G) (t1+14)] (2^24-G),aF "float.__rmul__" [.float (fl (2^24-G)) (t1+15),.int 1 tc] (2^24-G),aF "float.__sub__" [.float 4607182418800017408 (t1+19),.float (fl F) (t1+7)] (2^24-F),aF "float.__mul__" [.float (fl S) tb,.float (fl (2^24-F)) (t1+20)] (S-G),aF "float.__sub__" [.float 4607182418800017408 (t1+18),.float (fl (S-G)) (t1+21)] (2^24- (S-G)),aF "float.__rmul__" [.float (fl (2^24- (S-G))) (t1+22),.int 1 tc] (2^24- (S-G)),aI "int.__mod__" [.int (q) (t1+3),.int 6 (t1+25)] (j)] 154 (dA 0x864060863c138d3061860862c12891861821880471860861861460860440410c6041086) [] Flow.next [] [.u (dU [] [En x.B Hz (t1+4) (.int (j) (t1+26)),En x.B HB (t1+8) (.float (fl F) (t1+7)),En x.B Hy (t1+12) (.float (fl (2^24-S)) (t1+11)),En x.B BF (t1+17) (.float (fl (2^24-G)) (t1+16)),En x.B Hx (t1+24) (.float (fl (2^24- (S-G))) (t1+23))] 8)] 0 28 ?_ (aC (di (b:=(0)) rfl (by exact zF ot j9) (by decide+kernel) (by unfold ag;decide) (decide_eq_false (by exact vO ot))) (aC (gB (b:=(100663296)) rfl (by decide+kernel) (by exact ER aO hk) (by unfold ag;decide) (by exact zE aO hk) (by exact gF aO) (by decide) (by exact EQ)) (aC (aV rfl (by exact zE aO hk) (by omega) (by omega)) (aC (gB (b:=(100663296)) rfl (by decide+kernel) (by exact ER aO hk) (by unfold ag;decide) (by exact zE aO hk) (by exact gF aO) (by decide) (by exact EQ)) (aC (fw rfl (by exact zE aO hk) (by unfold ag;omega) (by exact gM jy jx) (by omega)) (aC (aK (a:=(16777216)) (by decide+kernel) rfl (by unfold ag;decide) (by exact zF ot j9) (by exact AZ ot j9) (by exact sM)) (aC (a9 rfl (by exact AZ ot j9) (by unfold ag;decide) (by exact AZ ot j9) (by omega) (by decide) (by exact EP)) (aC (gB rfl rfl (by exact zF ot j9) (by exact gM jy jx) (by exact EO j9 lW qg) (by exact qS ot) (by exact fn jy) (by first|omega|assumption)) (aC (aK (a:=(16777216)) (by decide+kernel) rfl (by unfold ag;decide) (by exact EO j9 lW qg) (by exact AY j9 lW qg) (by exact sM)) (aC (a9 rfl (by exact AY j9 lW qg) (by unfold ag;decide) (by exact AY j9 lW qg) (by omega) (by decide) (by exact EP)) (aC (aK (a:=(16777216)) (by decide+kernel) rfl (by unfold ag;decide) (by exact gM jy jx) (by exact lh jy jx) (by exact sM)) (aC (gB rfl rfl (by exact zF ot j9) (by exact lh jy jx) (by exact EN j9 lW qg) (by exact qS ot) (by exact tJ jx) (by first|omega|assumption)) (aC (aK (a:=(16777216)) (by decide+kernel) rfl (by unfold ag;decide) (by exact EN j9 lW qg) (by exact AX j9 lW qg) (by omega)) (aC (a9 rfl (by exact AX j9 lW qg) (by unfold ag;decide) (by exact AX j9 lW qg) (by omega) (by decide) (by first|omega|assumption)) (aC (aG (by decide) (by rw[Int.fmod_eq_emod_of_nonneg _ (by decide)];omega)) aN)))))))))))))))
 intro bW h2 N2 t2 Rp
 have rU:0≤j:=by omega
 have hj5:j<6:=by omega
 rcases(by omega:j=0∨j=1∨j=2∨j=3∨j=4∨j=5) with z|z|z|z|z|z
 all_goals clear hj rU hj5 aO hk hF jy jx ot j9 hG Gh lW qg
 all_goals subst z
 ·show wpAny _ _ (aj ..) ..
  refine ab hh Rp [] 29 (dA 0x6186046) (dM 3) (Flow.ret (.ref (N2+0))) [(N2+0,oT #[.int 1 tc,.float (fl (2^24- (S-G))) (t1+23),.float (fl (2^24-S)) (t1+11)])] [.d] 1 1 ?_
  intro cC h3 N3 t3 Rp
  exact K _ _ _ _ _ _ Rp
 ·show wpAny _ _ (aj ..) ..
  refine ab hh Rp [] 38 (dA 0x6186046046) (dM 3) (Flow.ret (.ref (N2+0))) [(N2+0,oT #[.float (fl (2^24-G)) (t1+16),.int 1 tc,.float (fl (2^24-S)) (t1+11)])] [.d] 1 2 ?_
  intro cC h3 N3 t3 Rp
  exact K _ _ _ _ _ _ Rp
 ·show wpAny _ _ (aj ..) ..
  refine ab hh Rp [] 47 (dA 0x6186046046046) (dM 3) (Flow.ret (.ref (N2+0))) [(N2+0,oT #[.float (fl (2^24-S)) (t1+11),.int 1 tc,.float (fl (2^24- (S-G))) (t1+23)])] [.d] 1 3 ?_
  intro cC h3 N3 t3 Rp
  exact K _ _ _ _ _ _ Rp
 ·show wpAny _ _ (aj ..) ..
  refine ab hh Rp [] 56 (dA 0x6186046046046046) (dM 3) (Flow.ret (.ref (N2+0))) [(N2+0,oT #[.float (fl (2^24-S)) (t1+11),.float (fl (2^24-G)) (t1+16),.int 1 tc])] [.d] 1 4 ?_
  intro cC h3 N3 t3 Rp
  exact K _ _ _ _ _ _ Rp
 ·show wpAny _ _ (aj ..) ..
  refine ab hh Rp [] 65 (dA 0x6186046046046046046) (dM 3) (Flow.ret (.ref (N2+0))) [(N2+0,oT #[.float (fl (2^24- (S-G))) (t1+23),.float (fl (2^24-S)) (t1+11),.int 1 tc])] [.d] 1 5 ?_
  intro cC h3 N3 t3 Rp
  exact K _ _ _ _ _ _ Rp
 ·show wpAny _ _ (aj ..) ..
  refine ab hh Rp [] 74 (dA 0x6186046046046046046046) (dM 3) (Flow.ret (.ref (N2+0))) [(N2+0,oT #[.int 1 tc,.float (fl (2^24-S)) (t1+11),.float (fl (2^24-G)) (t1+16)])] [.d] 1 6 ?_
  intro cC h3 N3 t3 Rp
  exact K _ _ _ _ _ _ Rp
end Mine
namespace Mine
open PySem
inductive eX:Value→Prop
 |int (i t):eX (.int i t)
 |float (x t):eX (.float x t)
end Mine
namespace Mine
open PySem PySem.W PySem.W.X PyProof.Rows PySem.Spec PySem.Calls
theorem jK(x:W2)(A:Around)(hh:A.handled=none)(hA:A.depth<900)(R:Result→Shared→Prop)(X Y m S gc bc W Z:Int)
 (cZ:0≤X) (kO:X≤2^24) (du:0≤Y) (fH:Y≤2^24) (m1:m≤X) (m2:m≤Y) (m3:m=X∨m=Y) (m4:m<2^24) (hS:S=2^24-m)
 (uv:(2^24-X)*2^24=gc*S) (dH:0≤gc) (dG:gc≤2^24) (qd:(2^24-Y)*2^24=bc*S) (cL:0≤bc) (cK:bc≤2^24) (hW:bc-gc=W*6) (hZ:(if W<0 then W+2^24 else W)=Z)
 (ta tb tc:Nat) (N t:Nat) (h:Heap) (gl d os) (rest:ae) (Rp:Rep x.B N h rest 0)
 (K:∀h' N' t' a u v w,eX w→Rep x.B N' h' ((a,⟨.type "tuple",none,.seq #[.float (fl Z) u,.float (fl S) v,w] 0,#[]⟩)::rest) 0→R (.ok (.ret (.ref a))) ⟨h',gl,d,t',os⟩):
 codeAny (MB x.B) A (.call (.ref 94) ⟨[.int 1 ta,.float (fl X) tb,.float (fl Y) tc],[]⟩) R ⟨h,gl,d,t,os⟩:=by
 refine bE hh Rp (by exact n7 hA) 26 (dA 0x86086086041) (am (fdOf x.B 94)) (envOf (fdOf x.B 94) 94 (N+0)) [(N+0,oF #[En x.B iS (t+0) (.int 1 ta),En x.B mQ (t+1) (.float (fl X) tb),En x.B fT (t+2) (.float (fl Y) tc)] 3)] 1 3 (by rfl') ?_
 intro bT h1 N1 t1 Rp
 refine aa hh Rp [] 22 (dA 0x6186041) [] (cB "max" [.int 1 ta,.float (fl X) tb,.float (fl Y) tc]) [] [] 0 0 ?_
 intro bW h2 N2 t2 Rp dK
 refine nM hh Rp (by exact fn cZ) (by exact mw kO) (by exact fn du) (by exact mw fH) fun h1 N1 t1 Rp=>?_
 refine aa hh Rp [] 30 (dA 0x6186041086) [] (cB "min" [.int 1 ta,.float (fl X) tb,.float (fl Y) tc]) [] [.u (dU [] [En x.B dD (t1+0) (.int 1 ta)] 4)] 0 1 ?_
 intro cC h3 N3 t3 Rp eD
 refine nL (m:=m) hh Rp (by exact fn cZ) (by exact mw kO) (by exact fn du) (by exact mw fH) (by exact mu m1) (by exact mu m2) (by exact vN m3) (by exact qV m4) fun h2 N2 t2 u2 Rp=>?_
 refine ab hh Rp [aF "float.__rsub__" [.float (fl m) u2,.int 1 ta] (S),aB "float.__eq__" [.float (fl m) u2,.int 1 ta] false,aF "float.__truediv__" [.float (fl S) (t2+1),.int 1 ta] (S),aF "float.__rtruediv__" [.float (fl S) (t2+1),.int 0 (t2+6)] (0),aF "float.__rsub__" [.float (fl X) tb,.int 1 ta] (2^24-X),aF "float.__truediv__" [.float (fl (2^24-X)) (t2+9),.float (fl S) (t2+1)] (gc),aF "float.__rsub__" [.float (fl Y) tc,.int 1 ta] (2^24-Y),aF "float.__truediv__" [.float (fl (2^24-Y)) (t2+12),.float (fl S) (t2+1)] (bc),aF "float.__sub__" [.float (fl bc) (t2+13),.float (fl gc) (t2+10)] ((bc)- (gc)),aF "float.__truediv__" [.float (fl (bc-gc)) (t2+15),.float 4618441417868443648 (t2+17)] (W),aF "float.__mod__" [.float (fl W) (t2+18),.float 4607182418800017408 (t2+19)] (Z)] 190 (dA 0x618608630b18218a1860461821891880461821871860461821850460461821841860c6182186086081186086) (dM 3) (Flow.ret (.ref (N2+0))) [(N2+0,oT #[.float (fl Z) (t2+20),.float (fl S) (t2+4),.int 1 ta])] [.d] 1 22 ?_ (aC (ao rfl (by exact D5 cZ du m3 m4) (by unfold ag;decide) (by exact vJ cZ du m3 m4 hS) (by exact vM hS)) (aC (cU rfl (by exact D5 cZ du m3 m4) (decide_eq_false (by exact oR m4))) (aC (iA rfl (by exact vJ cZ du m3 m4 hS) (by unfold ag;decide) (by exact vJ cZ du m3 m4 hS) (by decide) (by exact A1)) (aC (eg rfl (by exact vJ cZ du m3 m4 hS) (by unfold ag;decide) (by unfold ag;decide) (by exact gW m4 hS) (by exact vL)) (aC (ao rfl (by exact dR cZ kO) (by unfold ag;decide) (by exact ms cZ kO) (by exact oQ)) (aC (ak rfl rfl (by exact ms cZ kO) (by exact vJ cZ du m3 m4 hS) (by exact dR dH dG) (by exact gW m4 hS) (by exact mz uv)) (aC (ao rfl (by exact dR du fH) (by unfold ag;decide) (by exact ms du fH) (by exact oQ)) (aC (ak rfl rfl (by exact ms du fH) (by exact vJ cZ du m3 m4 hS) (by exact dR cL cK) (by exact gW m4 hS) (by exact mz qd)) (aC (aK rfl rfl (by exact dR cL cK) (by exact dR dH dG) (by exact zT dH dG cL cK) (by exact Fs)) (aC (ak (b:=(100663296)) rfl (by decide+kernel) (by exact zT dH dG cL cK) (by unfold ag;decide) (by exact Fq dH dG cL cK hW) (by decide) (by exact Fp hW)) (aC (dy rfl (by decide+kernel) (by exact Fo dG cL hW) (by exact Fn dH cK hW) (by first|assumption|(rw[if_pos (by omega)];first|done|omega)|(rw[if_neg (by omega)];first|done|omega))) aN)))))))))))
 intro db h4 N4 t4 Rp
 refine K _ _ _ _ _ _ _ ?_ Rp
 first|exact .int _ _|exact .float _ _
theorem jL(x:W2)(A:Around)(hh:A.handled=none)(hA:A.depth<900)(R:Result→Shared→Prop)(X Y m S rc bc W Z:Int)
 (cZ:0≤X) (kO:X≤2^24) (du:0≤Y) (fH:Y≤2^24) (m1:m≤X) (m2:m≤Y) (m3:m=X∨m=Y) (m4:m<2^24) (hS:S=2^24-m) (bR:X<2^24)
 (p9:(2^24-X)*2^24=rc*S) (co:0≤rc) (cm:rc≤2^24) (qd:(2^24-Y)*2^24=bc*S) (cL:0≤bc) (cK:bc≤2^24) (hW:2*2^24+rc-bc=W*6) (hZ:(if W<0 then W+2^24 else W)=Z)
 (ta tb tc:Nat) (N t:Nat) (h:Heap) (gl d os) (rest:ae) (Rp:Rep x.B N h rest 0)
 (K:∀h' N' t' a u v w,eX w→Rep x.B N' h' ((a,⟨.type "tuple",none,.seq #[.float (fl Z) u,.float (fl S) v,w] 0,#[]⟩)::rest) 0→R (.ok (.ret (.ref a))) ⟨h',gl,d,t',os⟩):
 codeAny (MB x.B) A (.call (.ref 94) ⟨[.float (fl X) ta,.int 1 tb,.float (fl Y) tc],[]⟩) R ⟨h,gl,d,t,os⟩:=by
 refine bE hh Rp (by exact n7 hA) 26 (dA 0x86086086041) (am (fdOf x.B 94)) (envOf (fdOf x.B 94) 94 (N+0)) [(N+0,oF #[En x.B iS (t+0) (.float (fl X) ta),En x.B mQ (t+1) (.int 1 tb),En x.B fT (t+2) (.float (fl Y) tc)] 3)] 1 3 (by rfl') ?_
 intro bT h1 N1 t1 Rp
 refine aa hh Rp [] 22 (dA 0x6186041) [] (cB "max" [.float (fl X) ta,.int 1 tb,.float (fl Y) tc]) [] [] 0 0 ?_
 intro bW h2 N2 t2 Rp dK
 refine jX hh Rp (by exact fn cZ) (by exact jr bR) (by exact fn du) (by exact mw fH) (by exact qV bR) fun h1 N1 t1 Rp=>?_
 refine aa hh Rp [] 30 (dA 0x6186041086) [] (cB "min" [.float (fl X) ta,.int 1 tb,.float (fl Y) tc]) [] [.u (dU [] [En x.B dD (t1+0) (.int 1 tb)] 4)] 0 1 ?_
 intro cC h3 N3 t3 Rp eD
 refine iT (m:=m) hh Rp (by exact fn cZ) (by exact jr bR) (by exact fn du) (by exact mw fH) (by exact mu m1) (by exact mu m2) (by omega) fun h2 N2 t2 u2 Rp=>?_
 refine ab hh Rp [aF "float.__rsub__" [.float (fl m) u2,.int 1 tb] (S),aB "float.__eq__" [.float (fl m) u2,.int 1 tb] false,aF "float.__truediv__" [.float (fl S) (t2+1),.int 1 tb] (S),aF "float.__rsub__" [.float (fl X) ta,.int 1 tb] (2^24-X),aF "float.__truediv__" [.float (fl (2^24-X)) (t2+6),.float (fl S) (t2+1)] (rc),aF "float.__rtruediv__" [.float (fl S) (t2+1),.int 0 (t2+9)] (0),aF "float.__rsub__" [.float (fl Y) tc,.int 1 tb] (2^24-Y),aF "float.__truediv__" [.float (fl (2^24-Y)) (t2+12),.float (fl S) (t2+1)] (bc),aB "float.__eq__" [.float (fl X) ta,.int 1 tb] false,aF "float.__add__" [.float 4611686018427387904 (t2+15),.float (fl rc) (t2+7)] ((33554432)+(rc)),aF "float.__sub__" [.float (fl (33554432+rc)) (t2+16),.float (fl bc) (t2+13)] ((33554432+rc)- (bc)),aF "float.__truediv__" [.float (fl (33554432+rc-bc)) (t2+17),.float 4618441417868443648 (t2+19)] (W),aF "float.__mod__" [.float (fl W) (t2+20),.float 4607182418800017408 (t2+21)] (Z)] 201 (dA 0x618608638d18218c18b1811862861821891880461821870460461821861850461821841860c6182186086081186086) (dM 3) (Flow.ret (.ref (N2+0))) [(N2+0,oT #[.float (fl Z) (t2+22),.float (fl S) (t2+4),.int 1 tb])] [.d] 1 24 ?_ (aC (ao rfl (by unfold ag;omega) (by unfold ag;decide) (by unfold ag;omega) (by exact vM hS)) (aC (cU rfl (by unfold ag;omega) (decide_eq_false (by exact oR m4))) (aC (iA rfl (by unfold ag;omega) (by unfold ag;decide) (by unfold ag;omega) (by decide) (by exact A1)) (aC (ao rfl (by exact gM cZ bR) (by unfold ag;decide) (by exact lh cZ bR) (by exact oQ)) (aC (ak rfl rfl (by exact lh cZ bR) (by unfold ag;omega) (by exact dR co cm) (by exact gW m4 hS) (by exact mz p9)) (aC (eg rfl (by unfold ag;omega) (by unfold ag;decide) (by unfold ag;decide) (by exact gW m4 hS) (by exact vL)) (aC (ao rfl (by exact dR du fH) (by unfold ag;decide) (by exact ms du fH) (by exact oQ)) (aC (ak rfl rfl (by exact ms du fH) (by unfold ag;omega) (by exact dR cL cK) (by exact gW m4 hS) (by exact mz qd)) (aC (cU rfl (by exact gM cZ bR) (decide_eq_false (by exact oR bR))) (aC (dL (a:=(33554432)) (by decide+kernel) rfl (by unfold ag;decide) (by exact dR co cm) (by exact sL co cm) (by exact zS)) (aC (aK rfl rfl (by exact sL co cm) (by exact dR cL cK) (by exact zR co cm cL cK) (by exact Fm)) (aC (ak (b:=(100663296)) rfl (by decide+kernel) (by exact zR co cm cL cK) (by unfold ag;decide) (by exact Es co cm cL cK hW) (by decide) (by exact Er hW)) (aC (dy rfl (by decide+kernel) (by exact Ep co cK hW) (by exact Eo cm cL hW) (by first|assumption|(rw[if_pos (by omega)];first|done|omega)|(rw[if_neg (by omega)];first|done|omega))) aN)))))))))))))
 intro db h4 N4 t4 Rp
 refine K _ _ _ _ _ _ _ ?_ Rp
 first|exact .int _ _|exact .float _ _
theorem nY(x:W2)(A:Around)(hh:A.handled=none)(hA:A.depth<900)(R:Result→Shared→Prop)(X Y m S bc W Z:Int)
 (cZ:0≤X) (kO:X≤2^24) (du:0≤Y) (fH:Y≤2^24) (m1:m≤X) (m2:m≤Y) (m3:m=X∨m=Y) (m4:m<2^24) (hS:S=2^24-m) (bR:X=2^24)
 (qd:(2^24-Y)*2^24=bc*S) (cL:0≤bc) (cK:bc≤2^24) (hW:bc=W*6) (hZ:(if W<0 then W+2^24 else W)=Z)
 (ta tb tc:Nat) (N t:Nat) (h:Heap) (gl d os) (rest:ae) (Rp:Rep x.B N h rest 0)
 (K:∀h' N' t' a u v w,eX w→Rep x.B N' h' ((a,⟨.type "tuple",none,.seq #[.float (fl Z) u,.float (fl S) v,w] 0,#[]⟩)::rest) 0→R (.ok (.ret (.ref a))) ⟨h',gl,d,t',os⟩):
 codeAny (MB x.B) A (.call (.ref 94) ⟨[.float (fl X) ta,.int 1 tb,.float (fl Y) tc],[]⟩) R ⟨h,gl,d,t,os⟩:=by
 have hd:S*2^24=S*X:=by rw[bR]
 refine bE hh Rp (by exact n7 hA) 26 (dA 0x86086086041) (am (fdOf x.B 94)) (envOf (fdOf x.B 94) 94 (N+0)) [(N+0,oF #[En x.B iS (t+0) (.float (fl X) ta),En x.B mQ (t+1) (.int 1 tb),En x.B fT (t+2) (.float (fl Y) tc)] 3)] 1 3 (by rfl') ?_
 intro bT h1 N1 t1 Rp
 refine aa hh Rp [] 22 (dA 0x6186041) [] (cB "max" [.float (fl X) ta,.int 1 tb,.float (fl Y) tc]) [] [] 0 0 ?_
 intro bW h2 N2 t2 Rp dK
 refine jY hh Rp (by exact sK bR) (by exact sJ bR) (by exact fn du) (by exact mw fH) (by exact zQ bR) fun h1 N1 t1 Rp=>?_
 refine aa hh Rp [] 30 (dA 0x6186041086) [] (cB "min" [.float (fl X) ta,.int 1 tb,.float (fl Y) tc]) [] [.u (dU [] [En x.B dD (t1+0) (.float (fl X) ta)] 4)] 0 1 ?_
 intro cC h3 N3 t3 Rp eD
 refine iT (m:=m) hh Rp (by exact sK bR) (by exact sJ bR) (by exact fn du) (by exact mw fH) (by exact zP m4 bR) (by exact mu m2) (by exact vN m3) fun h2 N2 t2 u2 Rp=>?_
 refine ab hh Rp [aF "float.__sub__" [.float (fl X) ta,.float (fl m) u2] (S),aB "float.__eq__" [.float (fl m) u2,.float (fl X) ta] false,aF "float.__truediv__" [.float (fl S) (t2+1),.float (fl X) ta] (S),aF "float.__sub__" [.float (fl X) ta,.float (fl X) ta] (0),aF "float.__truediv__" [.float 0 (t2+6),.float (fl S) (t2+1)] (0),aF "float.__sub__" [.float (fl X) ta,.int 1 tb] (0),aF "float.__truediv__" [.float 0 (t2+9),.float (fl S) (t2+1)] (0),aF "float.__sub__" [.float (fl X) ta,.float (fl Y) tc] (2^24-Y),aF "float.__truediv__" [.float (fl (2^24-Y)) (t2+12),.float (fl S) (t2+1)] (bc),aB "float.__eq__" [.float (fl X) ta,.float (fl X) ta] true,aF "float.__sub__" [.float (fl bc) (t2+13),.float 0 (t2+10)] ((bc)- (0)),aF "float.__truediv__" [.float (fl (bc-0)) (t2+15),.float 4618441417868443648 (t2+17)] (W),aF "float.__mod__" [.float (fl W) (t2+18),.float 4607182418800017408 (t2+19)] (Z)] 166 (dA 0x618608638d18218c1862c618218a1891860862061c6182186185186086106183186086182182186086) (dM 3) (Flow.ret (.ref (N2+0))) [(N2+0,oT #[.float (fl Z) (t2+20),.float (fl S) (t2+4),.float (fl X) ta])] [.d] 1 22 ?_ (aC (aK rfl rfl (by exact eS bR) (by exact D4 du m3 m4 bR) (by exact vI du m3 m4 hS bR) (by exact zO hS bR)) (aC (di (b:=(X)) rfl (by exact D4 du m3 m4 bR) rfl (by exact eS bR) (decide_eq_false (by exact vK m4 bR))) (aC (ak rfl rfl (by exact vI du m3 m4 hS bR) (by exact eS bR) (by exact vI du m3 m4 hS bR) (by exact D3 bR) (by exact D2 hd)) (aC (aK rfl rfl (by exact eS bR) (by exact eS bR) (by unfold ag;decide) (by exact zN)) (aC (ak (a:=(0)) (by decide+kernel) rfl (by unfold ag;decide) (by exact vI du m3 m4 hS bR) (by unfold ag;decide) (by exact gW m4 hS) (by exact sI)) (aC (fw rfl (by exact eS bR) (by unfold ag;decide) (by unfold ag;decide) (by exact zM bR)) (aC (ak (a:=(0)) (by decide+kernel) rfl (by unfold ag;decide) (by exact vI du m3 m4 hS bR) (by unfold ag;decide) (by exact gW m4 hS) (by exact sI)) (aC (aK rfl rfl (by exact eS bR) (by exact dR du fH) (by exact ms du fH) (by exact zL bR)) (aC (ak rfl rfl (by exact ms du fH) (by exact vI du m3 m4 hS bR) (by exact dR cL cK) (by exact gW m4 hS) (by exact mz qd)) (aC (di (b:=(X)) rfl (by exact eS bR) rfl (by exact eS bR) (decide_eq_true (by exact zK))) (aC (aK (b:=(0)) rfl (by decide+kernel) (by exact dR cL cK) (by unfold ag;decide) (by exact zJ cL cK) (by exact Ek)) (aC (ak (b:=(100663296)) rfl (by decide+kernel) (by exact zJ cL cK) (by unfold ag;decide) (by exact Ej cL cK hW) (by decide) (by exact Ei hW)) (aC (dy rfl (by decide+kernel) (by exact Eh cL hW) (by exact Eg cK hW) (by first|assumption|(rw[if_pos (by omega)];first|done|omega)|(rw[if_neg (by omega)];first|done|omega))) aN)))))))))))))
 intro db h4 N4 t4 Rp
 refine K _ _ _ _ _ _ _ ?_ Rp
 first|exact .int _ _|exact .float _ _
theorem jM(x:W2)(A:Around)(hh:A.handled=none)(hA:A.depth<900)(R:Result→Shared→Prop)(X Y m S rc gc W Z:Int)
 (cZ:0≤X) (kO:X≤2^24) (du:0≤Y) (fH:Y≤2^24) (m1:m≤X) (m2:m≤Y) (m3:m=X∨m=Y) (m4:m<2^24) (hS:S=2^24-m) (bR:X<2^24) (cY:Y<2^24)
 (p9:(2^24-X)*2^24=rc*S) (co:0≤rc) (cm:rc≤2^24) (uv:(2^24-Y)*2^24=gc*S) (dH:0≤gc) (dG:gc≤2^24) (hW:4*2^24+gc-rc=W*6) (hZ:(if W<0 then W+2^24 else W)=Z)
 (ta tb tc:Nat) (N t:Nat) (h:Heap) (gl d os) (rest:ae) (Rp:Rep x.B N h rest 0)
 (K:∀h' N' t' a u v w,eX w→Rep x.B N' h' ((a,⟨.type "tuple",none,.seq #[.float (fl Z) u,.float (fl S) v,w] 0,#[]⟩)::rest) 0→R (.ok (.ret (.ref a))) ⟨h',gl,d,t',os⟩):
 codeAny (MB x.B) A (.call (.ref 94) ⟨[.float (fl X) ta,.float (fl Y) tb,.int 1 tc],[]⟩) R ⟨h,gl,d,t,os⟩:=by
 refine bE hh Rp (by exact n7 hA) 26 (dA 0x86086086041) (am (fdOf x.B 94)) (envOf (fdOf x.B 94) 94 (N+0)) [(N+0,oF #[En x.B iS (t+0) (.float (fl X) ta),En x.B mQ (t+1) (.float (fl Y) tb),En x.B fT (t+2) (.int 1 tc)] 3)] 1 3 (by rfl') ?_
 intro bT h1 N1 t1 Rp
 refine aa hh Rp [] 22 (dA 0x6186041) [] (cB "max" [.float (fl X) ta,.float (fl Y) tb,.int 1 tc]) [] [] 0 0 ?_
 intro bW h2 N2 t2 Rp dK
 refine jZ hh Rp (by exact fn cZ) (by exact jr bR) (by exact fn du) (by exact jr cY) (by exact qV bR) (by exact qV cY) fun h1 N1 t1 Rp=>?_
 refine aa hh Rp [] 30 (dA 0x6186041086) [] (cB "min" [.float (fl X) ta,.float (fl Y) tb,.int 1 tc]) [] [.u (dU [] [En x.B dD (t1+0) (.int 1 tc)] 4)] 0 1 ?_
 intro cC h3 N3 t3 Rp eD
 refine iU (m:=m) hh Rp (by exact fn cZ) (by exact jr bR) (by exact fn du) (by exact jr cY) (by exact mu m1) (by exact mu m2) (by omega) fun h2 N2 t2 u2 Rp=>?_
 refine ab hh Rp [aF "float.__rsub__" [.float (fl m) u2,.int 1 tc] (S),aB "float.__eq__" [.float (fl m) u2,.int 1 tc] false,aF "float.__truediv__" [.float (fl S) (t2+1),.int 1 tc] (S),aF "float.__rsub__" [.float (fl X) ta,.int 1 tc] (2^24-X),aF "float.__truediv__" [.float (fl (2^24-X)) (t2+6),.float (fl S) (t2+1)] (rc),aF "float.__rsub__" [.float (fl Y) tb,.int 1 tc] (2^24-Y),aF "float.__truediv__" [.float (fl (2^24-Y)) (t2+9),.float (fl S) (t2+1)] (gc),aF "float.__rtruediv__" [.float (fl S) (t2+1),.int 0 (t2+12)] (0),aB "float.__eq__" [.float (fl X) ta,.int 1 tc] false,aB "float.__eq__" [.float (fl Y) tb,.int 1 tc] false,aF "float.__add__" [.float 4616189618054758400 (t2+15),.float (fl gc) (t2+10)] ((67108864)+(gc)),aF "float.__sub__" [.float (fl (67108864+gc)) (t2+16),.float (fl rc) (t2+7)] ((67108864+gc)- (rc)),aF "float.__truediv__" [.float (fl (67108864+gc-rc)) (t2+17),.float 4618441417868443648 (t2+19)] (W),aF "float.__mod__" [.float (fl W) (t2+20),.float 4607182418800017408 (t2+21)] (Z)] 199 (dA 0x61860863ce18218d18c18b1862861821890460461821881870461821861850461821841860c6182186086081186086) (dM 3) (Flow.ret (.ref (N2+0))) [(N2+0,oT #[.float (fl Z) (t2+22),.float (fl S) (t2+4),.int 1 tc])] [.d] 1 24 ?_ (aC (ao rfl (by unfold ag;omega) (by unfold ag;decide) (by unfold ag;omega) (by exact vM hS)) (aC (cU rfl (by unfold ag;omega) (decide_eq_false (by exact oR m4))) (aC (iA rfl (by unfold ag;omega) (by unfold ag;decide) (by unfold ag;omega) (by decide) (by exact A1)) (aC (ao rfl (by exact gM cZ bR) (by unfold ag;decide) (by exact lh cZ bR) (by exact oQ)) (aC (ak rfl rfl (by exact lh cZ bR) (by unfold ag;omega) (by exact dR co cm) (by exact gW m4 hS) (by exact mz p9)) (aC (ao rfl (by exact gM du cY) (by unfold ag;decide) (by exact lh du cY) (by exact oQ)) (aC (ak rfl rfl (by exact lh du cY) (by unfold ag;omega) (by exact dR dH dG) (by exact gW m4 hS) (by exact mz uv)) (aC (eg rfl (by unfold ag;omega) (by unfold ag;decide) (by unfold ag;decide) (by exact gW m4 hS) (by exact vL)) (aC (cU rfl (by exact gM cZ bR) (decide_eq_false (by exact oR bR))) (aC (cU rfl (by exact gM du cY) (decide_eq_false (by exact oR cY))) (aC (dL (a:=(67108864)) (by decide+kernel) rfl (by unfold ag;decide) (by exact dR dH dG) (by exact zI dH dG) (by exact Ef)) (aC (aK rfl rfl (by exact zI dH dG) (by exact dR co cm) (by exact zH co cm dH dG) (by exact Ee)) (aC (ak (b:=(100663296)) rfl (by decide+kernel) (by exact zH co cm dH dG) (by unfold ag;decide) (by exact Ed co cm dH dG hW) (by decide) (by exact Ec hW)) (aC (dy rfl (by decide+kernel) (by exact Eb cm dH hW) (by exact Ea co dG hW) (by first|assumption|(rw[if_pos (by omega)];first|done|omega)|(rw[if_neg (by omega)];first|done|omega))) aN))))))))))))))
 intro db h4 N4 t4 Rp
 refine K _ _ _ _ _ _ _ ?_ Rp
 first|exact .int _ _|exact .float _ _
theorem nZ(x:W2)(A:Around)(hh:A.handled=none)(hA:A.depth<900)(R:Result→Shared→Prop)(X Y m S rc W Z:Int)
 (cZ:0≤X) (kO:X≤2^24) (du:0≤Y) (fH:Y≤2^24) (m1:m≤X) (m2:m≤Y) (m3:m=X∨m=Y) (m4:m<2^24) (hS:S=2^24-m) (bR:X<2^24) (cY:Y=2^24)
 (p9:(2^24-X)*2^24=rc*S) (co:0≤rc) (cm:rc≤2^24) (hW:2*2^24+rc=W*6) (hZ:(if W<0 then W+2^24 else W)=Z)
 (ta tb tc:Nat) (N t:Nat) (h:Heap) (gl d os) (rest:ae) (Rp:Rep x.B N h rest 0)
 (K:∀h' N' t' a u v w,eX w→Rep x.B N' h' ((a,⟨.type "tuple",none,.seq #[.float (fl Z) u,.float (fl S) v,w] 0,#[]⟩)::rest) 0→R (.ok (.ret (.ref a))) ⟨h',gl,d,t',os⟩):
 codeAny (MB x.B) A (.call (.ref 94) ⟨[.float (fl X) ta,.float (fl Y) tb,.int 1 tc],[]⟩) R ⟨h,gl,d,t,os⟩:=by
 have hd:S*2^24=S*Y:=by rw[cY]
 refine bE hh Rp (by exact n7 hA) 26 (dA 0x86086086041) (am (fdOf x.B 94)) (envOf (fdOf x.B 94) 94 (N+0)) [(N+0,oF #[En x.B iS (t+0) (.float (fl X) ta),En x.B mQ (t+1) (.float (fl Y) tb),En x.B fT (t+2) (.int 1 tc)] 3)] 1 3 (by rfl') ?_
 intro bT h1 N1 t1 Rp
 refine aa hh Rp [] 22 (dA 0x6186041) [] (cB "max" [.float (fl X) ta,.float (fl Y) tb,.int 1 tc]) [] [] 0 0 ?_
 intro bW h2 N2 t2 Rp dK
 refine j0 hh Rp (by exact fn cZ) (by exact jr bR) (by exact sK cY) (by exact sJ cY) (by exact qV bR) (by exact zQ cY) fun h1 N1 t1 Rp=>?_
 refine aa hh Rp [] 30 (dA 0x6186041086) [] (cB "min" [.float (fl X) ta,.float (fl Y) tb,.int 1 tc]) [] [.u (dU [] [En x.B dD (t1+0) (.float (fl Y) tb)] 4)] 0 1 ?_
 intro cC h3 N3 t3 Rp eD
 refine iU (m:=m) hh Rp (by exact fn cZ) (by exact jr bR) (by exact sK cY) (by exact sJ cY) (by exact mu m1) (by exact zP m4 cY) (by exact vN m3) fun h2 N2 t2 u2 Rp=>?_
 refine ab hh Rp [aF "float.__sub__" [.float (fl Y) tb,.float (fl m) u2] (S),aB "float.__eq__" [.float (fl m) u2,.float (fl Y) tb] false,aF "float.__truediv__" [.float (fl S) (t2+1),.float (fl Y) tb] (S),aF "float.__sub__" [.float (fl Y) tb,.float (fl X) ta] (2^24-X),aF "float.__truediv__" [.float (fl (2^24-X)) (t2+6),.float (fl S) (t2+1)] (rc),aF "float.__sub__" [.float (fl Y) tb,.float (fl Y) tb] (0),aF "float.__truediv__" [.float 0 (t2+9),.float (fl S) (t2+1)] (0),aF "float.__sub__" [.float (fl Y) tb,.int 1 tc] (0),aF "float.__truediv__" [.float 0 (t2+12),.float (fl S) (t2+1)] (0),aB "float.__eq__" [.float (fl X) ta,.float (fl Y) tb] false,aB "float.__eq__" [.float (fl Y) tb,.float (fl Y) tb] true,aF "float.__add__" [.float 4611686018427387904 (t2+15),.float (fl rc) (t2+7)] ((33554432)+(rc)),aF "float.__sub__" [.float (fl (33554432+rc)) (t2+16),.float 0 (t2+13)] ((33554432+rc)- (0)),aF "float.__truediv__" [.float (fl (33554432+rc-0)) (t2+17),.float 4618441417868443648 (t2+19)] (W),aF "float.__mod__" [.float (fl W) (t2+20),.float 4607182418800017408 (t2+21)] (Z)] 177 (dA 0x618608640f18218e18d18c1862c618218a1891860862061c6182186185186086106183186086182182186086) (dM 3) (Flow.ret (.ref (N2+0))) [(N2+0,oT #[.float (fl Z) (t2+22),.float (fl S) (t2+4),.float (fl Y) tb])] [.d] 1 24 ?_ (aC (aK rfl rfl (by exact eS cY) (by exact ES cZ m3 bR cY) (by exact vH cZ m3 hS bR cY) (by exact zO hS cY)) (aC (di (b:=(Y)) rfl (by exact ES cZ m3 bR cY) rfl (by exact eS cY) (decide_eq_false (by exact vK m4 cY))) (aC (ak rfl rfl (by exact vH cZ m3 hS bR cY) (by exact eS cY) (by exact vH cZ m3 hS bR cY) (by exact D3 cY) (by exact D2 hd)) (aC (aK rfl rfl (by exact eS cY) (by exact gM cZ bR) (by exact lh cZ bR) (by exact zL cY)) (aC (ak rfl rfl (by exact lh cZ bR) (by exact vH cZ m3 hS bR cY) (by exact dR co cm) (by exact gW m4 hS) (by exact mz p9)) (aC (aK rfl rfl (by exact eS cY) (by exact eS cY) (by unfold ag;decide) (by exact zN)) (aC (ak (a:=(0)) (by decide+kernel) rfl (by unfold ag;decide) (by exact vH cZ m3 hS bR cY) (by unfold ag;decide) (by exact gW m4 hS) (by exact sI)) (aC (fw rfl (by exact eS cY) (by unfold ag;decide) (by unfold ag;decide) (by exact zM cY)) (aC (ak (a:=(0)) (by decide+kernel) rfl (by unfold ag;decide) (by exact vH cZ m3 hS bR cY) (by unfold ag;decide) (by exact gW m4 hS) (by exact sI)) (aC (di (b:=(Y)) rfl (by exact gM cZ bR) rfl (by exact eS cY) (decide_eq_false (by exact vK bR cY))) (aC (di (b:=(Y)) rfl (by exact eS cY) rfl (by exact eS cY) (decide_eq_true (by exact zK))) (aC (dL (a:=(33554432)) (by decide+kernel) rfl (by unfold ag;decide) (by exact dR co cm) (by exact sL co cm) (by exact zS)) (aC (aK (b:=(0)) rfl (by decide+kernel) (by exact sL co cm) (by unfold ag;decide) (by exact zG co cm) (by exact D')) (aC (ak (b:=(100663296)) rfl (by decide+kernel) (by exact zG co cm) (by unfold ag;decide) (by exact D9 co cm hW) (by decide) (by exact D8 hW)) (aC (dy rfl (by decide+kernel) (by exact D7 co hW) (by exact D6 cm hW) (by first|assumption|(rw[if_pos (by omega)];first|done|omega)|(rw[if_neg (by omega)];first|done|omega))) aN)))))))))))))))
 intro db h4 N4 t4 Rp
 refine K _ _ _ _ _ _ _ ?_ Rp
 first|exact .int _ _|exact .float _ _
theorem jN(x:W2)(A:Around)(hh:A.handled=none)(hA:A.depth<900)(R:Result→Shared→Prop)(X Y m S gc bc W Z:Int)
 (cZ:0≤X) (kO:X≤2^24) (du:0≤Y) (fH:Y≤2^24) (m1:m≤X) (m2:m≤Y) (m3:m=X∨m=Y) (m4:m<2^24) (hS:S=2^24-m)
 (uv:(2^24-X)*2^24=gc*S) (dH:0≤gc) (dG:gc≤2^24) (qd:(2^24-Y)*2^24=bc*S) (cL:0≤bc) (cK:bc≤2^24) (hW:bc-gc=W*6) (hZ:(if W<0 then W+2^24 else W)=Z) (hm:m=0∨m=2^23)
 (ta tb tc:Nat) (N t:Nat) (h:Heap) (gl d os) (rest:ae) (Rp:Rep x.B N h rest 0)
 (K:∀h' N' t' a u v w,eX w→Rep x.B N' h' ((a,⟨.type "tuple",none,.seq #[.float (fl Z) u,.float (fl (2^23+m/2)) v,w] 0,#[]⟩)::rest) 0→R (.ok (.ret (.ref a))) ⟨h',gl,d,t',os⟩):
 codeAny (MB x.B) A (.call (.ref 87) ⟨[.int 1 ta,.float (fl X) tb,.float (fl Y) tc],[]⟩) R ⟨h,gl,d,t,os⟩:=by
 refine bE hh Rp (by exact n7 hA) 26 (dA 0x86086086041) (am (fdOf x.B 87)) (envOf (fdOf x.B 87) 87 (N+0)) [(N+0,oF #[En x.B iS (t+0) (.int 1 ta),En x.B mQ (t+1) (.float (fl X) tb),En x.B fT (t+2) (.float (fl Y) tc)] 3)] 1 3 (by rfl') ?_
 intro bT h1 N1 t1 Rp
 refine bS 6 ?_
 refine aa hh Rp [] 22 (dA 0x6186041) [] (cB "max" [.int 1 ta,.float (fl X) tb,.float (fl Y) tc]) [] [] 0 0 ?_
 intro bW h2 N2 t2 Rp dK
 refine nM hh Rp (by exact fn cZ) (by exact mw kO) (by exact fn du) (by exact mw fH) fun h1 N1 t1 Rp=>?_
 refine aa hh Rp [] 30 (dA 0x6186041086) [] (cB "min" [.int 1 ta,.float (fl X) tb,.float (fl Y) tc]) [] [.u (dU [] [En x.B dD (t1+0) (.int 1 ta)] 4)] 0 1 ?_
 intro cC h3 N3 t3 Rp eD
 refine nL (m:=m) hh Rp (by exact fn cZ) (by exact mw kO) (by exact fn du) (by exact mw fH) (by exact mu m1) (by exact mu m2) (by exact vN m3) (by exact qV m4) fun h2 N2 t2 u2 Rp=>?_
 refine ab hh Rp [aF "float.__radd__" [.float (fl m) u2,.int 1 ta] (2^24+m),aF "float.__rsub__" [.float (fl m) u2,.int 1 ta] (S),aF "float.__truediv__" [.float (fl (2^24+m)) (t2+1),.float 4611686018427387904 (t2+5)] (2^23+m/2),aB "float.__eq__" [.float (fl m) u2,.int 1 ta] false] 78 (dA 0x51860861060860c1186086081186086) [] Flow.next [] [.u (dU [] [En x.B e9 (t2+0) (.float (fl m) u2),En x.B eY (t2+2) (.float (fl (2^24+m)) (t2+1)),En x.B dx (t2+4) (.float (fl S) (t2+3)),En x.B qX (t2+7) (.float (fl (2^23+m/2)) (t2+6))] 8)] 0 8 ?_ (aC (gO rfl (by exact mP hm) (by unfold ag;decide) (by exact qU hm) (by exact A2)) (aC (ao rfl (by exact mP hm) (by unfold ag;decide) (by exact jU hS hm) (by exact vM hS)) (aC (ak (b:=(33554432)) rfl (by decide+kernel) (by exact qU hm) (by unfold ag;decide) (by exact xe hm) (by decide) (by exact xd hm)) (aC (cU rfl (by exact mP hm) (decide_eq_false (by exact oR m4))) aN))))
 intro db h4 N4 t4 Rp
 refine ji 1 (fun s=>∃Nx tx u v c hp e1 e2 e3 e4 e5 e6,Rep x.B Nx hp ((N+0,⟨.type "frame",none,.dict #[En x.B iS (t+0) (.int 1 ta),En x.B mQ (t+1) (.float (fl X) tb),En x.B fT (t+2) (.float (fl Y) tc),En x.B dD (t1+0) (.int 1 ta),En x.B e9 (t2+0) (.float (fl m) u2),En x.B eY e1 (.float (fl (2^24+m)) e2),En x.B dx e3 (.float (fl S) e4),En x.B qX e5 (.float (fl (2^23+m/2)) e6),En x.B mA v (.float c u)] 9,#[]⟩)::rest) 0∧s=⟨hp,gl,d,tx,os⟩) ?_ ?_
 ·rcases hm with hm|hm
  ·refine ab hh Rp [aB "float.__le__" [.float (fl (2^23+m/2)) (t2+6),.float 4602678819172646912 (t4+0)] true,aF "float.__truediv__" [.float (fl S) (t2+3),.float (fl (2^24+m)) (t2+1)] (2^24)] 32 (dA 0x2183186086) [] Flow.next [] [.u (dU [] [En x.B mA (t4+2) (.float 4607182418800017408 (t4+1))] 9)] 0 3 ?_ (aC (dz (b:=(8388608)) rfl (by exact xc hm) (by decide+kernel) (by unfold ag;decide) (decide_eq_true (by exact xb hm))) (aC (ak rfl rfl (by exact xa hS hm) (by exact w9 hm) (by unfold ag;decide) (by exact w6 hm) (by exact w5 hS hm)) aN))
   intro dv h5 N5 t5 Rp
   exact⟨_,_,_,_,_,_,_,_,_,_,_,_,Rp,rfl⟩
  ·refine ab hh Rp [aB "float.__le__" [.float (fl (2^23+m/2)) (t2+6),.float 4602678819172646912 (t4+0)] false,aF "float.__sub__" [.float 4607182418800017408 (t4+2),.float (fl m) u2] (2^24-m),aF "float.__truediv__" [.float (fl S) (t2+3),.float (fl (2^24-m)) (t4+3)] (2^24)] 42 (dA 0x86103181186086) [] Flow.next [] [.u (dU [] [En x.B mA (t4+5) (.float 4607182418800017408 (t4+4))] 9)] 0 6 ?_ (aC (dz (b:=(8388608)) rfl (by exact wZ hm) (by decide+kernel) (by unfold ag;decide) (decide_eq_false (by exact wY hm))) (aC (aK (a:=(16777216)) (by decide+kernel) rfl (by unfold ag;decide) (by exact wX hm) (by exact qT hm) (by exact sM)) (aC (ak rfl rfl (by exact wW hS hm) (by exact qT hm) (by unfold ag;decide) (by exact wV hm) (by exact wU hS)) aN)))
   intro dv h5 N5 t5 Rp
   exact⟨_,_,_,_,_,_,_,_,_,_,_,_,Rp,rfl⟩
 rintro s ⟨N0,t0,u0,v0,c0,h0,e1,e2,e3,e4,e5,e6,Rp,rfl⟩
 refine ab hh Rp [aF "float.__rtruediv__" [.float (fl S) e4,.int 0 (t0+0)] (0),aF "float.__rsub__" [.float (fl X) tb,.int 1 ta] (2^24-X),aF "float.__truediv__" [.float (fl (2^24-X)) (t0+3),.float (fl S) e4] (gc),aF "float.__rsub__" [.float (fl Y) tc,.int 1 ta] (2^24-Y),aF "float.__truediv__" [.float (fl (2^24-Y)) (t0+6),.float (fl S) e4] (bc),aF "float.__sub__" [.float (fl bc) (t0+7),.float (fl gc) (t0+4)] ((bc)- (gc)),aF "float.__truediv__" [.float (fl (bc-gc)) (t0+9),.float 4618441417868443648 (t0+11)] (W),aF "float.__mod__" [.float (fl W) (t0+12),.float 4607182418800017408 (t0+13)] (Z)] 131 (dA 0x1861821892060861c61811860861861411860861060c1186086081181186) (dM 3) (Flow.ret (.ref (N0+0))) [(N0+0,oT #[.float (fl Z) (t0+14),.float (fl (2^23+m/2)) e6,.float (c0) u0])] [.d] 1 16 ?_ (aC (eg rfl (by exact jU hS hm) (by unfold ag;decide) (by unfold ag;decide) (by exact gW m4 hS) (by exact vL)) (aC (ao rfl (by exact dR cZ kO) (by unfold ag;decide) (by exact ms cZ kO) (by exact oQ)) (aC (ak rfl rfl (by exact ms cZ kO) (by exact jU hS hm) (by exact dR dH dG) (by exact gW m4 hS) (by exact mz uv)) (aC (ao rfl (by exact dR du fH) (by unfold ag;decide) (by exact ms du fH) (by exact oQ)) (aC (ak rfl rfl (by exact ms du fH) (by exact jU hS hm) (by exact dR cL cK) (by exact gW m4 hS) (by exact mz qd)) (aC (aK rfl rfl (by exact dR cL cK) (by exact dR dH dG) (by exact zT dH dG cL cK) (by exact Fs)) (aC (ak (b:=(100663296)) rfl (by decide+kernel) (by exact zT dH dG cL cK) (by unfold ag;decide) (by exact Fq dH dG cL cK hW) (by decide) (by exact Fp hW)) (aC (dy rfl (by decide+kernel) (by exact Fo dG cL hW) (by exact Fn dH cK hW) (by first|assumption|(rw[if_pos (by omega)];first|done|omega)|(rw[if_neg (by omega)];first|done|omega))) aN))))))))
 intro dv h5 N5 t5 Rp
 refine K _ _ _ _ _ _ _ ?_ Rp
 first|exact .int _ _|exact .float _ _
theorem jO(x:W2)(A:Around)(hh:A.handled=none)(hA:A.depth<900)(R:Result→Shared→Prop)(X Y m S rc bc W Z:Int)
 (cZ:0≤X) (kO:X≤2^24) (du:0≤Y) (fH:Y≤2^24) (m1:m≤X) (m2:m≤Y) (m3:m=X∨m=Y) (m4:m<2^24) (hS:S=2^24-m) (bR:X<2^24)
 (p9:(2^24-X)*2^24=rc*S) (co:0≤rc) (cm:rc≤2^24) (qd:(2^24-Y)*2^24=bc*S) (cL:0≤bc) (cK:bc≤2^24) (hW:2*2^24+rc-bc=W*6) (hZ:(if W<0 then W+2^24 else W)=Z) (hm:m=0∨m=2^23)
 (ta tb tc:Nat) (N t:Nat) (h:Heap) (gl d os) (rest:ae) (Rp:Rep x.B N h rest 0)
 (K:∀h' N' t' a u v w,eX w→Rep x.B N' h' ((a,⟨.type "tuple",none,.seq #[.float (fl Z) u,.float (fl (2^23+m/2)) v,w] 0,#[]⟩)::rest) 0→R (.ok (.ret (.ref a))) ⟨h',gl,d,t',os⟩):
 codeAny (MB x.B) A (.call (.ref 87) ⟨[.float (fl X) ta,.int 1 tb,.float (fl Y) tc],[]⟩) R ⟨h,gl,d,t,os⟩:=by
 refine bE hh Rp (by exact n7 hA) 26 (dA 0x86086086041) (am (fdOf x.B 87)) (envOf (fdOf x.B 87) 87 (N+0)) [(N+0,oF #[En x.B iS (t+0) (.float (fl X) ta),En x.B mQ (t+1) (.int 1 tb),En x.B fT (t+2) (.float (fl Y) tc)] 3)] 1 3 (by rfl') ?_
 intro bT h1 N1 t1 Rp
 refine bS 6 ?_
 refine aa hh Rp [] 22 (dA 0x6186041) [] (cB "max" [.float (fl X) ta,.int 1 tb,.float (fl Y) tc]) [] [] 0 0 ?_
 intro bW h2 N2 t2 Rp dK
 refine jX hh Rp (by exact fn cZ) (by exact jr bR) (by exact fn du) (by exact mw fH) (by exact qV bR) fun h1 N1 t1 Rp=>?_
 refine aa hh Rp [] 30 (dA 0x6186041086) [] (cB "min" [.float (fl X) ta,.int 1 tb,.float (fl Y) tc]) [] [.u (dU [] [En x.B dD (t1+0) (.int 1 tb)] 4)] 0 1 ?_
 intro cC h3 N3 t3 Rp eD
 refine iT (m:=m) hh Rp (by exact fn cZ) (by exact jr bR) (by exact fn du) (by exact mw fH) (by exact mu m1) (by exact mu m2) (by omega) fun h2 N2 t2 u2 Rp=>?_
 refine ab hh Rp [aF "float.__radd__" [.float (fl m) u2,.int 1 tb] (2^24+m),aF "float.__rsub__" [.float (fl m) u2,.int 1 tb] (S),aF "float.__truediv__" [.float (fl (2^24+m)) (t2+1),.float 4611686018427387904 (t2+5)] (2^23+m/2),aB "float.__eq__" [.float (fl m) u2,.int 1 tb] false] 78 (dA 0x51860861060860c1186086081186086) [] Flow.next [] [.u (dU [] [En x.B e9 (t2+0) (.float (fl m) u2),En x.B eY (t2+2) (.float (fl (2^24+m)) (t2+1)),En x.B dx (t2+4) (.float (fl S) (t2+3)),En x.B qX (t2+7) (.float (fl (2^23+m/2)) (t2+6))] 8)] 0 8 ?_ (aC (gO rfl (by exact mP hm) (by unfold ag;decide) (by exact qU hm) (by exact A2)) (aC (ao rfl (by exact mP hm) (by unfold ag;decide) (by exact jU hS hm) (by exact vM hS)) (aC (ak (b:=(33554432)) rfl (by decide+kernel) (by exact qU hm) (by unfold ag;decide) (by exact xe hm) (by decide) (by exact xd hm)) (aC (cU rfl (by exact mP hm) (decide_eq_false (by exact oR m4))) aN))))
 intro db h4 N4 t4 Rp
 refine ji 1 (fun s=>∃Nx tx u v c hp e1 e2 e3 e4 e5 e6,Rep x.B Nx hp ((N+0,⟨.type "frame",none,.dict #[En x.B iS (t+0) (.float (fl X) ta),En x.B mQ (t+1) (.int 1 tb),En x.B fT (t+2) (.float (fl Y) tc),En x.B dD (t1+0) (.int 1 tb),En x.B e9 (t2+0) (.float (fl m) u2),En x.B eY e1 (.float (fl (2^24+m)) e2),En x.B dx e3 (.float (fl S) e4),En x.B qX e5 (.float (fl (2^23+m/2)) e6),En x.B mA v (.float c u)] 9,#[]⟩)::rest) 0∧s=⟨hp,gl,d,tx,os⟩) ?_ ?_
 ·rcases hm with hm|hm
  ·refine ab hh Rp [aB "float.__le__" [.float (fl (2^23+m/2)) (t2+6),.float 4602678819172646912 (t4+0)] true,aF "float.__truediv__" [.float (fl S) (t2+3),.float (fl (2^24+m)) (t2+1)] (2^24)] 32 (dA 0x2183186086) [] Flow.next [] [.u (dU [] [En x.B mA (t4+2) (.float 4607182418800017408 (t4+1))] 9)] 0 3 ?_ (aC (dz (b:=(8388608)) rfl (by exact xc hm) (by decide+kernel) (by unfold ag;decide) (decide_eq_true (by exact xb hm))) (aC (ak rfl rfl (by exact xa hS hm) (by exact w9 hm) (by unfold ag;decide) (by exact w6 hm) (by exact w5 hS hm)) aN))
   intro dv h5 N5 t5 Rp
   exact⟨_,_,_,_,_,_,_,_,_,_,_,_,Rp,rfl⟩
  ·refine ab hh Rp [aB "float.__le__" [.float (fl (2^23+m/2)) (t2+6),.float 4602678819172646912 (t4+0)] false,aF "float.__sub__" [.float 4607182418800017408 (t4+2),.float (fl m) u2] (2^24-m),aF "float.__truediv__" [.float (fl S) (t2+3),.float (fl (2^24-m)) (t4+3)] (2^24)] 42 (dA 0x86103181186086) [] Flow.next [] [.u (dU [] [En x.B mA (t4+5) (.float 4607182418800017408 (t4+4))] 9)] 0 6 ?_ (aC (dz (b:=(8388608)) rfl (by exact wZ hm) (by decide+kernel) (by unfold ag;decide) (decide_eq_false (by exact wY hm))) (aC (aK (a:=(16777216)) (by decide+kernel) rfl (by unfold ag;decide) (by exact wX hm) (by exact qT hm) (by exact sM)) (aC (ak rfl rfl (by exact wW hS hm) (by exact qT hm) (by unfold ag;decide) (by exact wV hm) (by exact wU hS)) aN)))
   intro dv h5 N5 t5 Rp
   exact⟨_,_,_,_,_,_,_,_,_,_,_,_,Rp,rfl⟩
 rintro s ⟨N0,t0,u0,v0,c0,h0,e1,e2,e3,e4,e5,e6,Rp,rfl⟩
 refine ab hh Rp [aF "float.__rsub__" [.float (fl X) ta,.int 1 tb] (2^24-X),aF "float.__truediv__" [.float (fl (2^24-X)) (t0+0),.float (fl S) e4] (rc),aF "float.__rtruediv__" [.float (fl S) e4,.int 0 (t0+3)] (0),aF "float.__rsub__" [.float (fl Y) tc,.int 1 tb] (2^24-Y),aF "float.__truediv__" [.float (fl (2^24-Y)) (t0+6),.float (fl S) e4] (bc),aB "float.__eq__" [.float (fl X) ta,.int 1 tb] false,aF "float.__add__" [.float 4611686018427387904 (t0+9),.float (fl rc) (t0+1)] ((33554432)+(rc)),aF "float.__sub__" [.float (fl (33554432+rc)) (t0+10),.float (fl bc) (t0+7)] ((33554432+rc)- (bc)),aF "float.__truediv__" [.float (fl (33554432+rc-bc)) (t0+11),.float 4618441417868443648 (t0+13)] (W),aF "float.__mod__" [.float (fl W) (t0+14),.float 4607182418800017408 (t0+15)] (Z)] 142 (dA 0x18618218b2860862462060461871860861861411860861011811860860c6081186) (dM 3) (Flow.ret (.ref (N0+0))) [(N0+0,oT #[.float (fl Z) (t0+16),.float (fl (2^23+m/2)) e6,.float (c0) u0])] [.d] 1 18 ?_ (aC (ao rfl (by exact gM cZ bR) (by unfold ag;decide) (by exact lh cZ bR) (by exact oQ)) (aC (ak rfl rfl (by exact lh cZ bR) (by exact jU hS hm) (by exact dR co cm) (by exact gW m4 hS) (by exact mz p9)) (aC (eg rfl (by exact jU hS hm) (by unfold ag;decide) (by unfold ag;decide) (by exact gW m4 hS) (by exact vL)) (aC (ao rfl (by exact dR du fH) (by unfold ag;decide) (by exact ms du fH) (by exact oQ)) (aC (ak rfl rfl (by exact ms du fH) (by exact jU hS hm) (by exact dR cL cK) (by exact gW m4 hS) (by exact mz qd)) (aC (cU rfl (by exact gM cZ bR) (decide_eq_false (by exact oR bR))) (aC (dL (a:=(33554432)) (by decide+kernel) rfl (by unfold ag;decide) (by exact dR co cm) (by exact sL co cm) (by exact zS)) (aC (aK rfl rfl (by exact sL co cm) (by exact dR cL cK) (by exact zR co cm cL cK) (by exact Fm)) (aC (ak (b:=(100663296)) rfl (by decide+kernel) (by exact zR co cm cL cK) (by unfold ag;decide) (by exact Es co cm cL cK hW) (by decide) (by exact Er hW)) (aC (dy rfl (by decide+kernel) (by exact Ep co cK hW) (by exact Eo cm cL hW) (by first|assumption|(rw[if_pos (by omega)];first|done|omega)|(rw[if_neg (by omega)];first|done|omega))) aN))))))))))
 intro dv h5 N5 t5 Rp
 refine K _ _ _ _ _ _ _ ?_ Rp
 first|exact .int _ _|exact .float _ _
theorem n3(x:W2)(A:Around)(hh:A.handled=none)(hA:A.depth<900)(R:Result→Shared→Prop)(X Y m S bc W Z:Int)
 (cZ:0≤X) (kO:X≤2^24) (du:0≤Y) (fH:Y≤2^24) (m1:m≤X) (m2:m≤Y) (m3:m=X∨m=Y) (m4:m<2^24) (hS:S=2^24-m) (bR:X=2^24)
 (qd:(2^24-Y)*2^24=bc*S) (cL:0≤bc) (cK:bc≤2^24) (hW:bc=W*6) (hZ:(if W<0 then W+2^24 else W)=Z) (hm:m=0∨m=2^23)
 (ta tb tc:Nat) (N t:Nat) (h:Heap) (gl d os) (rest:ae) (Rp:Rep x.B N h rest 0)
 (K:∀h' N' t' a u v w,eX w→Rep x.B N' h' ((a,⟨.type "tuple",none,.seq #[.float (fl Z) u,.float (fl (2^23+m/2)) v,w] 0,#[]⟩)::rest) 0→R (.ok (.ret (.ref a))) ⟨h',gl,d,t',os⟩):
 codeAny (MB x.B) A (.call (.ref 87) ⟨[.float (fl X) ta,.int 1 tb,.float (fl Y) tc],[]⟩) R ⟨h,gl,d,t,os⟩:=by
 have hd:S*2^24=S*X:=by rw[bR]
 refine bE hh Rp (by exact n7 hA) 26 (dA 0x86086086041) (am (fdOf x.B 87)) (envOf (fdOf x.B 87) 87 (N+0)) [(N+0,oF #[En x.B iS (t+0) (.float (fl X) ta),En x.B mQ (t+1) (.int 1 tb),En x.B fT (t+2) (.float (fl Y) tc)] 3)] 1 3 (by rfl') ?_
 intro bT h1 N1 t1 Rp
 refine bS 6 ?_
 refine aa hh Rp [] 22 (dA 0x6186041) [] (cB "max" [.float (fl X) ta,.int 1 tb,.float (fl Y) tc]) [] [] 0 0 ?_
 intro bW h2 N2 t2 Rp dK
 refine jY hh Rp (by exact sK bR) (by exact sJ bR) (by exact fn du) (by exact mw fH) (by exact zQ bR) fun h1 N1 t1 Rp=>?_
 refine aa hh Rp [] 30 (dA 0x6186041086) [] (cB "min" [.float (fl X) ta,.int 1 tb,.float (fl Y) tc]) [] [.u (dU [] [En x.B dD (t1+0) (.float (fl X) ta)] 4)] 0 1 ?_
 intro cC h3 N3 t3 Rp eD
 refine iT (m:=m) hh Rp (by exact sK bR) (by exact sJ bR) (by exact fn du) (by exact mw fH) (by exact zP m4 bR) (by exact mu m2) (by exact vN m3) fun h2 N2 t2 u2 Rp=>?_
 refine ab hh Rp [aF "float.__add__" [.float (fl X) ta,.float (fl m) u2] (2^24+m),aF "float.__sub__" [.float (fl X) ta,.float (fl m) u2] (S),aF "float.__truediv__" [.float (fl (2^24+m)) (t2+1),.float 4611686018427387904 (t2+5)] (2^23+m/2),aB "float.__eq__" [.float (fl m) u2,.float (fl X) ta] false] 68 (dA 0x51860861060860c6182182186086) [] Flow.next [] [.u (dU [] [En x.B e9 (t2+0) (.float (fl m) u2),En x.B eY (t2+2) (.float (fl (2^24+m)) (t2+1)),En x.B dx (t2+4) (.float (fl S) (t2+3)),En x.B qX (t2+7) (.float (fl (2^23+m/2)) (t2+6))] 8)] 0 8 ?_ (aC (dL rfl rfl (by exact eS bR) (by exact mP hm) (by exact qU hm) (by exact Em bR)) (aC (aK rfl rfl (by exact eS bR) (by exact mP hm) (by exact jU hS hm) (by exact zO hS bR)) (aC (ak (b:=(33554432)) rfl (by decide+kernel) (by exact qU hm) (by unfold ag;decide) (by exact xe hm) (by decide) (by exact xd hm)) (aC (di (b:=(X)) rfl (by exact mP hm) rfl (by exact eS bR) (decide_eq_false (by exact vK m4 bR))) aN))))
 intro db h4 N4 t4 Rp
 refine ji 1 (fun s=>∃Nx tx u v c hp e1 e2 e3 e4 e5 e6,Rep x.B Nx hp ((N+0,⟨.type "frame",none,.dict #[En x.B iS (t+0) (.float (fl X) ta),En x.B mQ (t+1) (.int 1 tb),En x.B fT (t+2) (.float (fl Y) tc),En x.B dD (t1+0) (.float (fl X) ta),En x.B e9 (t2+0) (.float (fl m) u2),En x.B eY e1 (.float (fl (2^24+m)) e2),En x.B dx e3 (.float (fl S) e4),En x.B qX e5 (.float (fl (2^23+m/2)) e6),En x.B mA v (.float c u)] 9,#[]⟩)::rest) 0∧s=⟨hp,gl,d,tx,os⟩) ?_ ?_
 ·rcases hm with hm|hm
  ·refine ab hh Rp [aB "float.__le__" [.float (fl (2^23+m/2)) (t2+6),.float 4602678819172646912 (t4+0)] true,aF "float.__truediv__" [.float (fl S) (t2+3),.float (fl (2^24+m)) (t2+1)] (2^24)] 32 (dA 0x2183186086) [] Flow.next [] [.u (dU [] [En x.B mA (t4+2) (.float 4607182418800017408 (t4+1))] 9)] 0 3 ?_ (aC (dz (b:=(8388608)) rfl (by exact xc hm) (by decide+kernel) (by unfold ag;decide) (decide_eq_true (by exact xb hm))) (aC (ak rfl rfl (by exact xa hS hm) (by exact w9 hm) (by unfold ag;decide) (by exact w6 hm) (by exact w5 hS hm)) aN))
   intro dv h5 N5 t5 Rp
   exact⟨_,_,_,_,_,_,_,_,_,_,_,_,Rp,rfl⟩
  ·refine ab hh Rp [aB "float.__le__" [.float (fl (2^23+m/2)) (t2+6),.float 4602678819172646912 (t4+0)] false,aF "float.__sub__" [.float 4611686018427387904 (t4+1),.float (fl X) ta] (2^24),aF "float.__sub__" [.float 4607182418800017408 (t4+2),.float (fl m) u2] (2^24-m),aF "float.__truediv__" [.float (fl S) (t2+3),.float (fl (2^24-m)) (t4+3)] (2^24)] 39 (dA 0x86144183186086) [] Flow.next [] [.u (dU [] [En x.B mA (t4+5) (.float 4607182418800017408 (t4+4))] 9)] 0 6 ?_ (aC (dz (b:=(8388608)) rfl (by exact wZ hm) (by decide+kernel) (by unfold ag;decide) (decide_eq_false (by exact wY hm))) (aC (aK (a:=(33554432)) (by decide+kernel) rfl (by unfold ag;decide) (by exact eS bR) (by unfold ag;decide) (by exact El bR)) (aC (aK (a:=(16777216)) (by decide+kernel) rfl (by unfold ag;decide) (by exact wX hm) (by exact qT hm) (by exact sM)) (aC (ak rfl rfl (by exact wW hS hm) (by exact qT hm) (by unfold ag;decide) (by exact wV hm) (by exact wU hS)) aN))))
   intro dv h5 N5 t5 Rp
   exact⟨_,_,_,_,_,_,_,_,_,_,_,_,Rp,rfl⟩
 rintro s ⟨N0,t0,u0,v0,c0,h0,e1,e2,e3,e4,e5,e6,Rp,rfl⟩
 refine ab hh Rp [aF "float.__sub__" [.float (fl X) ta,.float (fl X) ta] (0),aF "float.__truediv__" [.float 0 (t0+0),.float (fl S) e4] (0),aF "float.__sub__" [.float (fl X) ta,.int 1 tb] (0),aF "float.__truediv__" [.float 0 (t0+3),.float (fl S) e4] (0),aF "float.__sub__" [.float (fl X) ta,.float (fl Y) tc] (2^24-Y),aF "float.__truediv__" [.float (fl (2^24-Y)) (t0+6),.float (fl S) e4] (bc),aB "float.__eq__" [.float (fl X) ta,.float (fl X) ta] true,aF "float.__sub__" [.float (fl bc) (t0+7),.float 0 (t0+4)] ((bc)- (0)),aF "float.__truediv__" [.float (fl (bc-0)) (t0+9),.float 4618441417868443648 (t0+11)] (W),aF "float.__mod__" [.float (fl W) (t0+12),.float 4607182418800017408 (t0+13)] (Z)] 112 (dA 0x61860862ca182189186206182187186186086146106182183182186) (dM 3) (Flow.ret (.ref (N0+0))) [(N0+0,oT #[.float (fl Z) (t0+14),.float (fl (2^23+m/2)) e6,.float (c0) u0])] [.d] 1 16 ?_ (aC (aK rfl rfl (by exact eS bR) (by exact eS bR) (by unfold ag;decide) (by exact zN)) (aC (ak (a:=(0)) (by decide+kernel) rfl (by unfold ag;decide) (by exact jU hS hm) (by unfold ag;decide) (by exact gW m4 hS) (by exact sI)) (aC (fw rfl (by exact eS bR) (by unfold ag;decide) (by unfold ag;decide) (by exact zM bR)) (aC (ak (a:=(0)) (by decide+kernel) rfl (by unfold ag;decide) (by exact jU hS hm) (by unfold ag;decide) (by exact gW m4 hS) (by exact sI)) (aC (aK rfl rfl (by exact eS bR) (by exact dR du fH) (by exact ms du fH) (by exact zL bR)) (aC (ak rfl rfl (by exact ms du fH) (by exact jU hS hm) (by exact dR cL cK) (by exact gW m4 hS) (by exact mz qd)) (aC (di (b:=(X)) rfl (by exact eS bR) rfl (by exact eS bR) (decide_eq_true (by exact zK))) (aC (aK (b:=(0)) rfl (by decide+kernel) (by exact dR cL cK) (by unfold ag;decide) (by exact zJ cL cK) (by exact Ek)) (aC (ak (b:=(100663296)) rfl (by decide+kernel) (by exact zJ cL cK) (by unfold ag;decide) (by exact Ej cL cK hW) (by decide) (by exact Ei hW)) (aC (dy rfl (by decide+kernel) (by exact Eh cL hW) (by exact Eg cK hW) (by first|assumption|(rw[if_pos (by omega)];first|done|omega)|(rw[if_neg (by omega)];first|done|omega))) aN))))))))))
 intro dv h5 N5 t5 Rp
 refine K _ _ _ _ _ _ _ ?_ Rp
 first|exact .int _ _|exact .float _ _
theorem jP(x:W2)(A:Around)(hh:A.handled=none)(hA:A.depth<900)(R:Result→Shared→Prop)(X Y m S rc gc W Z:Int)
 (cZ:0≤X) (kO:X≤2^24) (du:0≤Y) (fH:Y≤2^24) (m1:m≤X) (m2:m≤Y) (m3:m=X∨m=Y) (m4:m<2^24) (hS:S=2^24-m) (bR:X<2^24) (cY:Y<2^24)
 (p9:(2^24-X)*2^24=rc*S) (co:0≤rc) (cm:rc≤2^24) (uv:(2^24-Y)*2^24=gc*S) (dH:0≤gc) (dG:gc≤2^24) (hW:4*2^24+gc-rc=W*6) (hZ:(if W<0 then W+2^24 else W)=Z) (hm:m=0∨m=2^23)
 (ta tb tc:Nat) (N t:Nat) (h:Heap) (gl d os) (rest:ae) (Rp:Rep x.B N h rest 0)
 (K:∀h' N' t' a u v w,eX w→Rep x.B N' h' ((a,⟨.type "tuple",none,.seq #[.float (fl Z) u,.float (fl (2^23+m/2)) v,w] 0,#[]⟩)::rest) 0→R (.ok (.ret (.ref a))) ⟨h',gl,d,t',os⟩):
 codeAny (MB x.B) A (.call (.ref 87) ⟨[.float (fl X) ta,.float (fl Y) tb,.int 1 tc],[]⟩) R ⟨h,gl,d,t,os⟩:=by
 refine bE hh Rp (by exact n7 hA) 26 (dA 0x86086086041) (am (fdOf x.B 87)) (envOf (fdOf x.B 87) 87 (N+0)) [(N+0,oF #[En x.B iS (t+0) (.float (fl X) ta),En x.B mQ (t+1) (.float (fl Y) tb),En x.B fT (t+2) (.int 1 tc)] 3)] 1 3 (by rfl') ?_
 intro bT h1 N1 t1 Rp
 refine bS 6 ?_
 refine aa hh Rp [] 22 (dA 0x6186041) [] (cB "max" [.float (fl X) ta,.float (fl Y) tb,.int 1 tc]) [] [] 0 0 ?_
 intro bW h2 N2 t2 Rp dK
 refine jZ hh Rp (by exact fn cZ) (by exact jr bR) (by exact fn du) (by exact jr cY) (by exact qV bR) (by exact qV cY) fun h1 N1 t1 Rp=>?_
 refine aa hh Rp [] 30 (dA 0x6186041086) [] (cB "min" [.float (fl X) ta,.float (fl Y) tb,.int 1 tc]) [] [.u (dU [] [En x.B dD (t1+0) (.int 1 tc)] 4)] 0 1 ?_
 intro cC h3 N3 t3 Rp eD
 refine iU (m:=m) hh Rp (by exact fn cZ) (by exact jr bR) (by exact fn du) (by exact jr cY) (by exact mu m1) (by exact mu m2) (by omega) fun h2 N2 t2 u2 Rp=>?_
 refine ab hh Rp [aF "float.__radd__" [.float (fl m) u2,.int 1 tc] (2^24+m),aF "float.__rsub__" [.float (fl m) u2,.int 1 tc] (S),aF "float.__truediv__" [.float (fl (2^24+m)) (t2+1),.float 4611686018427387904 (t2+5)] (2^23+m/2),aB "float.__eq__" [.float (fl m) u2,.int 1 tc] false] 78 (dA 0x51860861060860c1186086081186086) [] Flow.next [] [.u (dU [] [En x.B e9 (t2+0) (.float (fl m) u2),En x.B eY (t2+2) (.float (fl (2^24+m)) (t2+1)),En x.B dx (t2+4) (.float (fl S) (t2+3)),En x.B qX (t2+7) (.float (fl (2^23+m/2)) (t2+6))] 8)] 0 8 ?_ (aC (gO rfl (by exact mP hm) (by unfold ag;decide) (by exact qU hm) (by exact A2)) (aC (ao rfl (by exact mP hm) (by unfold ag;decide) (by exact jU hS hm) (by exact vM hS)) (aC (ak (b:=(33554432)) rfl (by decide+kernel) (by exact qU hm) (by unfold ag;decide) (by exact xe hm) (by decide) (by exact xd hm)) (aC (cU rfl (by exact mP hm) (decide_eq_false (by exact oR m4))) aN))))
 intro db h4 N4 t4 Rp
 refine ji 1 (fun s=>∃Nx tx u v c hp e1 e2 e3 e4 e5 e6,Rep x.B Nx hp ((N+0,⟨.type "frame",none,.dict #[En x.B iS (t+0) (.float (fl X) ta),En x.B mQ (t+1) (.float (fl Y) tb),En x.B fT (t+2) (.int 1 tc),En x.B dD (t1+0) (.int 1 tc),En x.B e9 (t2+0) (.float (fl m) u2),En x.B eY e1 (.float (fl (2^24+m)) e2),En x.B dx e3 (.float (fl S) e4),En x.B qX e5 (.float (fl (2^23+m/2)) e6),En x.B mA v (.float c u)] 9,#[]⟩)::rest) 0∧s=⟨hp,gl,d,tx,os⟩) ?_ ?_
 ·rcases hm with hm|hm
  ·refine ab hh Rp [aB "float.__le__" [.float (fl (2^23+m/2)) (t2+6),.float 4602678819172646912 (t4+0)] true,aF "float.__truediv__" [.float (fl S) (t2+3),.float (fl (2^24+m)) (t2+1)] (2^24)] 32 (dA 0x2183186086) [] Flow.next [] [.u (dU [] [En x.B mA (t4+2) (.float 4607182418800017408 (t4+1))] 9)] 0 3 ?_ (aC (dz (b:=(8388608)) rfl (by exact xc hm) (by decide+kernel) (by unfold ag;decide) (decide_eq_true (by exact xb hm))) (aC (ak rfl rfl (by exact xa hS hm) (by exact w9 hm) (by unfold ag;decide) (by exact w6 hm) (by exact w5 hS hm)) aN))
   intro dv h5 N5 t5 Rp
   exact⟨_,_,_,_,_,_,_,_,_,_,_,_,Rp,rfl⟩
  ·refine ab hh Rp [aB "float.__le__" [.float (fl (2^23+m/2)) (t2+6),.float 4602678819172646912 (t4+0)] false,aF "float.__sub__" [.float 4607182418800017408 (t4+2),.float (fl m) u2] (2^24-m),aF "float.__truediv__" [.float (fl S) (t2+3),.float (fl (2^24-m)) (t4+3)] (2^24)] 42 (dA 0x86103181186086) [] Flow.next [] [.u (dU [] [En x.B mA (t4+5) (.float 4607182418800017408 (t4+4))] 9)] 0 6 ?_ (aC (dz (b:=(8388608)) rfl (by exact wZ hm) (by decide+kernel) (by unfold ag;decide) (decide_eq_false (by exact wY hm))) (aC (aK (a:=(16777216)) (by decide+kernel) rfl (by unfold ag;decide) (by exact wX hm) (by exact qT hm) (by exact sM)) (aC (ak rfl rfl (by exact wW hS hm) (by exact qT hm) (by unfold ag;decide) (by exact wV hm) (by exact wU hS)) aN)))
   intro dv h5 N5 t5 Rp
   exact⟨_,_,_,_,_,_,_,_,_,_,_,_,Rp,rfl⟩
 rintro s ⟨N0,t0,u0,v0,c0,h0,e1,e2,e3,e4,e5,e6,Rp,rfl⟩
 refine ab hh Rp [aF "float.__rsub__" [.float (fl X) ta,.int 1 tc] (2^24-X),aF "float.__truediv__" [.float (fl (2^24-X)) (t0+0),.float (fl S) e4] (rc),aF "float.__rsub__" [.float (fl Y) tb,.int 1 tc] (2^24-Y),aF "float.__truediv__" [.float (fl (2^24-Y)) (t0+3),.float (fl S) e4] (gc),aF "float.__rtruediv__" [.float (fl S) e4,.int 0 (t0+6)] (0),aB "float.__eq__" [.float (fl X) ta,.int 1 tc] false,aB "float.__eq__" [.float (fl Y) tb,.int 1 tc] false,aF "float.__add__" [.float 4616189618054758400 (t0+9),.float (fl gc) (t0+4)] ((67108864)+(gc)),aF "float.__sub__" [.float (fl (67108864+gc)) (t0+10),.float (fl rc) (t0+1)] ((67108864+gc)- (rc)),aF "float.__truediv__" [.float (fl (67108864+gc-rc)) (t0+11),.float 4618441417868443648 (t0+13)] (W),aF "float.__mod__" [.float (fl W) (t0+14),.float 4607182418800017408 (t0+15)] (Z)] 140 (dA 0x18618218c2c60862862462061871860861811811860861461011860860c6081186) (dM 3) (Flow.ret (.ref (N0+0))) [(N0+0,oT #[.float (fl Z) (t0+16),.float (fl (2^23+m/2)) e6,.float (c0) u0])] [.d] 1 18 ?_ (aC (ao rfl (by exact gM cZ bR) (by unfold ag;decide) (by exact lh cZ bR) (by exact oQ)) (aC (ak rfl rfl (by exact lh cZ bR) (by exact jU hS hm) (by exact dR co cm) (by exact gW m4 hS) (by exact mz p9)) (aC (ao rfl (by exact gM du cY) (by unfold ag;decide) (by exact lh du cY) (by exact oQ)) (aC (ak rfl rfl (by exact lh du cY) (by exact jU hS hm) (by exact dR dH dG) (by exact gW m4 hS) (by exact mz uv)) (aC (eg rfl (by exact jU hS hm) (by unfold ag;decide) (by unfold ag;decide) (by exact gW m4 hS) (by exact vL)) (aC (cU rfl (by exact gM cZ bR) (decide_eq_false (by exact oR bR))) (aC (cU rfl (by exact gM du cY) (decide_eq_false (by exact oR cY))) (aC (dL (a:=(67108864)) (by decide+kernel) rfl (by unfold ag;decide) (by exact dR dH dG) (by exact zI dH dG) (by exact Ef)) (aC (aK rfl rfl (by exact zI dH dG) (by exact dR co cm) (by exact zH co cm dH dG) (by exact Ee)) (aC (ak (b:=(100663296)) rfl (by decide+kernel) (by exact zH co cm dH dG) (by unfold ag;decide) (by exact Ed co cm dH dG hW) (by decide) (by exact Ec hW)) (aC (dy rfl (by decide+kernel) (by exact Eb cm dH hW) (by exact Ea co dG hW) (by first|assumption|(rw[if_pos (by omega)];first|done|omega)|(rw[if_neg (by omega)];first|done|omega))) aN)))))))))))
 intro dv h5 N5 t5 Rp
 refine K _ _ _ _ _ _ _ ?_ Rp
 first|exact .int _ _|exact .float _ _
theorem n4(x:W2)(A:Around)(hh:A.handled=none)(hA:A.depth<900)(R:Result→Shared→Prop)(X Y m S rc W Z:Int)
 (cZ:0≤X) (kO:X≤2^24) (du:0≤Y) (fH:Y≤2^24) (m1:m≤X) (m2:m≤Y) (m3:m=X∨m=Y) (m4:m<2^24) (hS:S=2^24-m) (bR:X<2^24) (cY:Y=2^24)
 (p9:(2^24-X)*2^24=rc*S) (co:0≤rc) (cm:rc≤2^24) (hW:2*2^24+rc=W*6) (hZ:(if W<0 then W+2^24 else W)=Z) (hm:m=0∨m=2^23)
 (ta tb tc:Nat) (N t:Nat) (h:Heap) (gl d os) (rest:ae) (Rp:Rep x.B N h rest 0)
 (K:∀h' N' t' a u v w,eX w→Rep x.B N' h' ((a,⟨.type "tuple",none,.seq #[.float (fl Z) u,.float (fl (2^23+m/2)) v,w] 0,#[]⟩)::rest) 0→R (.ok (.ret (.ref a))) ⟨h',gl,d,t',os⟩):
 codeAny (MB x.B) A (.call (.ref 87) ⟨[.float (fl X) ta,.float (fl Y) tb,.int 1 tc],[]⟩) R ⟨h,gl,d,t,os⟩:=by
 have hd:S*2^24=S*Y:=by rw[cY]
 refine bE hh Rp (by exact n7 hA) 26 (dA 0x86086086041) (am (fdOf x.B 87)) (envOf (fdOf x.B 87) 87 (N+0)) [(N+0,oF #[En x.B iS (t+0) (.float (fl X) ta),En x.B mQ (t+1) (.float (fl Y) tb),En x.B fT (t+2) (.int 1 tc)] 3)] 1 3 (by rfl') ?_
 intro bT h1 N1 t1 Rp
 refine bS 6 ?_
 refine aa hh Rp [] 22 (dA 0x6186041) [] (cB "max" [.float (fl X) ta,.float (fl Y) tb,.int 1 tc]) [] [] 0 0 ?_
 intro bW h2 N2 t2 Rp dK
 refine j0 hh Rp (by exact fn cZ) (by exact jr bR) (by exact sK cY) (by exact sJ cY) (by exact qV bR) (by exact zQ cY) fun h1 N1 t1 Rp=>?_
 refine aa hh Rp [] 30 (dA 0x6186041086) [] (cB "min" [.float (fl X) ta,.float (fl Y) tb,.int 1 tc]) [] [.u (dU [] [En x.B dD (t1+0) (.float (fl Y) tb)] 4)] 0 1 ?_
 intro cC h3 N3 t3 Rp eD
 refine iU (m:=m) hh Rp (by exact fn cZ) (by exact jr bR) (by exact sK cY) (by exact sJ cY) (by exact mu m1) (by exact zP m4 cY) (by exact vN m3) fun h2 N2 t2 u2 Rp=>?_
 refine ab hh Rp [aF "float.__add__" [.float (fl Y) tb,.float (fl m) u2] (2^24+m),aF "float.__sub__" [.float (fl Y) tb,.float (fl m) u2] (S),aF "float.__truediv__" [.float (fl (2^24+m)) (t2+1),.float 4611686018427387904 (t2+5)] (2^23+m/2),aB "float.__eq__" [.float (fl m) u2,.float (fl Y) tb] false] 68 (dA 0x51860861060860c6182182186086) [] Flow.next [] [.u (dU [] [En x.B e9 (t2+0) (.float (fl m) u2),En x.B eY (t2+2) (.float (fl (2^24+m)) (t2+1)),En x.B dx (t2+4) (.float (fl S) (t2+3)),En x.B qX (t2+7) (.float (fl (2^23+m/2)) (t2+6))] 8)] 0 8 ?_ (aC (dL rfl rfl (by exact eS cY) (by exact mP hm) (by exact qU hm) (by exact Em cY)) (aC (aK rfl rfl (by exact eS cY) (by exact mP hm) (by exact jU hS hm) (by exact zO hS cY)) (aC (ak (b:=(33554432)) rfl (by decide+kernel) (by exact qU hm) (by unfold ag;decide) (by exact xe hm) (by decide) (by exact xd hm)) (aC (di (b:=(Y)) rfl (by exact mP hm) rfl (by exact eS cY) (decide_eq_false (by exact vK m4 cY))) aN))))
 intro db h4 N4 t4 Rp
 refine ji 1 (fun s=>∃Nx tx u v c hp e1 e2 e3 e4 e5 e6,Rep x.B Nx hp ((N+0,⟨.type "frame",none,.dict #[En x.B iS (t+0) (.float (fl X) ta),En x.B mQ (t+1) (.float (fl Y) tb),En x.B fT (t+2) (.int 1 tc),En x.B dD (t1+0) (.float (fl Y) tb),En x.B e9 (t2+0) (.float (fl m) u2),En x.B eY e1 (.float (fl (2^24+m)) e2),En x.B dx e3 (.float (fl S) e4),En x.B qX e5 (.float (fl (2^23+m/2)) e6),En x.B mA v (.float c u)] 9,#[]⟩)::rest) 0∧s=⟨hp,gl,d,tx,os⟩) ?_ ?_
 ·rcases hm with hm|hm
  ·refine ab hh Rp [aB "float.__le__" [.float (fl (2^23+m/2)) (t2+6),.float 4602678819172646912 (t4+0)] true,aF "float.__truediv__" [.float (fl S) (t2+3),.float (fl (2^24+m)) (t2+1)] (2^24)] 32 (dA 0x2183186086) [] Flow.next [] [.u (dU [] [En x.B mA (t4+2) (.float 4607182418800017408 (t4+1))] 9)] 0 3 ?_ (aC (dz (b:=(8388608)) rfl (by exact xc hm) (by decide+kernel) (by unfold ag;decide) (decide_eq_true (by exact xb hm))) (aC (ak rfl rfl (by exact xa hS hm) (by exact w9 hm) (by unfold ag;decide) (by exact w6 hm) (by exact w5 hS hm)) aN))
   intro dv h5 N5 t5 Rp
   exact⟨_,_,_,_,_,_,_,_,_,_,_,_,Rp,rfl⟩
  ·refine ab hh Rp [aB "float.__le__" [.float (fl (2^23+m/2)) (t2+6),.float 4602678819172646912 (t4+0)] false,aF "float.__sub__" [.float 4611686018427387904 (t4+1),.float (fl Y) tb] (2^24),aF "float.__sub__" [.float 4607182418800017408 (t4+2),.float (fl m) u2] (2^24-m),aF "float.__truediv__" [.float (fl S) (t2+3),.float (fl (2^24-m)) (t4+3)] (2^24)] 39 (dA 0x86144183186086) [] Flow.next [] [.u (dU [] [En x.B mA (t4+5) (.float 4607182418800017408 (t4+4))] 9)] 0 6 ?_ (aC (dz (b:=(8388608)) rfl (by exact wZ hm) (by decide+kernel) (by unfold ag;decide) (decide_eq_false (by exact wY hm))) (aC (aK (a:=(33554432)) (by decide+kernel) rfl (by unfold ag;decide) (by exact eS cY) (by unfold ag;decide) (by exact El cY)) (aC (aK (a:=(16777216)) (by decide+kernel) rfl (by unfold ag;decide) (by exact wX hm) (by exact qT hm) (by exact sM)) (aC (ak rfl rfl (by exact wW hS hm) (by exact qT hm) (by unfold ag;decide) (by exact wV hm) (by exact wU hS)) aN))))
   intro dv h5 N5 t5 Rp
   exact⟨_,_,_,_,_,_,_,_,_,_,_,_,Rp,rfl⟩
 rintro s ⟨N0,t0,u0,v0,c0,h0,e1,e2,e3,e4,e5,e6,Rp,rfl⟩
 refine ab hh Rp [aF "float.__sub__" [.float (fl Y) tb,.float (fl X) ta] (2^24-X),aF "float.__truediv__" [.float (fl (2^24-X)) (t0+0),.float (fl S) e4] (rc),aF "float.__sub__" [.float (fl Y) tb,.float (fl Y) tb] (0),aF "float.__truediv__" [.float 0 (t0+3),.float (fl S) e4] (0),aF "float.__sub__" [.float (fl Y) tb,.int 1 tc] (0),aF "float.__truediv__" [.float 0 (t0+6),.float (fl S) e4] (0),aB "float.__eq__" [.float (fl X) ta,.float (fl Y) tb] false,aB "float.__eq__" [.float (fl Y) tb,.float (fl Y) tb] true,aF "float.__add__" [.float 4611686018427387904 (t0+9),.float (fl rc) (t0+1)] ((33554432)+(rc)),aF "float.__sub__" [.float (fl (33554432+rc)) (t0+10),.float 0 (t0+7)] ((33554432+rc)- (0)),aF "float.__truediv__" [.float (fl (33554432+rc-0)) (t0+11),.float 4618441417868443648 (t0+13)] (W),aF "float.__mod__" [.float (fl W) (t0+14),.float 4607182418800017408 (t0+15)] (Z)] 123 (dA 0x618608634c18218b18a189186206182187186186086146106182183182186) (dM 3) (Flow.ret (.ref (N0+0))) [(N0+0,oT #[.float (fl Z) (t0+16),.float (fl (2^23+m/2)) e6,.float (c0) u0])] [.d] 1 18 ?_ (aC (aK rfl rfl (by exact eS cY) (by exact gM cZ bR) (by exact lh cZ bR) (by exact zL cY)) (aC (ak rfl rfl (by exact lh cZ bR) (by exact jU hS hm) (by exact dR co cm) (by exact gW m4 hS) (by exact mz p9)) (aC (aK rfl rfl (by exact eS cY) (by exact eS cY) (by unfold ag;decide) (by exact zN)) (aC (ak (a:=(0)) (by decide+kernel) rfl (by unfold ag;decide) (by exact jU hS hm) (by unfold ag;decide) (by exact gW m4 hS) (by exact sI)) (aC (fw rfl (by exact eS cY) (by unfold ag;decide) (by unfold ag;decide) (by exact zM cY)) (aC (ak (a:=(0)) (by decide+kernel) rfl (by unfold ag;decide) (by exact jU hS hm) (by unfold ag;decide) (by exact gW m4 hS) (by exact sI)) (aC (di (b:=(Y)) rfl (by exact gM cZ bR) rfl (by exact eS cY) (decide_eq_false (by exact vK bR cY))) (aC (di (b:=(Y)) rfl (by exact eS cY) rfl (by exact eS cY) (decide_eq_true (by exact zK))) (aC (dL (a:=(33554432)) (by decide+kernel) rfl (by unfold ag;decide) (by exact dR co cm) (by exact sL co cm) (by exact zS)) (aC (aK (b:=(0)) rfl (by decide+kernel) (by exact sL co cm) (by unfold ag;decide) (by exact zG co cm) (by exact D')) (aC (ak (b:=(100663296)) rfl (by decide+kernel) (by exact zG co cm) (by unfold ag;decide) (by exact D9 co cm hW) (by decide) (by exact D8 hW)) (aC (dy rfl (by decide+kernel) (by exact D7 co hW) (by exact D6 cm hW) (by first|assumption|(rw[if_pos (by omega)];first|done|omega)|(rw[if_neg (by omega)];first|done|omega))) aN))))))))))))
 intro dv h5 N5 t5 Rp
 refine K _ _ _ _ _ _ _ ?_ Rp
 first|exact .int _ _|exact .float _ _
noncomputable def bg(S:Int):Prop:=S=2^24∨S=2^23
noncomputable def b7(k S:Int)(r g b:Value):Prop:=∃(j F G:Int) (tc u v:Nat),96*k=j*2^24+F∧0≤F∧F<2^24∧0≤j∧j≤5∧S*F=G*2^24∧#[r,g,b]=nC j tc (u+1) (v+1) (2^24-S) (2^24-G) (2^24- (S-G))
theorem dN{r g b r' g' b':Value}(e:#[r,g,b]= #[r',g',b']):r=r'∧g=g'∧b=b':=by
 have e:=congrArg Array.toList e
 simpa using e
theorem rq(j:Int)(tc u v:Nat)(P Q T:Int):∃r g b,nC j tc u v P Q T= #[r,g,b]:=by
 unfold nC
 split
 ·exact⟨_,_,_,rfl⟩
 ·split
  ·exact⟨_,_,_,rfl⟩
  ·split
   ·exact⟨_,_,_,rfl⟩
   ·split
    ·exact⟨_,_,_,rfl⟩
    ·split
     ·exact⟨_,_,_,rfl⟩
     ·exact⟨_,_,_,rfl⟩
noncomputable abbrev cq(r g b:Value):Obj:=⟨.type "tuple",none,.seq #[r,g,b] 0,#[]⟩
theorem p4(x:W2)(A:Around)(hh:A.handled=none)(hA:A.depth<900)(R:Result→Shared→Prop)(k k' S:Int)(aO:0≤k)(hk:k<2^21)(rT:k%2^20=k')(hS:bg S)
 (ta tb tc:Nat) (N t:Nat) (h:Heap) (gl d os) (rest:ae) (Rp:Rep x.B N h rest 0)
 (K:∀h' N' t' a r g b,b7 k' S r g b→Rep x.B N' h' ((a,cq r g b)::rest) 0→R (.ok (.ret (.ref a))) ⟨h',gl,d,t',os⟩):
 codeAny (MB x.B) A (.call (.ref 101) ⟨[.float (fl (16*k)) ta,.float (fl S) tb,.int 1 tc],[]⟩) R ⟨h,gl,d,t,os⟩:=by
 obtain⟨q,hq⟩:∃q,96*k/2^24=q:=⟨_,rfl⟩
 obtain⟨F,hF⟩:∃F,96*k%2^24=F:=⟨_,rfl⟩
 obtain⟨G,hG⟩:∃G,S*F=G*2^24:=by
  rcases hS with rfl|rfl
  ·exact⟨F,by omega⟩
  ·exact⟨F/2,by exact G3 hF⟩
 have aU:0<S∧S≤2^24:=by rcases hS with rfl|rfl<;>decide
 have ym:S*(2^24-F)=(S-G)*2^24:=by rw[Int.mul_sub,Int.sub_mul,hG]
 have eK:0≤G∧G≤S:=by rcases hS with rfl|rfl<;>omega
 refine B5 x A hh hA R k S q F G (q%6) aO hk (by omega) (by exact E8 hF) (by exact E7 hF) rfl aU.1 aU.2 hG ym eK.1 eK.2 ta tb tc N t h gl d os rest Rp fun h' N' t' a u v Rp=>?_
 obtain⟨r,g,b,e⟩:=rq (q%6) tc (u+1) (v+1) (2^24-S) (2^24-G) (2^24- (S-G))
 rw[e] at Rp
 refine K _ _ _ _ _ _ _ ⟨q%6,F,G,tc,u,v,?_,by exact E8 hF,by exact E7 hF,by omega,by omega,hG,e.symm⟩ Rp
 omega
theorem ct(x:W2)(A:Around)(hh:A.handled=none)(hA:A.depth<900)(R:Result→Shared→Prop)(k S:Int)(aO:0≤k)(hk:k<2^20)(hS:bg S)(r g b:Value)(hc:b7 k S r g b)
 (N t:Nat) (h:Heap) (gl d os) (rest:ae) (Rp:Rep x.B N h rest 0)
 (K:∀h' N' t' a u v w,eX w→Rep x.B N' h' ((a,cq (.float (fl (16*k)) u) (.float (fl S) v) w)::rest) 0→R (.ok (.ret (.ref a))) ⟨h',gl,d,t',os⟩):
 codeAny (MB x.B) A (.call (.ref 94) ⟨[r,g,b],[]⟩) R ⟨h,gl,d,t,os⟩:=by
 obtain⟨j,F,G,tc,u,v,hF,jy,jx,rU,uu,hG,e⟩:=hc
 have aU:0<S∧S≤2^24:=by rcases hS with rfl|rfl<;>decide
 have ym:S*(2^24-F)=(S-G)*2^24:=by rw[Int.mul_sub,Int.sub_mul,hG]
 have eK:0≤G∧G<S:=by rcases hS with rfl|rfl<;>omega
 have s1:(2^24- (2^24-S))*2^24=2^24*S:=by exact E6
 have s2:(2^24- (2^24-G))*2^24=F*S:=by rw[Int.mul_comm F,hG];exact E5
 have s3:(2^24- (2^24- (S-G)))*2^24=(2^24-F)*S:=by rw[Int.mul_comm (2^24-F),ym];exact E4
 have hm:2^24-S=0∨2^24-S=2^23:=by rcases hS with rfl|rfl<;>decide
 have lW:G=0→F=0:=fun z=>by rcases hS with rfl|rfl<;>omega
 obtain rfl|rfl|rfl|rfl|rfl|rfl:j=0∨j=1∨j=2∨j=3∨j=4∨j=5:=by exact zY rU uu
 ·obtain⟨rfl,rfl,rfl⟩:=dN e
  refine jK x A hh hA R (2^24- (S-G)) (2^24-S) (2^24-S) S (2^24-F) (2^24) (16*k) _ (by exact vD aU eK) (by exact vC eK) (by exact nI aU) (by exact nH aU) (by exact vB eK) (by exact my) (by exact zX) (by exact js aU) (by exact mx) s3 (by exact tJ jx) (by exact vA jy) s1 (by decide) (by decide) (by exact E1 hF) (by rw[if_neg (by exact qW aO)]) _ _ _ N t h gl d os rest Rp fun h' N' t' a u v w hw Rp=>K h' N' t' a u v w hw ?_
  exact Rp
 ·obtain⟨rfl,rfl,rfl⟩:=dN e
  by_cases z:G=0
  ·have:=lW z
   refine nY x A hh hA R (2^24-G) (2^24-S) (2^24-S) S (2^24) (16*k) _ (by omega) (by omega) (by omega) (by omega) (by omega) (by exact my) (by exact zW) (by omega) (by exact mx) (by omega) s1 (by decide) (by decide) (by omega) (by rw[if_neg (by omega)]) _ _ _ N t h gl d os rest Rp fun h' N' t' a u v w hw Rp=>K h' N' t' a u v w hw ?_
   exact Rp
  ·refine jL x A hh hA R (2^24-G) (2^24-S) (2^24-S) S F (2^24) (16*k) _ (by exact vz aU eK) (by exact vy eK) (by exact nI aU) (by exact nH aU) (by exact vQ eK) (by exact my) (by exact zW) (by exact js aU) (by exact mx) (by exact zV eK z) s2 (by exact fn jy) (by exact jr jx) s1 (by decide) (by decide) (by exact EZ hF) (by rw[if_neg (by exact qW aO)]) _ _ _ N t h gl d os rest Rp fun h' N' t' a u v w hw Rp=>K h' N' t' a u v w hw ?_
   exact Rp
 ·obtain⟨rfl,rfl,rfl⟩:=dN e
  refine jL x A hh hA R (2^24-S) (2^24- (S-G)) (2^24-S) S (2^24) (2^24-F) (16*k) _ (by exact nI aU) (by exact nH aU) (by exact vD aU eK) (by exact vC eK) (by exact my) (by exact vB eK) (by exact EY) (by exact js aU) (by exact mx) (by exact js aU) s1 (by decide) (by decide) s3 (by exact tJ jx) (by exact vA jy) (by exact EX hF) (by rw[if_neg (by exact qW aO)]) _ _ _ N t h gl d os rest Rp fun h' N' t' a u v w hw Rp=>K h' N' t' a u v w hw ?_
  exact Rp
 ·obtain⟨rfl,rfl,rfl⟩:=dN e
  by_cases z:G=0
  ·have:=lW z
   refine nZ x A hh hA R (2^24-S) (2^24-G) (2^24-S) S (2^24) (16*k) _ (by exact nI aU) (by exact nH aU) (by exact EW z) (by exact EU z) (by exact my) (by exact ET aU z) (by exact vP) (by exact js aU) (by exact mx) (by exact js aU) (by exact FN z) s1 (by decide) (by decide) (by exact FM hF this) (by rw[if_neg (by exact FL hF this)]) _ _ _ N t h gl d os rest Rp fun h' N' t' a u v w hw Rp=>K h' N' t' a u v w hw ?_
   exact Rp
  ·refine jM x A hh hA R (2^24-S) (2^24-G) (2^24-S) S (2^24) F (16*k) _ (by exact nI aU) (by exact nH aU) (by exact vz aU eK) (by exact vy eK) (by exact my) (by exact vQ eK) (by exact vP) (by exact js aU) (by exact mx) (by exact js aU) (by exact zV eK z) s1 (by decide) (by decide) s2 (by exact fn jy) (by exact jr jx) (by exact FK hF) (by rw[if_neg (by exact qW aO)]) _ _ _ N t h gl d os rest Rp fun h' N' t' a u v w hw Rp=>K h' N' t' a u v w hw ?_
   exact Rp
 ·obtain⟨rfl,rfl,rfl⟩:=dN e
  refine jM x A hh hA R (2^24- (S-G)) (2^24-S) (2^24-S) S (2^24-F) (2^24) (16*k) _ (by exact vD aU eK) (by exact vC eK) (by exact nI aU) (by exact nH aU) (by exact vB eK) (by exact my) (by exact zX) (by exact js aU) (by exact mx) (by exact FJ eK) (by exact js aU) s3 (by exact tJ jx) (by exact vA jy) s1 (by decide) (by decide) (by exact FI hF) (by rw[if_neg (by exact qW aO)]) _ _ _ N t h gl d os rest Rp fun h' N' t' a u v w hw Rp=>K h' N' t' a u v w hw ?_
  exact Rp
 ·obtain⟨rfl,rfl,rfl⟩:=dN e
  refine jK x A hh hA R (2^24-S) (2^24-G) (2^24-S) S (2^24) F (16*k-2^24) _ (by exact nI aU) (by exact nH aU) (by exact vz aU eK) (by exact vy eK) (by exact my) (by exact vQ eK) (by exact vP) (by exact js aU) (by exact mx) s1 (by decide) (by decide) s2 (by exact fn jy) (by exact jr jx) (by exact FH hF) (show(if 16*k-2^24<0 then 16*k-2^24+2^24 else 16*k-2^24)=16*k by rw[if_pos (by exact FG hk)];exact FF) _ _ _ N t h gl d os rest Rp fun h' N' t' a u v w hw Rp=>K h' N' t' a u v w hw ?_
  exact Rp
theorem gh(x:W2)(A:Around)(hh:A.handled=none)(hA:A.depth<900)(R:Result→Shared→Prop)(k S:Int)(aO:0≤k)(hk:k<2^20)(hS:bg S)(r g b:Value)(hc:b7 k S r g b)
 (N t:Nat) (h:Heap) (gl d os) (rest:ae) (Rp:Rep x.B N h rest 0)
 (K:∀h' N' t' a u v w,eX w→Rep x.B N' h' ((a,cq (.float (fl (16*k)) u) (.float (fl (2^24-S/2)) v) w)::rest) 0→R (.ok (.ret (.ref a))) ⟨h',gl,d,t',os⟩):
 codeAny (MB x.B) A (.call (.ref 87) ⟨[r,g,b],[]⟩) R ⟨h,gl,d,t,os⟩:=by
 obtain⟨j,F,G,tc,u,v,hF,jy,jx,rU,uu,hG,e⟩:=hc
 have aU:0<S∧S≤2^24:=by rcases hS with rfl|rfl<;>decide
 have ym:S*(2^24-F)=(S-G)*2^24:=by rw[Int.mul_sub,Int.sub_mul,hG]
 have eK:0≤G∧G<S:=by rcases hS with rfl|rfl<;>omega
 have s1:(2^24- (2^24-S))*2^24=2^24*S:=by exact E6
 have s2:(2^24- (2^24-G))*2^24=F*S:=by rw[Int.mul_comm F,hG];exact E5
 have s3:(2^24- (2^24- (S-G)))*2^24=(2^24-F)*S:=by rw[Int.mul_comm (2^24-F),ym];exact E4
 have hm:2^24-S=0∨2^24-S=2^23:=by rcases hS with rfl|rfl<;>decide
 have lW:G=0→F=0:=fun z=>by rcases hS with rfl|rfl<;>omega
 obtain rfl|rfl|rfl|rfl|rfl|rfl:j=0∨j=1∨j=2∨j=3∨j=4∨j=5:=by exact zY rU uu
 ·obtain⟨rfl,rfl,rfl⟩:=dN e
  refine jN x A hh hA R (2^24- (S-G)) (2^24-S) (2^24-S) S (2^24-F) (2^24) (16*k) _ (by exact vD aU eK) (by exact vC eK) (by exact nI aU) (by exact nH aU) (by exact vB eK) (by exact my) (by exact zX) (by exact js aU) (by exact mx) s3 (by exact tJ jx) (by exact vA jy) s1 (by decide) (by decide) (by exact E1 hF) (by rw[if_neg (by exact qW aO)]) hm _ _ _ N t h gl d os rest Rp fun h' N' t' a u v w hw Rp=>K h' N' t' a u v w hw ?_
  have e2:(2:Int)^23+(2^24-S)/2=2^24-S/2:=by rcases hS with rfl|rfl<;>decide
  rw[e2] at Rp
  exact Rp
 ·obtain⟨rfl,rfl,rfl⟩:=dN e
  by_cases z:G=0
  ·have:=lW z
   refine n3 x A hh hA R (2^24-G) (2^24-S) (2^24-S) S (2^24) (16*k) _ (by omega) (by omega) (by omega) (by omega) (by omega) (by exact my) (by exact zW) (by omega) (by exact mx) (by omega) s1 (by decide) (by decide) (by omega) (by rw[if_neg (by omega)]) hm _ _ _ N t h gl d os rest Rp fun h' N' t' a u v w hw Rp=>K h' N' t' a u v w hw ?_
   have e2:(2:Int)^23+(2^24-S)/2=2^24-S/2:=by rcases hS with rfl|rfl<;>decide
   rw[e2] at Rp
   exact Rp
  ·refine jO x A hh hA R (2^24-G) (2^24-S) (2^24-S) S F (2^24) (16*k) _ (by exact vz aU eK) (by exact vy eK) (by exact nI aU) (by exact nH aU) (by exact vQ eK) (by exact my) (by exact zW) (by exact js aU) (by exact mx) (by exact zV eK z) s2 (by exact fn jy) (by exact jr jx) s1 (by decide) (by decide) (by exact EZ hF) (by rw[if_neg (by exact qW aO)]) hm _ _ _ N t h gl d os rest Rp fun h' N' t' a u v w hw Rp=>K h' N' t' a u v w hw ?_
   have e2:(2:Int)^23+(2^24-S)/2=2^24-S/2:=by rcases hS with rfl|rfl<;>decide
   rw[e2] at Rp
   exact Rp
 ·obtain⟨rfl,rfl,rfl⟩:=dN e
  refine jO x A hh hA R (2^24-S) (2^24- (S-G)) (2^24-S) S (2^24) (2^24-F) (16*k) _ (by exact nI aU) (by exact nH aU) (by exact vD aU eK) (by exact vC eK) (by exact my) (by exact vB eK) (by exact EY) (by exact js aU) (by exact mx) (by exact js aU) s1 (by decide) (by decide) s3 (by exact tJ jx) (by exact vA jy) (by exact EX hF) (by rw[if_neg (by exact qW aO)]) hm _ _ _ N t h gl d os rest Rp fun h' N' t' a u v w hw Rp=>K h' N' t' a u v w hw ?_
  have e2:(2:Int)^23+(2^24-S)/2=2^24-S/2:=by rcases hS with rfl|rfl<;>decide
  rw[e2] at Rp
  exact Rp
 ·obtain⟨rfl,rfl,rfl⟩:=dN e
  by_cases z:G=0
  ·have:=lW z
   refine n4 x A hh hA R (2^24-S) (2^24-G) (2^24-S) S (2^24) (16*k) _ (by exact nI aU) (by exact nH aU) (by exact EW z) (by exact EU z) (by exact my) (by exact ET aU z) (by exact vP) (by exact js aU) (by exact mx) (by exact js aU) (by exact FN z) s1 (by decide) (by decide) (by exact FM hF this) (by rw[if_neg (by exact FL hF this)]) hm _ _ _ N t h gl d os rest Rp fun h' N' t' a u v w hw Rp=>K h' N' t' a u v w hw ?_
   have e2:(2:Int)^23+(2^24-S)/2=2^24-S/2:=by rcases hS with rfl|rfl<;>decide
   rw[e2] at Rp
   exact Rp
  ·refine jP x A hh hA R (2^24-S) (2^24-G) (2^24-S) S (2^24) F (16*k) _ (by exact nI aU) (by exact nH aU) (by exact vz aU eK) (by exact vy eK) (by exact my) (by exact vQ eK) (by exact vP) (by exact js aU) (by exact mx) (by exact js aU) (by exact zV eK z) s1 (by decide) (by decide) s2 (by exact fn jy) (by exact jr jx) (by exact FK hF) (by rw[if_neg (by exact qW aO)]) hm _ _ _ N t h gl d os rest Rp fun h' N' t' a u v w hw Rp=>K h' N' t' a u v w hw ?_
   have e2:(2:Int)^23+(2^24-S)/2=2^24-S/2:=by rcases hS with rfl|rfl<;>decide
   rw[e2] at Rp
   exact Rp
 ·obtain⟨rfl,rfl,rfl⟩:=dN e
  refine jP x A hh hA R (2^24- (S-G)) (2^24-S) (2^24-S) S (2^24-F) (2^24) (16*k) _ (by exact vD aU eK) (by exact vC eK) (by exact nI aU) (by exact nH aU) (by exact vB eK) (by exact my) (by exact zX) (by exact js aU) (by exact mx) (by exact FJ eK) (by exact js aU) s3 (by exact tJ jx) (by exact vA jy) s1 (by decide) (by decide) (by exact FI hF) (by rw[if_neg (by exact qW aO)]) hm _ _ _ N t h gl d os rest Rp fun h' N' t' a u v w hw Rp=>K h' N' t' a u v w hw ?_
  have e2:(2:Int)^23+(2^24-S)/2=2^24-S/2:=by rcases hS with rfl|rfl<;>decide
  rw[e2] at Rp
  exact Rp
 ·obtain⟨rfl,rfl,rfl⟩:=dN e
  refine jN x A hh hA R (2^24-S) (2^24-G) (2^24-S) S (2^24) F (16*k-2^24) _ (by exact nI aU) (by exact nH aU) (by exact vz aU eK) (by exact vy eK) (by exact my) (by exact vQ eK) (by exact vP) (by exact js aU) (by exact mx) s1 (by decide) (by decide) s2 (by exact fn jy) (by exact jr jx) (by exact FH hF) (show(if 16*k-2^24<0 then 16*k-2^24+2^24 else 16*k-2^24)=16*k by rw[if_pos (by exact FG hk)];exact FF) hm _ _ _ N t h gl d os rest Rp fun h' N' t' a u v w hw Rp=>K h' N' t' a u v w hw ?_
  have e2:(2:Int)^23+(2^24-S)/2=2^24-S/2:=by rcases hS with rfl|rfl<;>decide
  rw[e2] at Rp
  exact Rp
noncomputable def is(fd:FuncData)(s:Stmt)(md:Value)(closure:List (Str×Addr))(code d5:Value):FuncData:=match s with
 | .FunctionDef name args body _ _ _ scope _ _ _=>{name:=name,qualname:=fd.qualname++kh++name,params:=args,body:=.stmts body,scope:=scope,globals:=fd.globals,closure:=closure,defaults:=.none,kwdefaults:=.none,doc:=.none,pyModule:=md,annotations:=none,code:=code,closureTuple:=d5,builtins:=fd.builtins}
 |_=>default
noncomputable def gP(e:Env)(cells:List (Str×Addr)):Env:={e with cells:=cells}
noncomputable def ah(B:aQ)(f:Addr)(k:Nat):Stmt:=((am (fdOf B f)).drop k).headD default
noncomputable def l4(o:Obj):Array Value:=match o.data with
 | .fields vs=>vs
 |_=>#[]
theorem o6{w:World}{h₁:Heap}(H:KH h₁ w.params):h₁.TableAt 58 54 #[]∧h₁.TableAt 65 61 #[]:=by
 have g:∀a o,(tr w.params).get a=some o→h₁.get? a=some o:=fun a o e=>by
  exact H _ _ e
 refine⟨⟨⟨((tr w.params).get 58).getD default,l4 (((tr w.params).get 58).getD default),g _ _ (by rfl'),by rfl',by rfl',by rfl'⟩,g _ _ (by rfl')⟩,
  ⟨⟨((tr w.params).get 65).getD default,l4 (((tr w.params).get 65).getD default),g _ _ (by rfl'),by rfl',by rfl',by rfl'⟩,g _ _ (by rfl')⟩⟩
theorem lH{w:World}{vs:List Value}{a:Addr}{o:Obj}(e:i6 w vs a=some o):a≠54∧a≠61:=by
 constructor
 ·intro q;subst q;unfold i6 at e;cases e
 ·intro q;subst q;unfold i6 at e;cases e
theorem hJ.grow54{h₁:Heap}{w:World}{vs:List Value}{h:Heap}(H:KH h₁ w.params)(i:hJ h₁ w vs h)(e:h.get? 54=some (jm #[])){f:Obj→Obj}{a:Addr}{v:Nat→Value}{tk:Nat}(hf:f (jm #[])=jm #[.int 36 0,.int 4 0,.ref a])(ha:289≤a)(hc:h.get? a=some (fP io v tk)):hJ h₁ w vs (h.update 54 f):=by
 have sb:Heap.SameBut 54 h (h.update 54 f):=Heap.SameBut.update ..
 have e':(h.update 54 f).get? 54=some (jm #[.int 36 0,.int 4 0,.ref a]):=by rw[Heap.get?_update_self f e (by rw[hf];rfl),hf]
 have T:=(o6 H).1
 obtain⟨⟨o,us,ho,h1,h2,h3⟩,h4⟩:=T
 have c:=i.old.get_of_cls ho (by rw[h1];exact fun z=>nomatch z)
 have nb:∀(b:Addr) o,b=61∨289≤b∧eH o=false→b≠54:=fun b o q z=>by
  subst z
  rcases q with q|q
  ·exact absurd q (by decide)
  ·exact absurd q.1 (by decide)
 have Ck:(h.update 54 f).get? a=some (fP io v tk):=(sb.2 _ fun z=>by rw[z] at ha;exact absurd ha (by decide)).trans hc
 refine⟨i.old.step_table (ps:=#[]) (more:=#[.int 36 0,.int 4 0,.ref a]) ⟨⟨o,us,ho,h1,h2,h3⟩,h4⟩ ⟨⟨o,us,c,h1,h2,h3⟩,e⟩ ⟨⟨o,us,(sb.2 _ (by decide)).trans c,h1,h2,h3⟩,e'⟩ (fun b o hb e=>(sb.2 b hb).trans e) (by decide),
  fun b o q=>(sb.2 b (lH q).1).trans (i.st b o q),i.lim.sameBut sb (by decide),⟨_,e',.inr ⟨a,v,tk,rfl,ha,Ck⟩⟩,i.t61.keeps fun b o r q=>(sb.2 _ (nb b o r)).trans q⟩
theorem hJ.grow61{h₁:Heap}{w:World}{vs:List Value}{h:Heap}(H:KH h₁ w.params)(i:hJ h₁ w vs h)(e:h.get? 61=some (jm #[])){f:Obj→Obj}{a:Addr}{v:Nat→Value}{tk:Nat}(hf:f (jm #[])=jm #[.int 51 0,.int 4 0,.ref a])(ha:289≤a)(hc:h.get? a=some (fP im v tk)):hJ h₁ w vs (h.update 61 f):=by
 have sb:Heap.SameBut 61 h (h.update 61 f):=Heap.SameBut.update ..
 have e':(h.update 61 f).get? 61=some (jm #[.int 51 0,.int 4 0,.ref a]):=by rw[Heap.get?_update_self f e (by rw[hf];rfl),hf]
 have T:=(o6 H).2
 obtain⟨⟨o,us,ho,h1,h2,h3⟩,h4⟩:=T
 have c:=i.old.get_of_cls ho (by rw[h1];exact fun z=>nomatch z)
 have nb:∀(b:Addr) o,b=54∨289≤b∧eH o=false→b≠61:=fun b o q z=>by
  subst z
  rcases q with q|q
  ·exact absurd q (by decide)
  ·exact absurd q.1 (by decide)
 have Ck:(h.update 61 f).get? a=some (fP im v tk):=(sb.2 _ fun z=>by rw[z] at ha;exact absurd ha (by decide)).trans hc
 refine⟨i.old.step_table (ps:=#[]) (more:=#[.int 51 0,.int 4 0,.ref a]) ⟨⟨o,us,ho,h1,h2,h3⟩,h4⟩ ⟨⟨o,us,c,h1,h2,h3⟩,e⟩ ⟨⟨o,us,(sb.2 _ (by decide)).trans c,h1,h2,h3⟩,e'⟩ (fun b o hb e=>(sb.2 b hb).trans e) (by decide),
  fun b o q=>(sb.2 b (lH q).2).trans (i.st b o q),i.lim.sameBut sb (by decide),i.t54.keeps fun b o r q=>(sb.2 _ (nb b o r)).trans q,⟨_,e',.inr ⟨a,v,tk,rfl,ha,Ck⟩⟩⟩
noncomputable def W2.E54(x:W2):aQ:=x.B.ext [(54,jm #[])] (by intro p hp;rcases List.mem_singleton.mp hp with rfl;exact .inl (show 54<289 by decide))
noncomputable def W2.F54(x:W2)(a:Addr)(v:Nat→Value)(tk:Nat):aQ:=x.B.ext [(54,jm #[.int 36 0,.int 4 0,.ref a]),(a,fP io v tk)] (by
 intro p hp
 rcases List.mem_cons.mp hp with rfl|hp
 ·exact .inl (show 54<289 by decide)
 ·rcases List.mem_singleton.mp hp with rfl;exact .inr rfl)
theorem W2.open54(x:W2){N m:Nat}{h:Heap}{tab:ae}(R:Rep x.B N h tab m):Rep x.E54 N h tab m∨∃a v tk,Rep (x.F54 a v tk) N h tab m:=by
 obtain⟨ps,e,r⟩:=hJ.t54 (show hJ x.h₁ x.w x.vs h from R.inv)
 rcases r with rfl|⟨a,v,tk,rfl,ha,hc⟩
 ·exact .inl (R.toExt _ fun p hp=>by rcases List.mem_singleton.mp hp with rfl;exact e)
 ·refine .inr ⟨a,v,tk,R.toExt _ fun p hp=>?_⟩
  rcases List.mem_cons.mp hp with rfl|hp
  ·exact e
  ·rcases List.mem_singleton.mp hp with rfl;exact hc
theorem W2.grow54(x:W2){N:Nat}{h:Heap}{tab:ae}{a:Addr}{v:Nat→Value}{tk:Nat}(R:Rep x.E54 N h ((a,fP io v tk)::tab) 0){f:Obj→Obj}(hf:f (jm #[])=jm #[.int 36 0,.int 4 0,.ref a]):
 Rep (x.F54 a v tk) N (h.update 54 f) tab 0:=by
 have e:=R.inv.2 _ (List.mem_singleton.mpr rfl)
 have hc:=R.cells _ (.head _)
 have sb:Heap.SameBut 54 h (h.update 54 f):=Heap.SameBut.update ..
 have ha:(289:Nat)≤a:=hc.2
 refine⟨⟨hJ.grow54 x.H R.inv.1 e hf ha hc.1,fun p hp=>?_⟩,by rw[sb.1];exact R.size,R.top,fun p hp=>⟨(sb.2 _ fun z=>?_).trans (R.cells p (.tail _ hp)).1,(R.cells p (.tail _ hp)).2⟩,(List.nodup_cons.mp R.nd).2⟩
 ·rcases List.mem_cons.mp hp with rfl|hp
  ·show(h.update 54 f).get? 54=_
   rw[Heap.get?_update_self f e (by rw[hf];rfl),hf]
  ·rcases List.mem_singleton.mp hp with rfl
   exact(sb.2 _ fun z=>by have z:a=54:=z;rw[z] at ha;exact absurd ha (by decide)).trans hc.1
 ·have:(289:Nat)≤p.1:=(R.cells p (.tail _ hp)).2
  rw[z] at this
  exact absurd this (by decide)
noncomputable def W2.E61(x:W2):aQ:=x.B.ext [(61,jm #[])] (by intro p hp;rcases List.mem_singleton.mp hp with rfl;exact .inl (show 61<289 by decide))
noncomputable def W2.F61(x:W2)(a:Addr)(v:Nat→Value)(tk:Nat):aQ:=x.B.ext [(61,jm #[.int 51 0,.int 4 0,.ref a]),(a,fP im v tk)] (by
 intro p hp
 rcases List.mem_cons.mp hp with rfl|hp
 ·exact .inl (show 61<289 by decide)
 ·rcases List.mem_singleton.mp hp with rfl;exact .inr rfl)
theorem W2.open61(x:W2){N m:Nat}{h:Heap}{tab:ae}(R:Rep x.B N h tab m):Rep x.E61 N h tab m∨∃a v tk,Rep (x.F61 a v tk) N h tab m:=by
 obtain⟨ps,e,r⟩:=hJ.t61 (show hJ x.h₁ x.w x.vs h from R.inv)
 rcases r with rfl|⟨a,v,tk,rfl,ha,hc⟩
 ·exact .inl (R.toExt _ fun p hp=>by rcases List.mem_singleton.mp hp with rfl;exact e)
 ·refine .inr ⟨a,v,tk,R.toExt _ fun p hp=>?_⟩
  rcases List.mem_cons.mp hp with rfl|hp
  ·exact e
  ·rcases List.mem_singleton.mp hp with rfl;exact hc
theorem W2.grow61(x:W2){N:Nat}{h:Heap}{tab:ae}{a:Addr}{v:Nat→Value}{tk:Nat}(R:Rep x.E61 N h ((a,fP im v tk)::tab) 0){f:Obj→Obj}(hf:f (jm #[])=jm #[.int 51 0,.int 4 0,.ref a]):
 Rep (x.F61 a v tk) N (h.update 61 f) tab 0:=by
 have e:=R.inv.2 _ (List.mem_singleton.mpr rfl)
 have hc:=R.cells _ (.head _)
 have sb:Heap.SameBut 61 h (h.update 61 f):=Heap.SameBut.update ..
 have ha:(289:Nat)≤a:=hc.2
 refine⟨⟨hJ.grow61 x.H R.inv.1 e hf ha hc.1,fun p hp=>?_⟩,by rw[sb.1];exact R.size,R.top,fun p hp=>⟨(sb.2 _ fun z=>?_).trans (R.cells p (.tail _ hp)).1,(R.cells p (.tail _ hp)).2⟩,(List.nodup_cons.mp R.nd).2⟩
 ·rcases List.mem_cons.mp hp with rfl|hp
  ·show(h.update 61 f).get? 61=_
   rw[Heap.get?_update_self f e (by rw[hf];rfl),hf]
  ·rcases List.mem_singleton.mp hp with rfl
   exact(sb.2 _ fun z=>by have z:a=61:=z;rw[z] at ha;exact absurd ha (by decide)).trans hc.1
 ·have:(289:Nat)≤p.1:=(R.cells p (.tail _ hp)).2
  rw[z] at this
  exact absurd this (by decide)
theorem Rep.code{B:aQ}{N m:Nat}{h:Heap}{tab:ae}{a:Addr}{q:List Nat}{tk:Nat}{f0 f2 f3 f4 f5 f6 f7 f8 f9 Gt Gs Gr Gq Gp Go Gn Gm Gl:Value}
 (R:Rep B N h ((a,⟨.type "code",none,.fields #[f0,.str (S q) tk,f2,f3,f4,f5,f6,f7,f8,f9,Gt,Gs,Gr,Gq,Gp,Go,Gn,Gm,Gl],#[]⟩)::tab) m):∃v,Rep B N h ((a,fP q v tk)::tab) m:=
 ⟨fun i=>(#[f0,f0,f2,f3,f4,f5,f6,f7,f8,f9,Gt,Gs,Gr,Gq,Gp,Go,Gn,Gm,Gl].getD i .none),R⟩
theorem W2.upd54(x:W2){N:Nat}{h:Heap}{tab:ae}{a:Addr}{v:Nat→Value}{tk:Nat}(R:Rep x.E54 N h ((a,fP io v tk)::tab) 0){f:Obj→Obj}(hf:f (jm #[])=jm #[.int 36 0,.int 4 0,.ref a])
 {α:Type} {A:Around} {t:Sem α} {Q:α→Shared→Prop} {E:Value→Shared→Prop} {gl:Array GenState} {d:Drawn} {tt:Nat} {os:OsState} (K:∀h',Rep (x.F54 a v tk) N h' tab 0→wpAny (MB (x.F54 a v tk)) A t Q E ⟨h',gl,d,tt,os⟩):
 ∃o,h.get? 54=some o∧wpAny (MB x.E54) A t Q E ⟨h.update 54 f,gl,d,tt,os⟩:=
 ⟨_,R.inv.2 _ (List.mem_singleton.mpr rfl),K _ (x.grow54 R hf)⟩
theorem W2.upd61(x:W2){N:Nat}{h:Heap}{tab:ae}{a:Addr}{v:Nat→Value}{tk:Nat}(R:Rep x.E61 N h ((a,fP im v tk)::tab) 0){f:Obj→Obj}(hf:f (jm #[])=jm #[.int 51 0,.int 4 0,.ref a])
 {α:Type} {A:Around} {t:Sem α} {Q:α→Shared→Prop} {E:Value→Shared→Prop} {gl:Array GenState} {d:Drawn} {tt:Nat} {os:OsState} (K:∀h',Rep (x.F61 a v tk) N h' tab 0→wpAny (MB (x.F61 a v tk)) A t Q E ⟨h',gl,d,tt,os⟩):
 ∃o,h.get? 61=some o∧wpAny (MB x.E61) A t Q E ⟨h.update 61 f,gl,d,tt,os⟩:=
 ⟨_,R.inv.2 _ (List.mem_singleton.mpr rfl),K _ (x.grow61 R hf)⟩
theorem b7.shape{k S:Int}{r g b:Value}(h:b7 k S r g b):(∃i t x u y v,r=.int i t∧g=.float x u∧b=.float y v)∨(∃i t x u y v,r=.float x u∧g=.int i t∧b=.float y v)∨(∃i t x u y v,r=.float x u∧g=.float y v∧b=.int i t):=by
 obtain⟨j,F,G,tc,u,v,_,_,_,rU,uu,_,e⟩:=h
 obtain rfl|rfl|rfl|rfl|rfl|rfl:j=0∨j=1∨j=2∨j=3∨j=4∨j=5:=by exact zY rU uu
 ·exact .inl ⟨_,_,_,_,_,_,dN e⟩
 ·exact .inr (.inl ⟨_,_,_,_,_,_,dN e⟩)
 ·exact .inr (.inl ⟨_,_,_,_,_,_,dN e⟩)
 ·exact .inr (.inr ⟨_,_,_,_,_,_,dN e⟩)
 ·exact .inr (.inr ⟨_,_,_,_,_,_,dN e⟩)
 ·exact .inl ⟨_,_,_,_,_,_,dN e⟩
theorem Ar(x:W2)(A:Around)(hh:A.handled=none)(hA:A.depth<800)(R:Result→Shared→Prop)(p cnt k S:Int)(eP:cnt%2=0)(hS:bg S)(aO:0≤k)(hk:k<2^20)
 (items:Array Value) (ax ay el eW it sh hu F:Addr) (n0:Nat) (rx gx bx ry gy bY:Value) (hc:b7 k S rx gx bx)
 (k0 k1 k2 k3 k4 tb tc:Nat) (N t:Nat) (h:Heap) (gl d os) (rest:ae)
 (Rp:Rep x.B N h ((it,⟨.type "list_iterator",none,.fields #[.ref eW,.int 0 0],#[]⟩)::(eW,an #[.ref ax,.ref ay] 0)::(sh,an #[] 0)::(hu,an #[] 0)::(F,⟨.type "frame",none,.dict #[En x.B bi k0 (.ref el),En x.B aA k1 (.int p tb),En x.B bl k2 (.int cnt tc),En x.B dw k3 (.ref sh),En x.B dF k4 (.ref hu)] 5,#[]⟩)::(el,an items n0)::(ax,cq rx gx bx)::(ay,cq ry gy bY)::rest) 0)
 (K:∀h' N' t' k5 k6 k7 vr vg vb k8 v8 k9 v9 bB ly u2 u3,Rep x.B N' h' ((it,⟨.type "list_iterator",none,.fields #[.ref eW,.int 1 0],#[]⟩)::(eW,an #[.ref ax,.ref ay] 0)::(sh,an #[.float (fl S) u3] 1)::(hu,an #[.int k u2] 1)::(F,⟨.type "frame",none,.dict #[En x.B bi k0 (.ref el),En x.B aA k1 (.int p tb),En x.B bl k2 (.int cnt tc),En x.B dw k3 (.ref sh),En x.B dF k4 (.ref hu),En x.B c9 k5 vr,En x.B bJ k6 vg,En x.B ch k7 vb,En x.B d6 k8 v8,En x.B cu k9 v9,En x.B dT bB ly] 11,#[]⟩)::(el,an items n0)::(ax,cq rx gx bx)::(ay,cq ry gy bY)::rest) 0→codeAny (MB x.B) A (ai (ah x.B 277 1) (.ref it) (envOf (fdOf x.B 277) 277 F)) R ⟨h',gl,d,t',os⟩):
 codeAny (MB x.B) A (ai (ah x.B 277 1) (.ref it) (envOf (fdOf x.B 277) 277 F)) R ⟨h,gl,d,t,os⟩:=by
 have aU:0<S∧S≤2^24:=by rcases hS with rfl|rfl<;>decide
 have qa:16*k*2^20/2^24=k:=by exact fV
 have hL:2*(2^24-S/2)=2^25-S:=by rcases hS with rfl|rfl<;>decide
 rcases hc.shape with⟨i,ti,fx,ux,fy,uy,rfl,rfl,rfl⟩|⟨i,ti,fx,ux,fy,uy,rfl,rfl,rfl⟩|⟨i,ti,fx,ux,fy,uy,rfl,rfl,rfl⟩
 ·refine af ?_
  refine aa hh Rp [aI "int.__mod__" [.int (cnt) tc,.int 2 (t+3)] (0)] 121 (dA 0x4d34d04108d24d24d24d18218d18618118218d18618118218d18618118218d18618118630130c3060861c6186046) (dM 8) (cR 94 [.int (i) ti,.float (fx) ux,.float (fy) uy]) [] [.u fun _=>oI "list_iterator" #[.ref eW,.int 1 0],.k,.k,.k,.u (dU [] [En x.B c9 (t+0) (.int (i) ti),En x.B bJ (t+1) (.float (fx) ux),En x.B ch (t+2) (.float (fy) uy)] 8)] 3 5 ?_ (aC (aG (by decide) (by rw[Int.fmod_eq_emod_of_nonneg _ (by decide)];exact tK eP)) aN)
  intro bT h1 N1 t1 Rp eE
  refine ct x (A.under _) hh (by show A.depth+0<900;exact fB hA) _ k S aO hk hS _ _ _ hc _ _ _ _ _ _ _ Rp fun gw jn ap ac uc vc wc hw Rp=>?_
  rcases hw with⟨iw,tw⟩|⟨xw,tw⟩
  ·refine ab hh Rp [aI "int.__pow__" [.int 2 (ap+3),.int 20 (ap+4)] (1048576),aF "float.__mul__" [.float (fl (16*k)) uc,.int 1048576 (ap+5)] (16*k*2^20),aI "float.__int__" [.float (fl (16*k*2^20)) (ap+6)] (k)] 151 (dA 0xc20c30138c30c30e34934d04110104308e04134d34d38a38a38a3860861c61860460861c61860460861c61860460861c6186046186046186) (dM 8) (Fin.again (ai (ah x.B 277 1) (.ref it) (envOf (fdOf x.B 277) 277 F))) [] [.d,.k,.k,.u fun _=>oL #[.float (fl S) vc] 1,.u fun _=>oL #[.int (k) (ap+7)] 1,.u (dU [] [En x.B d6 (ap+0) (.float (fl (16*k)) uc),En x.B cu (ap+1) (.float (fl S) vc),En x.B dT (ap+2) (.int (iw) tw)] 11)] 3 8 ?_ (aC (aS (by decide) (by decide) (by decide) (by decide)) (aC (aP rfl (by exact gV aO hk) (by unfold ag;decide) (by exact dO aO hk) (by exact gF aO) (by decide) (by exact gU)) (aC (aV rfl (by exact dO aO hk) (by exact gT aO) (by exact fV)) aN)))
   intro bW h2 N2 t2 Rp
   exact⟨rfl,K _ _ _ _ _ _ _ _ _ _ _ _ _ _ _ _ _ Rp⟩
  ·refine ab hh Rp [aI "int.__pow__" [.int 2 (ap+3),.int 20 (ap+4)] (1048576),aF "float.__mul__" [.float (fl (16*k)) uc,.int 1048576 (ap+5)] (16*k*2^20),aI "float.__int__" [.float (fl (16*k*2^20)) (ap+6)] (k)] 151 (dA 0xc20c30138c30c30e34934d04110104308e04134d34d38a38a38a3860861c61860460861c61860460861c61860460861c6186046186046186) (dM 8) (Fin.again (ai (ah x.B 277 1) (.ref it) (envOf (fdOf x.B 277) 277 F))) [] [.d,.k,.k,.u fun _=>oL #[.float (fl S) vc] 1,.u fun _=>oL #[.int (k) (ap+7)] 1,.u (dU [] [En x.B d6 (ap+0) (.float (fl (16*k)) uc),En x.B cu (ap+1) (.float (fl S) vc),En x.B dT (ap+2) (.float (xw) tw)] 11)] 3 8 ?_ (aC (aS (by decide) (by decide) (by decide) (by decide)) (aC (aP rfl (by exact gV aO hk) (by unfold ag;decide) (by exact dO aO hk) (by exact gF aO) (by decide) (by exact gU)) (aC (aV rfl (by exact dO aO hk) (by exact gT aO) (by exact fV)) aN)))
   intro bW h2 N2 t2 Rp
   exact⟨rfl,K _ _ _ _ _ _ _ _ _ _ _ _ _ _ _ _ _ Rp⟩
 ·refine af ?_
  refine aa hh Rp [aI "int.__mod__" [.int (cnt) tc,.int 2 (t+3)] (0)] 121 (dA 0x4d34d04108d24d24d24d18218d18618118218d18618118218d18618118218d18618118630130c3060861c6186046) (dM 8) (cR 94 [.float (fx) ux,.int (i) ti,.float (fy) uy]) [] [.u fun _=>oI "list_iterator" #[.ref eW,.int 1 0],.k,.k,.k,.u (dU [] [En x.B c9 (t+0) (.float (fx) ux),En x.B bJ (t+1) (.int (i) ti),En x.B ch (t+2) (.float (fy) uy)] 8)] 3 5 ?_ (aC (aG (by decide) (by rw[Int.fmod_eq_emod_of_nonneg _ (by decide)];exact tK eP)) aN)
  intro bT h1 N1 t1 Rp eE
  refine ct x (A.under _) hh (by show A.depth+0<900;exact fB hA) _ k S aO hk hS _ _ _ hc _ _ _ _ _ _ _ Rp fun gw jn ap ac uc vc wc hw Rp=>?_
  rcases hw with⟨iw,tw⟩|⟨xw,tw⟩
  ·refine ab hh Rp [aI "int.__pow__" [.int 2 (ap+3),.int 20 (ap+4)] (1048576),aF "float.__mul__" [.float (fl (16*k)) uc,.int 1048576 (ap+5)] (16*k*2^20),aI "float.__int__" [.float (fl (16*k*2^20)) (ap+6)] (k)] 151 (dA 0xc20c30138c30c30e34934d04110104308e04134d34d38a38a38a3860861c61860460861c61860460861c61860460861c6186046186046186) (dM 8) (Fin.again (ai (ah x.B 277 1) (.ref it) (envOf (fdOf x.B 277) 277 F))) [] [.d,.k,.k,.u fun _=>oL #[.float (fl S) vc] 1,.u fun _=>oL #[.int (k) (ap+7)] 1,.u (dU [] [En x.B d6 (ap+0) (.float (fl (16*k)) uc),En x.B cu (ap+1) (.float (fl S) vc),En x.B dT (ap+2) (.int (iw) tw)] 11)] 3 8 ?_ (aC (aS (by decide) (by decide) (by decide) (by decide)) (aC (aP rfl (by exact gV aO hk) (by unfold ag;decide) (by exact dO aO hk) (by exact gF aO) (by decide) (by exact gU)) (aC (aV rfl (by exact dO aO hk) (by exact gT aO) (by exact fV)) aN)))
   intro bW h2 N2 t2 Rp
   exact⟨rfl,K _ _ _ _ _ _ _ _ _ _ _ _ _ _ _ _ _ Rp⟩
  ·refine ab hh Rp [aI "int.__pow__" [.int 2 (ap+3),.int 20 (ap+4)] (1048576),aF "float.__mul__" [.float (fl (16*k)) uc,.int 1048576 (ap+5)] (16*k*2^20),aI "float.__int__" [.float (fl (16*k*2^20)) (ap+6)] (k)] 151 (dA 0xc20c30138c30c30e34934d04110104308e04134d34d38a38a38a3860861c61860460861c61860460861c61860460861c6186046186046186) (dM 8) (Fin.again (ai (ah x.B 277 1) (.ref it) (envOf (fdOf x.B 277) 277 F))) [] [.d,.k,.k,.u fun _=>oL #[.float (fl S) vc] 1,.u fun _=>oL #[.int (k) (ap+7)] 1,.u (dU [] [En x.B d6 (ap+0) (.float (fl (16*k)) uc),En x.B cu (ap+1) (.float (fl S) vc),En x.B dT (ap+2) (.float (xw) tw)] 11)] 3 8 ?_ (aC (aS (by decide) (by decide) (by decide) (by decide)) (aC (aP rfl (by exact gV aO hk) (by unfold ag;decide) (by exact dO aO hk) (by exact gF aO) (by decide) (by exact gU)) (aC (aV rfl (by exact dO aO hk) (by exact gT aO) (by exact fV)) aN)))
   intro bW h2 N2 t2 Rp
   exact⟨rfl,K _ _ _ _ _ _ _ _ _ _ _ _ _ _ _ _ _ Rp⟩
 ·refine af ?_
  refine aa hh Rp [aI "int.__mod__" [.int (cnt) tc,.int 2 (t+3)] (0)] 121 (dA 0x4d34d04108d24d24d24d18218d18618118218d18618118218d18618118218d18618118630130c3060861c6186046) (dM 8) (cR 94 [.float (fx) ux,.float (fy) uy,.int (i) ti]) [] [.u fun _=>oI "list_iterator" #[.ref eW,.int 1 0],.k,.k,.k,.u (dU [] [En x.B c9 (t+0) (.float (fx) ux),En x.B bJ (t+1) (.float (fy) uy),En x.B ch (t+2) (.int (i) ti)] 8)] 3 5 ?_ (aC (aG (by decide) (by rw[Int.fmod_eq_emod_of_nonneg _ (by decide)];exact tK eP)) aN)
  intro bT h1 N1 t1 Rp eE
  refine ct x (A.under _) hh (by show A.depth+0<900;exact fB hA) _ k S aO hk hS _ _ _ hc _ _ _ _ _ _ _ Rp fun gw jn ap ac uc vc wc hw Rp=>?_
  rcases hw with⟨iw,tw⟩|⟨xw,tw⟩
  ·refine ab hh Rp [aI "int.__pow__" [.int 2 (ap+3),.int 20 (ap+4)] (1048576),aF "float.__mul__" [.float (fl (16*k)) uc,.int 1048576 (ap+5)] (16*k*2^20),aI "float.__int__" [.float (fl (16*k*2^20)) (ap+6)] (k)] 151 (dA 0xc20c30138c30c30e34934d04110104308e04134d34d38a38a38a3860861c61860460861c61860460861c61860460861c6186046186046186) (dM 8) (Fin.again (ai (ah x.B 277 1) (.ref it) (envOf (fdOf x.B 277) 277 F))) [] [.d,.k,.k,.u fun _=>oL #[.float (fl S) vc] 1,.u fun _=>oL #[.int (k) (ap+7)] 1,.u (dU [] [En x.B d6 (ap+0) (.float (fl (16*k)) uc),En x.B cu (ap+1) (.float (fl S) vc),En x.B dT (ap+2) (.int (iw) tw)] 11)] 3 8 ?_ (aC (aS (by decide) (by decide) (by decide) (by decide)) (aC (aP rfl (by exact gV aO hk) (by unfold ag;decide) (by exact dO aO hk) (by exact gF aO) (by decide) (by exact gU)) (aC (aV rfl (by exact dO aO hk) (by exact gT aO) (by exact fV)) aN)))
   intro bW h2 N2 t2 Rp
   exact⟨rfl,K _ _ _ _ _ _ _ _ _ _ _ _ _ _ _ _ _ Rp⟩
  ·refine ab hh Rp [aI "int.__pow__" [.int 2 (ap+3),.int 20 (ap+4)] (1048576),aF "float.__mul__" [.float (fl (16*k)) uc,.int 1048576 (ap+5)] (16*k*2^20),aI "float.__int__" [.float (fl (16*k*2^20)) (ap+6)] (k)] 151 (dA 0xc20c30138c30c30e34934d04110104308e04134d34d38a38a38a3860861c61860460861c61860460861c61860460861c6186046186046186) (dM 8) (Fin.again (ai (ah x.B 277 1) (.ref it) (envOf (fdOf x.B 277) 277 F))) [] [.d,.k,.k,.u fun _=>oL #[.float (fl S) vc] 1,.u fun _=>oL #[.int (k) (ap+7)] 1,.u (dU [] [En x.B d6 (ap+0) (.float (fl (16*k)) uc),En x.B cu (ap+1) (.float (fl S) vc),En x.B dT (ap+2) (.float (xw) tw)] 11)] 3 8 ?_ (aC (aS (by decide) (by decide) (by decide) (by decide)) (aC (aP rfl (by exact gV aO hk) (by unfold ag;decide) (by exact dO aO hk) (by exact gF aO) (by decide) (by exact gU)) (aC (aV rfl (by exact dO aO hk) (by exact gT aO) (by exact fV)) aN)))
   intro bW h2 N2 t2 Rp
   exact⟨rfl,K _ _ _ _ _ _ _ _ _ _ _ _ _ _ _ _ _ Rp⟩
theorem Ap(x:W2)(A:Around)(hh:A.handled=none)(hA:A.depth<800)(R:Result→Shared→Prop)(p cnt k S:Int)(kx:Int)(u1:Nat)(s0:Value)(eP:cnt%2=0)(hS:bg S)(aO:0≤k)(hk:k<2^20)
 (items:Array Value) (ax ay el eW it sh hu F:Addr) (n0:Nat) (rx gx bx ry gy bY:Value) (hc:b7 k S ry gy bY)
 (k0 k1 k2 k3 k4 tb tc:Nat) (vr vg vb v8 v9 ly:Value) (k5 k6 k7 k8 k9 bB:Nat) (N t:Nat) (h:Heap) (gl d os) (rest:ae)
 (Rp:Rep x.B N h ((it,⟨.type "list_iterator",none,.fields #[.ref eW,.int 1 0],#[]⟩)::(eW,an #[.ref ax,.ref ay] 0)::(sh,an #[s0] 1)::(hu,an #[.int kx u1] 1)::(F,⟨.type "frame",none,.dict #[En x.B bi k0 (.ref el),En x.B aA k1 (.int p tb),En x.B bl k2 (.int cnt tc),En x.B dw k3 (.ref sh),En x.B dF k4 (.ref hu),En x.B c9 k5 vr,En x.B bJ k6 vg,En x.B ch k7 vb,En x.B d6 k8 v8,En x.B cu k9 v9,En x.B dT bB ly] 11,#[]⟩)::(el,an items n0)::(ax,cq rx gx bx)::(ay,cq ry gy bY)::rest) 0)
 (K:∀h' N' t' k5 k6 k7 vr vg vb k8 v8 k9 v9 bB ly u2 u3,Rep x.B N' h' ((it,⟨.type "list_iterator",none,.fields #[.ref eW,.int 2 0],#[]⟩)::(eW,an #[.ref ax,.ref ay] 0)::(sh,an #[s0,.float (fl S) u3] 2)::(hu,an #[.int kx u1,.int k u2] 2)::(F,⟨.type "frame",none,.dict #[En x.B bi k0 (.ref el),En x.B aA k1 (.int p tb),En x.B bl k2 (.int cnt tc),En x.B dw k3 (.ref sh),En x.B dF k4 (.ref hu),En x.B c9 k5 vr,En x.B bJ k6 vg,En x.B ch k7 vb,En x.B d6 k8 v8,En x.B cu k9 v9,En x.B dT bB ly] 11,#[]⟩)::(el,an items n0)::(ax,cq rx gx bx)::(ay,cq ry gy bY)::rest) 0→codeAny (MB x.B) A (ai (ah x.B 277 1) (.ref it) (envOf (fdOf x.B 277) 277 F)) R ⟨h',gl,d,t',os⟩):
 codeAny (MB x.B) A (ai (ah x.B 277 1) (.ref it) (envOf (fdOf x.B 277) 277 F)) R ⟨h,gl,d,t,os⟩:=by
 have aU:0<S∧S≤2^24:=by rcases hS with rfl|rfl<;>decide
 have qa:16*k*2^20/2^24=k:=by exact fV
 have hL:2*(2^24-S/2)=2^25-S:=by rcases hS with rfl|rfl<;>decide
 rcases hc.shape with⟨i,ti,fx,ux,fy,uy,rfl,rfl,rfl⟩|⟨i,ti,fx,ux,fy,uy,rfl,rfl,rfl⟩|⟨i,ti,fx,ux,fy,uy,rfl,rfl,rfl⟩
 ·refine af ?_
  refine aa hh Rp [aI "int.__mod__" [.int (cnt) tc,.int 2 (t+3)] (0)] 121 (dA 0x4d34d04108d24d24d24d18218e18618118218e18618118218e18618118218e18618118634134d3460861c6186046) (dM 8) (cR 94 [.int (i) ti,.float (fx) ux,.float (fy) uy]) [] [.u fun _=>oI "list_iterator" #[.ref eW,.int 2 0],.k,.k,.k,.u (dU [(5,.int (i) ti),(6,.float (fx) ux),(7,.float (fy) uy)] [] 11)] 3 5 ?_ (aC (aG (by decide) (by rw[Int.fmod_eq_emod_of_nonneg _ (by decide)];exact tK eP)) aN)
  intro bT h1 N1 t1 Rp eE
  refine ct x (A.under _) hh (by show A.depth+0<900;exact fB hA) _ k S aO hk hS _ _ _ hc _ _ _ _ _ _ _ Rp fun gw jn ap ac uc vc wc hw Rp=>?_
  rcases hw with⟨iw,tw⟩|⟨xw,tw⟩
  ·refine ab hh Rp [aI "int.__pow__" [.int 2 (ap+3),.int 20 (ap+4)] (1048576),aF "float.__mul__" [.float (fl (16*k)) uc,.int 1048576 (ap+5)] (16*k*2^20),aI "float.__int__" [.float (fl (16*k*2^20)) (ap+6)] (k)] 151 (dA 0xc20c30138c30c30e34934d04110104308e04134d34d38a38a38a3860861c61860460861c61860460861c61860460861c6186046186046186) (dM 8) (Fin.again (ai (ah x.B 277 1) (.ref it) (envOf (fdOf x.B 277) 277 F))) [] [.d,.k,.k,.u fun _=>oL #[s0,.float (fl S) vc] 2,.u fun _=>oL #[.int (kx) u1,.int (k) (ap+7)] 2,.u (dU [(8,.float (fl (16*k)) uc),(9,.float (fl S) vc),(10,.int (iw) tw)] [] 11)] 3 8 ?_ (aC (aS (by decide) (by decide) (by decide) (by decide)) (aC (aP rfl (by exact gV aO hk) (by unfold ag;decide) (by exact dO aO hk) (by exact gF aO) (by decide) (by exact gU)) (aC (aV rfl (by exact dO aO hk) (by exact gT aO) (by exact fV)) aN)))
   intro bW h2 N2 t2 Rp
   exact⟨rfl,K _ _ _ _ _ _ _ _ _ _ _ _ _ _ _ _ _ Rp⟩
  ·refine ab hh Rp [aI "int.__pow__" [.int 2 (ap+3),.int 20 (ap+4)] (1048576),aF "float.__mul__" [.float (fl (16*k)) uc,.int 1048576 (ap+5)] (16*k*2^20),aI "float.__int__" [.float (fl (16*k*2^20)) (ap+6)] (k)] 151 (dA 0xc20c30138c30c30e34934d04110104308e04134d34d38a38a38a3860861c61860460861c61860460861c61860460861c6186046186046186) (dM 8) (Fin.again (ai (ah x.B 277 1) (.ref it) (envOf (fdOf x.B 277) 277 F))) [] [.d,.k,.k,.u fun _=>oL #[s0,.float (fl S) vc] 2,.u fun _=>oL #[.int (kx) u1,.int (k) (ap+7)] 2,.u (dU [(8,.float (fl (16*k)) uc),(9,.float (fl S) vc),(10,.float (xw) tw)] [] 11)] 3 8 ?_ (aC (aS (by decide) (by decide) (by decide) (by decide)) (aC (aP rfl (by exact gV aO hk) (by unfold ag;decide) (by exact dO aO hk) (by exact gF aO) (by decide) (by exact gU)) (aC (aV rfl (by exact dO aO hk) (by exact gT aO) (by exact fV)) aN)))
   intro bW h2 N2 t2 Rp
   exact⟨rfl,K _ _ _ _ _ _ _ _ _ _ _ _ _ _ _ _ _ Rp⟩
 ·refine af ?_
  refine aa hh Rp [aI "int.__mod__" [.int (cnt) tc,.int 2 (t+3)] (0)] 121 (dA 0x4d34d04108d24d24d24d18218e18618118218e18618118218e18618118218e18618118634134d3460861c6186046) (dM 8) (cR 94 [.float (fx) ux,.int (i) ti,.float (fy) uy]) [] [.u fun _=>oI "list_iterator" #[.ref eW,.int 2 0],.k,.k,.k,.u (dU [(5,.float (fx) ux),(6,.int (i) ti),(7,.float (fy) uy)] [] 11)] 3 5 ?_ (aC (aG (by decide) (by rw[Int.fmod_eq_emod_of_nonneg _ (by decide)];exact tK eP)) aN)
  intro bT h1 N1 t1 Rp eE
  refine ct x (A.under _) hh (by show A.depth+0<900;exact fB hA) _ k S aO hk hS _ _ _ hc _ _ _ _ _ _ _ Rp fun gw jn ap ac uc vc wc hw Rp=>?_
  rcases hw with⟨iw,tw⟩|⟨xw,tw⟩
  ·refine ab hh Rp [aI "int.__pow__" [.int 2 (ap+3),.int 20 (ap+4)] (1048576),aF "float.__mul__" [.float (fl (16*k)) uc,.int 1048576 (ap+5)] (16*k*2^20),aI "float.__int__" [.float (fl (16*k*2^20)) (ap+6)] (k)] 151 (dA 0xc20c30138c30c30e34934d04110104308e04134d34d38a38a38a3860861c61860460861c61860460861c61860460861c6186046186046186) (dM 8) (Fin.again (ai (ah x.B 277 1) (.ref it) (envOf (fdOf x.B 277) 277 F))) [] [.d,.k,.k,.u fun _=>oL #[s0,.float (fl S) vc] 2,.u fun _=>oL #[.int (kx) u1,.int (k) (ap+7)] 2,.u (dU [(8,.float (fl (16*k)) uc),(9,.float (fl S) vc),(10,.int (iw) tw)] [] 11)] 3 8 ?_ (aC (aS (by decide) (by decide) (by decide) (by decide)) (aC (aP rfl (by exact gV aO hk) (by unfold ag;decide) (by exact dO aO hk) (by exact gF aO) (by decide) (by exact gU)) (aC (aV rfl (by exact dO aO hk) (by exact gT aO) (by exact fV)) aN)))
   intro bW h2 N2 t2 Rp
   exact⟨rfl,K _ _ _ _ _ _ _ _ _ _ _ _ _ _ _ _ _ Rp⟩
  ·refine ab hh Rp [aI "int.__pow__" [.int 2 (ap+3),.int 20 (ap+4)] (1048576),aF "float.__mul__" [.float (fl (16*k)) uc,.int 1048576 (ap+5)] (16*k*2^20),aI "float.__int__" [.float (fl (16*k*2^20)) (ap+6)] (k)] 151 (dA 0xc20c30138c30c30e34934d04110104308e04134d34d38a38a38a3860861c61860460861c61860460861c61860460861c6186046186046186) (dM 8) (Fin.again (ai (ah x.B 277 1) (.ref it) (envOf (fdOf x.B 277) 277 F))) [] [.d,.k,.k,.u fun _=>oL #[s0,.float (fl S) vc] 2,.u fun _=>oL #[.int (kx) u1,.int (k) (ap+7)] 2,.u (dU [(8,.float (fl (16*k)) uc),(9,.float (fl S) vc),(10,.float (xw) tw)] [] 11)] 3 8 ?_ (aC (aS (by decide) (by decide) (by decide) (by decide)) (aC (aP rfl (by exact gV aO hk) (by unfold ag;decide) (by exact dO aO hk) (by exact gF aO) (by decide) (by exact gU)) (aC (aV rfl (by exact dO aO hk) (by exact gT aO) (by exact fV)) aN)))
   intro bW h2 N2 t2 Rp
   exact⟨rfl,K _ _ _ _ _ _ _ _ _ _ _ _ _ _ _ _ _ Rp⟩
 ·refine af ?_
  refine aa hh Rp [aI "int.__mod__" [.int (cnt) tc,.int 2 (t+3)] (0)] 121 (dA 0x4d34d04108d24d24d24d18218e18618118218e18618118218e18618118218e18618118634134d3460861c6186046) (dM 8) (cR 94 [.float (fx) ux,.float (fy) uy,.int (i) ti]) [] [.u fun _=>oI "list_iterator" #[.ref eW,.int 2 0],.k,.k,.k,.u (dU [(5,.float (fx) ux),(6,.float (fy) uy),(7,.int (i) ti)] [] 11)] 3 5 ?_ (aC (aG (by decide) (by rw[Int.fmod_eq_emod_of_nonneg _ (by decide)];exact tK eP)) aN)
  intro bT h1 N1 t1 Rp eE
  refine ct x (A.under _) hh (by show A.depth+0<900;exact fB hA) _ k S aO hk hS _ _ _ hc _ _ _ _ _ _ _ Rp fun gw jn ap ac uc vc wc hw Rp=>?_
  rcases hw with⟨iw,tw⟩|⟨xw,tw⟩
  ·refine ab hh Rp [aI "int.__pow__" [.int 2 (ap+3),.int 20 (ap+4)] (1048576),aF "float.__mul__" [.float (fl (16*k)) uc,.int 1048576 (ap+5)] (16*k*2^20),aI "float.__int__" [.float (fl (16*k*2^20)) (ap+6)] (k)] 151 (dA 0xc20c30138c30c30e34934d04110104308e04134d34d38a38a38a3860861c61860460861c61860460861c61860460861c6186046186046186) (dM 8) (Fin.again (ai (ah x.B 277 1) (.ref it) (envOf (fdOf x.B 277) 277 F))) [] [.d,.k,.k,.u fun _=>oL #[s0,.float (fl S) vc] 2,.u fun _=>oL #[.int (kx) u1,.int (k) (ap+7)] 2,.u (dU [(8,.float (fl (16*k)) uc),(9,.float (fl S) vc),(10,.int (iw) tw)] [] 11)] 3 8 ?_ (aC (aS (by decide) (by decide) (by decide) (by decide)) (aC (aP rfl (by exact gV aO hk) (by unfold ag;decide) (by exact dO aO hk) (by exact gF aO) (by decide) (by exact gU)) (aC (aV rfl (by exact dO aO hk) (by exact gT aO) (by exact fV)) aN)))
   intro bW h2 N2 t2 Rp
   exact⟨rfl,K _ _ _ _ _ _ _ _ _ _ _ _ _ _ _ _ _ Rp⟩
  ·refine ab hh Rp [aI "int.__pow__" [.int 2 (ap+3),.int 20 (ap+4)] (1048576),aF "float.__mul__" [.float (fl (16*k)) uc,.int 1048576 (ap+5)] (16*k*2^20),aI "float.__int__" [.float (fl (16*k*2^20)) (ap+6)] (k)] 151 (dA 0xc20c30138c30c30e34934d04110104308e04134d34d38a38a38a3860861c61860460861c61860460861c61860460861c6186046186046186) (dM 8) (Fin.again (ai (ah x.B 277 1) (.ref it) (envOf (fdOf x.B 277) 277 F))) [] [.d,.k,.k,.u fun _=>oL #[s0,.float (fl S) vc] 2,.u fun _=>oL #[.int (kx) u1,.int (k) (ap+7)] 2,.u (dU [(8,.float (fl (16*k)) uc),(9,.float (fl S) vc),(10,.float (xw) tw)] [] 11)] 3 8 ?_ (aC (aS (by decide) (by decide) (by decide) (by decide)) (aC (aP rfl (by exact gV aO hk) (by unfold ag;decide) (by exact dO aO hk) (by exact gF aO) (by decide) (by exact gU)) (aC (aV rfl (by exact dO aO hk) (by exact gT aO) (by exact fV)) aN)))
   intro bW h2 N2 t2 Rp
   exact⟨rfl,K _ _ _ _ _ _ _ _ _ _ _ _ _ _ _ _ _ Rp⟩
theorem Aq(x:W2)(A:Around)(hh:A.handled=none)(hA:A.depth<800)(R:Result→Shared→Prop)(p cnt k S:Int)(eP:cnt%2=1)(hS:bg S)(aO:0≤k)(hk:k<2^20)
 (items:Array Value) (ax ay el eW it sh hu F:Addr) (n0:Nat) (rx gx bx ry gy bY:Value) (hc:b7 k S rx gx bx)
 (k0 k1 k2 k3 k4 tb tc:Nat) (N t:Nat) (h:Heap) (gl d os) (rest:ae)
 (Rp:Rep x.B N h ((it,⟨.type "list_iterator",none,.fields #[.ref eW,.int 0 0],#[]⟩)::(eW,an #[.ref ax,.ref ay] 0)::(sh,an #[] 0)::(hu,an #[] 0)::(F,⟨.type "frame",none,.dict #[En x.B bi k0 (.ref el),En x.B aA k1 (.int p tb),En x.B bl k2 (.int cnt tc),En x.B dw k3 (.ref sh),En x.B dF k4 (.ref hu)] 5,#[]⟩)::(el,an items n0)::(ax,cq rx gx bx)::(ay,cq ry gy bY)::rest) 0)
 (K:∀h' N' t' k5 k6 k7 vr vg vb k8 v8 k9 v9 bB ly u2 u3,Rep x.B N' h' ((it,⟨.type "list_iterator",none,.fields #[.ref eW,.int 1 0],#[]⟩)::(eW,an #[.ref ax,.ref ay] 0)::(sh,an #[.float (fl S) u3] 1)::(hu,an #[.int k u2] 1)::(F,⟨.type "frame",none,.dict #[En x.B bi k0 (.ref el),En x.B aA k1 (.int p tb),En x.B bl k2 (.int cnt tc),En x.B dw k3 (.ref sh),En x.B dF k4 (.ref hu),En x.B c9 k5 vr,En x.B bJ k6 vg,En x.B ch k7 vb,En x.B d6 k8 v8,En x.B eB k9 v9,En x.B cu bB ly] 11,#[]⟩)::(el,an items n0)::(ax,cq rx gx bx)::(ay,cq ry gy bY)::rest) 0→codeAny (MB x.B) A (ai (ah x.B 277 1) (.ref it) (envOf (fdOf x.B 277) 277 F)) R ⟨h',gl,d,t',os⟩):
 codeAny (MB x.B) A (ai (ah x.B 277 1) (.ref it) (envOf (fdOf x.B 277) 277 F)) R ⟨h,gl,d,t,os⟩:=by
 have aU:0<S∧S≤2^24:=by rcases hS with rfl|rfl<;>decide
 have qa:16*k*2^20/2^24=k:=by exact fV
 have hL:2*(2^24-S/2)=2^25-S:=by rcases hS with rfl|rfl<;>decide
 rcases hc.shape with⟨i,ti,fx,ux,fy,uy,rfl,rfl,rfl⟩|⟨i,ti,fx,ux,fy,uy,rfl,rfl,rfl⟩|⟨i,ti,fx,ux,fy,uy,rfl,rfl,rfl⟩
 ·refine af ?_
  refine aa hh Rp [aI "int.__mod__" [.int (cnt) tc,.int 2 (t+3)] (1)] 121 (dA 0x4d34d04108d24d24d24d18218d18618118218d18618118218d18618118218d18618118630130c3060861c6186046) (dM 8) (cR 87 [.int (i) ti,.float (fx) ux,.float (fy) uy]) [] [.u fun _=>oI "list_iterator" #[.ref eW,.int 1 0],.k,.k,.k,.u (dU [] [En x.B c9 (t+0) (.int (i) ti),En x.B bJ (t+1) (.float (fx) ux),En x.B ch (t+2) (.float (fy) uy)] 8)] 3 5 ?_ (aC (aG (by decide) (by rw[Int.fmod_eq_emod_of_nonneg _ (by decide)];exact vn eP)) aN)
  intro bT h1 N1 t1 Rp eE
  refine gh x (A.under _) hh (by show A.depth+0<900;exact fB hA) _ k S aO hk hS _ _ _ hc _ _ _ _ _ _ _ Rp fun gw jn ap ac uc vc wc hw Rp=>?_
  rcases hw with⟨iw,tw⟩|⟨xw,tw⟩
  ·refine ab hh Rp [aF "float.__rmul__" [.float (fl (2^24-S/2)) vc,.int 2 (ap+4)] (2^25-S),aF "float.__rsub__" [.float (fl (2^25-S)) (ap+5),.int 2 (ap+3)] (S),aI "int.__pow__" [.int 2 (ap+8),.int 20 (ap+9)] (1048576),aF "float.__mul__" [.float (fl (16*k)) uc,.int 1048576 (ap+10)] (16*k*2^20),aI "float.__int__" [.float (fl (16*k*2^20)) (ap+11)] (k)] 177 (dA 0x30830c04e30c30c38d24d34104604114438104d34d34e28e0c108138a38a38a3860861c61860460861c61860460861c61860460861c6186046186046186) (dM 8) (Fin.again (ai (ah x.B 277 1) (.ref it) (envOf (fdOf x.B 277) 277 F))) [] [.d,.k,.k,.u fun _=>oL #[.float (fl S) (ap+6)] 1,.u fun _=>oL #[.int (k) (ap+12)] 1,.u (dU [] [En x.B d6 (ap+0) (.float (fl (16*k)) uc),En x.B eB (ap+1) (.float (fl (2^24-S/2)) vc),En x.B cu (ap+2) (.float (fl S) (ap+6))] 11)] 3 13 ?_ (aC (a9 rfl (by exact oN aU) (by unfold ag;decide) (by exact iQ aU) (by exact oM aU) (by decide) (by exact oK hL)) (aC (ao rfl (by exact iQ aU) (by unfold ag;decide) (by exact oJ aU) (by exact oH)) (aC (aS (by decide) (by decide) (by decide) (by decide)) (aC (aP rfl (by exact gV aO hk) (by unfold ag;decide) (by exact dO aO hk) (by exact gF aO) (by decide) (by exact gU)) (aC (aV rfl (by exact dO aO hk) (by exact gT aO) (by exact fV)) aN)))))
   intro bW h2 N2 t2 Rp
   exact⟨rfl,K _ _ _ _ _ _ _ _ _ _ _ _ _ _ _ _ _ Rp⟩
  ·refine ab hh Rp [aF "float.__rmul__" [.float (fl (2^24-S/2)) vc,.int 2 (ap+4)] (2^25-S),aF "float.__rsub__" [.float (fl (2^25-S)) (ap+5),.int 2 (ap+3)] (S),aI "int.__pow__" [.int 2 (ap+8),.int 20 (ap+9)] (1048576),aF "float.__mul__" [.float (fl (16*k)) uc,.int 1048576 (ap+10)] (16*k*2^20),aI "float.__int__" [.float (fl (16*k*2^20)) (ap+11)] (k)] 177 (dA 0x30830c04e30c30c38d24d34104604114438104d34d34e28e0c108138a38a38a3860861c61860460861c61860460861c61860460861c6186046186046186) (dM 8) (Fin.again (ai (ah x.B 277 1) (.ref it) (envOf (fdOf x.B 277) 277 F))) [] [.d,.k,.k,.u fun _=>oL #[.float (fl S) (ap+6)] 1,.u fun _=>oL #[.int (k) (ap+12)] 1,.u (dU [] [En x.B d6 (ap+0) (.float (fl (16*k)) uc),En x.B eB (ap+1) (.float (fl (2^24-S/2)) vc),En x.B cu (ap+2) (.float (fl S) (ap+6))] 11)] 3 13 ?_ (aC (a9 rfl (by exact oN aU) (by unfold ag;decide) (by exact iQ aU) (by exact oM aU) (by decide) (by exact oK hL)) (aC (ao rfl (by exact iQ aU) (by unfold ag;decide) (by exact oJ aU) (by exact oH)) (aC (aS (by decide) (by decide) (by decide) (by decide)) (aC (aP rfl (by exact gV aO hk) (by unfold ag;decide) (by exact dO aO hk) (by exact gF aO) (by decide) (by exact gU)) (aC (aV rfl (by exact dO aO hk) (by exact gT aO) (by exact fV)) aN)))))
   intro bW h2 N2 t2 Rp
   exact⟨rfl,K _ _ _ _ _ _ _ _ _ _ _ _ _ _ _ _ _ Rp⟩
 ·refine af ?_
  refine aa hh Rp [aI "int.__mod__" [.int (cnt) tc,.int 2 (t+3)] (1)] 121 (dA 0x4d34d04108d24d24d24d18218d18618118218d18618118218d18618118218d18618118630130c3060861c6186046) (dM 8) (cR 87 [.float (fx) ux,.int (i) ti,.float (fy) uy]) [] [.u fun _=>oI "list_iterator" #[.ref eW,.int 1 0],.k,.k,.k,.u (dU [] [En x.B c9 (t+0) (.float (fx) ux),En x.B bJ (t+1) (.int (i) ti),En x.B ch (t+2) (.float (fy) uy)] 8)] 3 5 ?_ (aC (aG (by decide) (by rw[Int.fmod_eq_emod_of_nonneg _ (by decide)];exact vn eP)) aN)
  intro bT h1 N1 t1 Rp eE
  refine gh x (A.under _) hh (by show A.depth+0<900;exact fB hA) _ k S aO hk hS _ _ _ hc _ _ _ _ _ _ _ Rp fun gw jn ap ac uc vc wc hw Rp=>?_
  rcases hw with⟨iw,tw⟩|⟨xw,tw⟩
  ·refine ab hh Rp [aF "float.__rmul__" [.float (fl (2^24-S/2)) vc,.int 2 (ap+4)] (2^25-S),aF "float.__rsub__" [.float (fl (2^25-S)) (ap+5),.int 2 (ap+3)] (S),aI "int.__pow__" [.int 2 (ap+8),.int 20 (ap+9)] (1048576),aF "float.__mul__" [.float (fl (16*k)) uc,.int 1048576 (ap+10)] (16*k*2^20),aI "float.__int__" [.float (fl (16*k*2^20)) (ap+11)] (k)] 177 (dA 0x30830c04e30c30c38d24d34104604114438104d34d34e28e0c108138a38a38a3860861c61860460861c61860460861c61860460861c6186046186046186) (dM 8) (Fin.again (ai (ah x.B 277 1) (.ref it) (envOf (fdOf x.B 277) 277 F))) [] [.d,.k,.k,.u fun _=>oL #[.float (fl S) (ap+6)] 1,.u fun _=>oL #[.int (k) (ap+12)] 1,.u (dU [] [En x.B d6 (ap+0) (.float (fl (16*k)) uc),En x.B eB (ap+1) (.float (fl (2^24-S/2)) vc),En x.B cu (ap+2) (.float (fl S) (ap+6))] 11)] 3 13 ?_ (aC (a9 rfl (by exact oN aU) (by unfold ag;decide) (by exact iQ aU) (by exact oM aU) (by decide) (by exact oK hL)) (aC (ao rfl (by exact iQ aU) (by unfold ag;decide) (by exact oJ aU) (by exact oH)) (aC (aS (by decide) (by decide) (by decide) (by decide)) (aC (aP rfl (by exact gV aO hk) (by unfold ag;decide) (by exact dO aO hk) (by exact gF aO) (by decide) (by exact gU)) (aC (aV rfl (by exact dO aO hk) (by exact gT aO) (by exact fV)) aN)))))
   intro bW h2 N2 t2 Rp
   exact⟨rfl,K _ _ _ _ _ _ _ _ _ _ _ _ _ _ _ _ _ Rp⟩
  ·refine ab hh Rp [aF "float.__rmul__" [.float (fl (2^24-S/2)) vc,.int 2 (ap+4)] (2^25-S),aF "float.__rsub__" [.float (fl (2^25-S)) (ap+5),.int 2 (ap+3)] (S),aI "int.__pow__" [.int 2 (ap+8),.int 20 (ap+9)] (1048576),aF "float.__mul__" [.float (fl (16*k)) uc,.int 1048576 (ap+10)] (16*k*2^20),aI "float.__int__" [.float (fl (16*k*2^20)) (ap+11)] (k)] 177 (dA 0x30830c04e30c30c38d24d34104604114438104d34d34e28e0c108138a38a38a3860861c61860460861c61860460861c61860460861c6186046186046186) (dM 8) (Fin.again (ai (ah x.B 277 1) (.ref it) (envOf (fdOf x.B 277) 277 F))) [] [.d,.k,.k,.u fun _=>oL #[.float (fl S) (ap+6)] 1,.u fun _=>oL #[.int (k) (ap+12)] 1,.u (dU [] [En x.B d6 (ap+0) (.float (fl (16*k)) uc),En x.B eB (ap+1) (.float (fl (2^24-S/2)) vc),En x.B cu (ap+2) (.float (fl S) (ap+6))] 11)] 3 13 ?_ (aC (a9 rfl (by exact oN aU) (by unfold ag;decide) (by exact iQ aU) (by exact oM aU) (by decide) (by exact oK hL)) (aC (ao rfl (by exact iQ aU) (by unfold ag;decide) (by exact oJ aU) (by exact oH)) (aC (aS (by decide) (by decide) (by decide) (by decide)) (aC (aP rfl (by exact gV aO hk) (by unfold ag;decide) (by exact dO aO hk) (by exact gF aO) (by decide) (by exact gU)) (aC (aV rfl (by exact dO aO hk) (by exact gT aO) (by exact fV)) aN)))))
   intro bW h2 N2 t2 Rp
   exact⟨rfl,K _ _ _ _ _ _ _ _ _ _ _ _ _ _ _ _ _ Rp⟩
 ·refine af ?_
  refine aa hh Rp [aI "int.__mod__" [.int (cnt) tc,.int 2 (t+3)] (1)] 121 (dA 0x4d34d04108d24d24d24d18218d18618118218d18618118218d18618118218d18618118630130c3060861c6186046) (dM 8) (cR 87 [.float (fx) ux,.float (fy) uy,.int (i) ti]) [] [.u fun _=>oI "list_iterator" #[.ref eW,.int 1 0],.k,.k,.k,.u (dU [] [En x.B c9 (t+0) (.float (fx) ux),En x.B bJ (t+1) (.float (fy) uy),En x.B ch (t+2) (.int (i) ti)] 8)] 3 5 ?_ (aC (aG (by decide) (by rw[Int.fmod_eq_emod_of_nonneg _ (by decide)];exact vn eP)) aN)
  intro bT h1 N1 t1 Rp eE
  refine gh x (A.under _) hh (by show A.depth+0<900;exact fB hA) _ k S aO hk hS _ _ _ hc _ _ _ _ _ _ _ Rp fun gw jn ap ac uc vc wc hw Rp=>?_
  rcases hw with⟨iw,tw⟩|⟨xw,tw⟩
  ·refine ab hh Rp [aF "float.__rmul__" [.float (fl (2^24-S/2)) vc,.int 2 (ap+4)] (2^25-S),aF "float.__rsub__" [.float (fl (2^25-S)) (ap+5),.int 2 (ap+3)] (S),aI "int.__pow__" [.int 2 (ap+8),.int 20 (ap+9)] (1048576),aF "float.__mul__" [.float (fl (16*k)) uc,.int 1048576 (ap+10)] (16*k*2^20),aI "float.__int__" [.float (fl (16*k*2^20)) (ap+11)] (k)] 177 (dA 0x30830c04e30c30c38d24d34104604114438104d34d34e28e0c108138a38a38a3860861c61860460861c61860460861c61860460861c6186046186046186) (dM 8) (Fin.again (ai (ah x.B 277 1) (.ref it) (envOf (fdOf x.B 277) 277 F))) [] [.d,.k,.k,.u fun _=>oL #[.float (fl S) (ap+6)] 1,.u fun _=>oL #[.int (k) (ap+12)] 1,.u (dU [] [En x.B d6 (ap+0) (.float (fl (16*k)) uc),En x.B eB (ap+1) (.float (fl (2^24-S/2)) vc),En x.B cu (ap+2) (.float (fl S) (ap+6))] 11)] 3 13 ?_ (aC (a9 rfl (by exact oN aU) (by unfold ag;decide) (by exact iQ aU) (by exact oM aU) (by decide) (by exact oK hL)) (aC (ao rfl (by exact iQ aU) (by unfold ag;decide) (by exact oJ aU) (by exact oH)) (aC (aS (by decide) (by decide) (by decide) (by decide)) (aC (aP rfl (by exact gV aO hk) (by unfold ag;decide) (by exact dO aO hk) (by exact gF aO) (by decide) (by exact gU)) (aC (aV rfl (by exact dO aO hk) (by exact gT aO) (by exact fV)) aN)))))
   intro bW h2 N2 t2 Rp
   exact⟨rfl,K _ _ _ _ _ _ _ _ _ _ _ _ _ _ _ _ _ Rp⟩
  ·refine ab hh Rp [aF "float.__rmul__" [.float (fl (2^24-S/2)) vc,.int 2 (ap+4)] (2^25-S),aF "float.__rsub__" [.float (fl (2^25-S)) (ap+5),.int 2 (ap+3)] (S),aI "int.__pow__" [.int 2 (ap+8),.int 20 (ap+9)] (1048576),aF "float.__mul__" [.float (fl (16*k)) uc,.int 1048576 (ap+10)] (16*k*2^20),aI "float.__int__" [.float (fl (16*k*2^20)) (ap+11)] (k)] 177 (dA 0x30830c04e30c30c38d24d34104604114438104d34d34e28e0c108138a38a38a3860861c61860460861c61860460861c61860460861c6186046186046186) (dM 8) (Fin.again (ai (ah x.B 277 1) (.ref it) (envOf (fdOf x.B 277) 277 F))) [] [.d,.k,.k,.u fun _=>oL #[.float (fl S) (ap+6)] 1,.u fun _=>oL #[.int (k) (ap+12)] 1,.u (dU [] [En x.B d6 (ap+0) (.float (fl (16*k)) uc),En x.B eB (ap+1) (.float (fl (2^24-S/2)) vc),En x.B cu (ap+2) (.float (fl S) (ap+6))] 11)] 3 13 ?_ (aC (a9 rfl (by exact oN aU) (by unfold ag;decide) (by exact iQ aU) (by exact oM aU) (by decide) (by exact oK hL)) (aC (ao rfl (by exact iQ aU) (by unfold ag;decide) (by exact oJ aU) (by exact oH)) (aC (aS (by decide) (by decide) (by decide) (by decide)) (aC (aP rfl (by exact gV aO hk) (by unfold ag;decide) (by exact dO aO hk) (by exact gF aO) (by decide) (by exact gU)) (aC (aV rfl (by exact dO aO hk) (by exact gT aO) (by exact fV)) aN)))))
   intro bW h2 N2 t2 Rp
   exact⟨rfl,K _ _ _ _ _ _ _ _ _ _ _ _ _ _ _ _ _ Rp⟩
theorem Ao(x:W2)(A:Around)(hh:A.handled=none)(hA:A.depth<800)(R:Result→Shared→Prop)(p cnt k S:Int)(kx:Int)(u1:Nat)(s0:Value)(eP:cnt%2=1)(hS:bg S)(aO:0≤k)(hk:k<2^20)
 (items:Array Value) (ax ay el eW it sh hu F:Addr) (n0:Nat) (rx gx bx ry gy bY:Value) (hc:b7 k S ry gy bY)
 (k0 k1 k2 k3 k4 tb tc:Nat) (vr vg vb v8 v9 ly:Value) (k5 k6 k7 k8 k9 bB:Nat) (N t:Nat) (h:Heap) (gl d os) (rest:ae)
 (Rp:Rep x.B N h ((it,⟨.type "list_iterator",none,.fields #[.ref eW,.int 1 0],#[]⟩)::(eW,an #[.ref ax,.ref ay] 0)::(sh,an #[s0] 1)::(hu,an #[.int kx u1] 1)::(F,⟨.type "frame",none,.dict #[En x.B bi k0 (.ref el),En x.B aA k1 (.int p tb),En x.B bl k2 (.int cnt tc),En x.B dw k3 (.ref sh),En x.B dF k4 (.ref hu),En x.B c9 k5 vr,En x.B bJ k6 vg,En x.B ch k7 vb,En x.B d6 k8 v8,En x.B eB k9 v9,En x.B cu bB ly] 11,#[]⟩)::(el,an items n0)::(ax,cq rx gx bx)::(ay,cq ry gy bY)::rest) 0)
 (K:∀h' N' t' k5 k6 k7 vr vg vb k8 v8 k9 v9 bB ly u2 u3,Rep x.B N' h' ((it,⟨.type "list_iterator",none,.fields #[.ref eW,.int 2 0],#[]⟩)::(eW,an #[.ref ax,.ref ay] 0)::(sh,an #[s0,.float (fl S) u3] 2)::(hu,an #[.int kx u1,.int k u2] 2)::(F,⟨.type "frame",none,.dict #[En x.B bi k0 (.ref el),En x.B aA k1 (.int p tb),En x.B bl k2 (.int cnt tc),En x.B dw k3 (.ref sh),En x.B dF k4 (.ref hu),En x.B c9 k5 vr,En x.B bJ k6 vg,En x.B ch k7 vb,En x.B d6 k8 v8,En x.B eB k9 v9,En x.B cu bB ly] 11,#[]⟩)::(el,an items n0)::(ax,cq rx gx bx)::(ay,cq ry gy bY)::rest) 0→codeAny (MB x.B) A (ai (ah x.B 277 1) (.ref it) (envOf (fdOf x.B 277) 277 F)) R ⟨h',gl,d,t',os⟩):
 codeAny (MB x.B) A (ai (ah x.B 277 1) (.ref it) (envOf (fdOf x.B 277) 277 F)) R ⟨h,gl,d,t,os⟩:=by
 have aU:0<S∧S≤2^24:=by rcases hS with rfl|rfl<;>decide
 have qa:16*k*2^20/2^24=k:=by exact fV
 have hL:2*(2^24-S/2)=2^25-S:=by rcases hS with rfl|rfl<;>decide
 rcases hc.shape with⟨i,ti,fx,ux,fy,uy,rfl,rfl,rfl⟩|⟨i,ti,fx,ux,fy,uy,rfl,rfl,rfl⟩|⟨i,ti,fx,ux,fy,uy,rfl,rfl,rfl⟩
 ·refine af ?_
  refine aa hh Rp [aI "int.__mod__" [.int (cnt) tc,.int 2 (t+3)] (1)] 121 (dA 0x4d34d04108d24d24d24d18218e18618118218e18618118218e18618118218e18618118634134d3460861c6186046) (dM 8) (cR 87 [.int (i) ti,.float (fx) ux,.float (fy) uy]) [] [.u fun _=>oI "list_iterator" #[.ref eW,.int 2 0],.k,.k,.k,.u (dU [(5,.int (i) ti),(6,.float (fx) ux),(7,.float (fy) uy)] [] 11)] 3 5 ?_ (aC (aG (by decide) (by rw[Int.fmod_eq_emod_of_nonneg _ (by decide)];exact vn eP)) aN)
  intro bT h1 N1 t1 Rp eE
  refine gh x (A.under _) hh (by show A.depth+0<900;exact fB hA) _ k S aO hk hS _ _ _ hc _ _ _ _ _ _ _ Rp fun gw jn ap ac uc vc wc hw Rp=>?_
  rcases hw with⟨iw,tw⟩|⟨xw,tw⟩
  ·refine ab hh Rp [aF "float.__rmul__" [.float (fl (2^24-S/2)) vc,.int 2 (ap+4)] (2^25-S),aF "float.__rsub__" [.float (fl (2^25-S)) (ap+5),.int 2 (ap+3)] (S),aI "int.__pow__" [.int 2 (ap+8),.int 20 (ap+9)] (1048576),aF "float.__mul__" [.float (fl (16*k)) uc,.int 1048576 (ap+10)] (16*k*2^20),aI "float.__int__" [.float (fl (16*k*2^20)) (ap+11)] (k)] 177 (dA 0x30830c04e30c30c38d24d34104604114438104d34d34e28e0c108138a38a38a3860861c61860460861c61860460861c61860460861c6186046186046186) (dM 8) (Fin.again (ai (ah x.B 277 1) (.ref it) (envOf (fdOf x.B 277) 277 F))) [] [.d,.k,.k,.u fun _=>oL #[s0,.float (fl S) (ap+6)] 2,.u fun _=>oL #[.int (kx) u1,.int (k) (ap+12)] 2,.u (dU [(8,.float (fl (16*k)) uc),(9,.float (fl (2^24-S/2)) vc),(10,.float (fl S) (ap+6))] [] 11)] 3 13 ?_ (aC (a9 rfl (by exact oN aU) (by unfold ag;decide) (by exact iQ aU) (by exact oM aU) (by decide) (by exact oK hL)) (aC (ao rfl (by exact iQ aU) (by unfold ag;decide) (by exact oJ aU) (by exact oH)) (aC (aS (by decide) (by decide) (by decide) (by decide)) (aC (aP rfl (by exact gV aO hk) (by unfold ag;decide) (by exact dO aO hk) (by exact gF aO) (by decide) (by exact gU)) (aC (aV rfl (by exact dO aO hk) (by exact gT aO) (by exact fV)) aN)))))
   intro bW h2 N2 t2 Rp
   exact⟨rfl,K _ _ _ _ _ _ _ _ _ _ _ _ _ _ _ _ _ Rp⟩
  ·refine ab hh Rp [aF "float.__rmul__" [.float (fl (2^24-S/2)) vc,.int 2 (ap+4)] (2^25-S),aF "float.__rsub__" [.float (fl (2^25-S)) (ap+5),.int 2 (ap+3)] (S),aI "int.__pow__" [.int 2 (ap+8),.int 20 (ap+9)] (1048576),aF "float.__mul__" [.float (fl (16*k)) uc,.int 1048576 (ap+10)] (16*k*2^20),aI "float.__int__" [.float (fl (16*k*2^20)) (ap+11)] (k)] 177 (dA 0x30830c04e30c30c38d24d34104604114438104d34d34e28e0c108138a38a38a3860861c61860460861c61860460861c61860460861c6186046186046186) (dM 8) (Fin.again (ai (ah x.B 277 1) (.ref it) (envOf (fdOf x.B 277) 277 F))) [] [.d,.k,.k,.u fun _=>oL #[s0,.float (fl S) (ap+6)] 2,.u fun _=>oL #[.int (kx) u1,.int (k) (ap+12)] 2,.u (dU [(8,.float (fl (16*k)) uc),(9,.float (fl (2^24-S/2)) vc),(10,.float (fl S) (ap+6))] [] 11)] 3 13 ?_ (aC (a9 rfl (by exact oN aU) (by unfold ag;decide) (by exact iQ aU) (by exact oM aU) (by decide) (by exact oK hL)) (aC (ao rfl (by exact iQ aU) (by unfold ag;decide) (by exact oJ aU) (by exact oH)) (aC (aS (by decide) (by decide) (by decide) (by decide)) (aC (aP rfl (by exact gV aO hk) (by unfold ag;decide) (by exact dO aO hk) (by exact gF aO) (by decide) (by exact gU)) (aC (aV rfl (by exact dO aO hk) (by exact gT aO) (by exact fV)) aN)))))
   intro bW h2 N2 t2 Rp
   exact⟨rfl,K _ _ _ _ _ _ _ _ _ _ _ _ _ _ _ _ _ Rp⟩
 ·refine af ?_
  refine aa hh Rp [aI "int.__mod__" [.int (cnt) tc,.int 2 (t+3)] (1)] 121 (dA 0x4d34d04108d24d24d24d18218e18618118218e18618118218e18618118218e18618118634134d3460861c6186046) (dM 8) (cR 87 [.float (fx) ux,.int (i) ti,.float (fy) uy]) [] [.u fun _=>oI "list_iterator" #[.ref eW,.int 2 0],.k,.k,.k,.u (dU [(5,.float (fx) ux),(6,.int (i) ti),(7,.float (fy) uy)] [] 11)] 3 5 ?_ (aC (aG (by decide) (by rw[Int.fmod_eq_emod_of_nonneg _ (by decide)];exact vn eP)) aN)
  intro bT h1 N1 t1 Rp eE
  refine gh x (A.under _) hh (by show A.depth+0<900;exact fB hA) _ k S aO hk hS _ _ _ hc _ _ _ _ _ _ _ Rp fun gw jn ap ac uc vc wc hw Rp=>?_
  rcases hw with⟨iw,tw⟩|⟨xw,tw⟩
  ·refine ab hh Rp [aF "float.__rmul__" [.float (fl (2^24-S/2)) vc,.int 2 (ap+4)] (2^25-S),aF "float.__rsub__" [.float (fl (2^25-S)) (ap+5),.int 2 (ap+3)] (S),aI "int.__pow__" [.int 2 (ap+8),.int 20 (ap+9)] (1048576),aF "float.__mul__" [.float (fl (16*k)) uc,.int 1048576 (ap+10)] (16*k*2^20),aI "float.__int__" [.float (fl (16*k*2^20)) (ap+11)] (k)] 177 (dA 0x30830c04e30c30c38d24d34104604114438104d34d34e28e0c108138a38a38a3860861c61860460861c61860460861c61860460861c6186046186046186) (dM 8) (Fin.again (ai (ah x.B 277 1) (.ref it) (envOf (fdOf x.B 277) 277 F))) [] [.d,.k,.k,.u fun _=>oL #[s0,.float (fl S) (ap+6)] 2,.u fun _=>oL #[.int (kx) u1,.int (k) (ap+12)] 2,.u (dU [(8,.float (fl (16*k)) uc),(9,.float (fl (2^24-S/2)) vc),(10,.float (fl S) (ap+6))] [] 11)] 3 13 ?_ (aC (a9 rfl (by exact oN aU) (by unfold ag;decide) (by exact iQ aU) (by exact oM aU) (by decide) (by exact oK hL)) (aC (ao rfl (by exact iQ aU) (by unfold ag;decide) (by exact oJ aU) (by exact oH)) (aC (aS (by decide) (by decide) (by decide) (by decide)) (aC (aP rfl (by exact gV aO hk) (by unfold ag;decide) (by exact dO aO hk) (by exact gF aO) (by decide) (by exact gU)) (aC (aV rfl (by exact dO aO hk) (by exact gT aO) (by exact fV)) aN)))))
   intro bW h2 N2 t2 Rp
   exact⟨rfl,K _ _ _ _ _ _ _ _ _ _ _ _ _ _ _ _ _ Rp⟩
  ·refine ab hh Rp [aF "float.__rmul__" [.float (fl (2^24-S/2)) vc,.int 2 (ap+4)] (2^25-S),aF "float.__rsub__" [.float (fl (2^25-S)) (ap+5),.int 2 (ap+3)] (S),aI "int.__pow__" [.int 2 (ap+8),.int 20 (ap+9)] (1048576),aF "float.__mul__" [.float (fl (16*k)) uc,.int 1048576 (ap+10)] (16*k*2^20),aI "float.__int__" [.float (fl (16*k*2^20)) (ap+11)] (k)] 177 (dA 0x30830c04e30c30c38d24d34104604114438104d34d34e28e0c108138a38a38a3860861c61860460861c61860460861c61860460861c6186046186046186) (dM 8) (Fin.again (ai (ah x.B 277 1) (.ref it) (envOf (fdOf x.B 277) 277 F))) [] [.d,.k,.k,.u fun _=>oL #[s0,.float (fl S) (ap+6)] 2,.u fun _=>oL #[.int (kx) u1,.int (k) (ap+12)] 2,.u (dU [(8,.float (fl (16*k)) uc),(9,.float (fl (2^24-S/2)) vc),(10,.float (fl S) (ap+6))] [] 11)] 3 13 ?_ (aC (a9 rfl (by exact oN aU) (by unfold ag;decide) (by exact iQ aU) (by exact oM aU) (by decide) (by exact oK hL)) (aC (ao rfl (by exact iQ aU) (by unfold ag;decide) (by exact oJ aU) (by exact oH)) (aC (aS (by decide) (by decide) (by decide) (by decide)) (aC (aP rfl (by exact gV aO hk) (by unfold ag;decide) (by exact dO aO hk) (by exact gF aO) (by decide) (by exact gU)) (aC (aV rfl (by exact dO aO hk) (by exact gT aO) (by exact fV)) aN)))))
   intro bW h2 N2 t2 Rp
   exact⟨rfl,K _ _ _ _ _ _ _ _ _ _ _ _ _ _ _ _ _ Rp⟩
 ·refine af ?_
  refine aa hh Rp [aI "int.__mod__" [.int (cnt) tc,.int 2 (t+3)] (1)] 121 (dA 0x4d34d04108d24d24d24d18218e18618118218e18618118218e18618118218e18618118634134d3460861c6186046) (dM 8) (cR 87 [.float (fx) ux,.float (fy) uy,.int (i) ti]) [] [.u fun _=>oI "list_iterator" #[.ref eW,.int 2 0],.k,.k,.k,.u (dU [(5,.float (fx) ux),(6,.float (fy) uy),(7,.int (i) ti)] [] 11)] 3 5 ?_ (aC (aG (by decide) (by rw[Int.fmod_eq_emod_of_nonneg _ (by decide)];exact vn eP)) aN)
  intro bT h1 N1 t1 Rp eE
  refine gh x (A.under _) hh (by show A.depth+0<900;exact fB hA) _ k S aO hk hS _ _ _ hc _ _ _ _ _ _ _ Rp fun gw jn ap ac uc vc wc hw Rp=>?_
  rcases hw with⟨iw,tw⟩|⟨xw,tw⟩
  ·refine ab hh Rp [aF "float.__rmul__" [.float (fl (2^24-S/2)) vc,.int 2 (ap+4)] (2^25-S),aF "float.__rsub__" [.float (fl (2^25-S)) (ap+5),.int 2 (ap+3)] (S),aI "int.__pow__" [.int 2 (ap+8),.int 20 (ap+9)] (1048576),aF "float.__mul__" [.float (fl (16*k)) uc,.int 1048576 (ap+10)] (16*k*2^20),aI "float.__int__" [.float (fl (16*k*2^20)) (ap+11)] (k)] 177 (dA 0x30830c04e30c30c38d24d34104604114438104d34d34e28e0c108138a38a38a3860861c61860460861c61860460861c61860460861c6186046186046186) (dM 8) (Fin.again (ai (ah x.B 277 1) (.ref it) (envOf (fdOf x.B 277) 277 F))) [] [.d,.k,.k,.u fun _=>oL #[s0,.float (fl S) (ap+6)] 2,.u fun _=>oL #[.int (kx) u1,.int (k) (ap+12)] 2,.u (dU [(8,.float (fl (16*k)) uc),(9,.float (fl (2^24-S/2)) vc),(10,.float (fl S) (ap+6))] [] 11)] 3 13 ?_ (aC (a9 rfl (by exact oN aU) (by unfold ag;decide) (by exact iQ aU) (by exact oM aU) (by decide) (by exact oK hL)) (aC (ao rfl (by exact iQ aU) (by unfold ag;decide) (by exact oJ aU) (by exact oH)) (aC (aS (by decide) (by decide) (by decide) (by decide)) (aC (aP rfl (by exact gV aO hk) (by unfold ag;decide) (by exact dO aO hk) (by exact gF aO) (by decide) (by exact gU)) (aC (aV rfl (by exact dO aO hk) (by exact gT aO) (by exact fV)) aN)))))
   intro bW h2 N2 t2 Rp
   exact⟨rfl,K _ _ _ _ _ _ _ _ _ _ _ _ _ _ _ _ _ Rp⟩
  ·refine ab hh Rp [aF "float.__rmul__" [.float (fl (2^24-S/2)) vc,.int 2 (ap+4)] (2^25-S),aF "float.__rsub__" [.float (fl (2^25-S)) (ap+5),.int 2 (ap+3)] (S),aI "int.__pow__" [.int 2 (ap+8),.int 20 (ap+9)] (1048576),aF "float.__mul__" [.float (fl (16*k)) uc,.int 1048576 (ap+10)] (16*k*2^20),aI "float.__int__" [.float (fl (16*k*2^20)) (ap+11)] (k)] 177 (dA 0x30830c04e30c30c38d24d34104604114438104d34d34e28e0c108138a38a38a3860861c61860460861c61860460861c61860460861c6186046186046186) (dM 8) (Fin.again (ai (ah x.B 277 1) (.ref it) (envOf (fdOf x.B 277) 277 F))) [] [.d,.k,.k,.u fun _=>oL #[s0,.float (fl S) (ap+6)] 2,.u fun _=>oL #[.int (kx) u1,.int (k) (ap+12)] 2,.u (dU [(8,.float (fl (16*k)) uc),(9,.float (fl (2^24-S/2)) vc),(10,.float (fl S) (ap+6))] [] 11)] 3 13 ?_ (aC (a9 rfl (by exact oN aU) (by unfold ag;decide) (by exact iQ aU) (by exact oM aU) (by decide) (by exact oK hL)) (aC (ao rfl (by exact iQ aU) (by unfold ag;decide) (by exact oJ aU) (by exact oH)) (aC (aS (by decide) (by decide) (by decide) (by decide)) (aC (aP rfl (by exact gV aO hk) (by unfold ag;decide) (by exact dO aO hk) (by exact gF aO) (by decide) (by exact gU)) (aC (aV rfl (by exact dO aO hk) (by exact gT aO) (by exact fV)) aN)))))
   intro bW h2 N2 t2 Rp
   exact⟨rfl,K _ _ _ _ _ _ _ _ _ _ _ _ _ _ _ _ _ Rp⟩
end Mine
namespace Mine
open PySem
theorem qH{U V s:Nat}(h:V<2^s):(2^s*U+V)&&&(2^s*U)=2^s*U:=by
 refine Nat.eq_of_testBit_eq fun j=>?_
 rw[Nat.testBit_and,Nat.testBit_two_pow_mul_add _ h,Nat.testBit_two_pow_mul]
 by_cases q:j<s
 ·rw[if_pos q,decide_eq_false (by exact Fc q)];simp
 ·rw[if_neg q,decide_eq_true (by exact Fb q)];simp
theorem rt{U V s:Nat}(h:V<2^s):(2^s*U+V)|||(2^s*U)=2^s*U+V:=by
 refine Nat.eq_of_testBit_eq fun j=>?_
 rw[Nat.testBit_or,Nat.testBit_two_pow_mul_add _ h,Nat.testBit_two_pow_mul]
 by_cases q:j<s
 ·rw[if_pos q,decide_eq_false (by exact Fc q)];simp
 ·rw[if_neg q,decide_eq_true (by exact Fb q)];simp
theorem mh{X U s:Nat}(hU:X/2^s=U):Builtin.bitXor (X:Int) ((U:Int)*2^s)=((X%2^s:Nat):Int):=by
 have hX:X=2^s*U+X%2^s:=by rw[←hU];exact(Nat.div_add_mod X (2^s)).symm
 have mX:X%2^s<2^s:=Nat.mod_lt _ (Nat.two_pow_pos s)
 have hW:(U:Int)*2^s=((2^s*U:Nat):Int):=by push_cast;exact Int.mul_comm _ _
 rw[hW]
 generalize hV:X%2^s=V at hX mX
 generalize hY:2^s*U=Y
 have ha:X&&&Y=Y:=by rw[hX,←hY];exact qH mX
 have ho:X|||Y=X:=by rw[hX,←hY];exact rt mX
 have hXY:X=Y+V:=by rw[hX,←hY]
 have b1:Builtin.bitAnd (X:Int) (Y:Int)=((X&&&Y:Nat):Int):=by
  unfold Builtin.bitAnd
  rw[decide_eq_true (Int.natCast_nonneg X),decide_eq_true (Int.natCast_nonneg Y)]
  rfl
 have b2:Builtin.bitOr (X:Int) (Y:Int)=((X|||Y:Nat):Int):=by
  unfold Builtin.bitOr Builtin.bitAnd Builtin.bitNot
  rw[decide_eq_false (by exact Fa),decide_eq_false (by exact Fa)]
  show-(-(((- (-(X:Int)-1)-1).toNat|||(- (-(Y:Int)-1)-1).toNat:Nat):Int)-1)-1=_
  rw[show(- (-(X:Int)-1)-1).toNat=X by exact E9,show(- (-(Y:Int)-1)-1).toNat=Y by exact E9]
  omega
 unfold Builtin.bitXor
 rw[b1,b2,ha,ho]
 omega
end Mine
namespace Mine
open PySem PySem.W PySem.W.X PyProof.Rows PySem.Spec PySem.Calls
noncomputable def kS(x:W2)(cn ci cd d5:Addr)(cc:Addr):FuncData:=is (fdOf x.B 59) (ah x.B 59 1) (.str (S [108,97,119,95,116,97,48,49,49,54,95,48,50]) 721) [(ib,cn),(cA,ci),(bC,cd)] (.ref cc) (.ref d5)
noncomputable def hO(items cJ:Array Value)(L M X n:Nat):Prop:=cJ.size=items.size∧∀i,i<items.size→(L≤i∧i<M→∃u,cJ[i]? =some (.int ((X/2^(n*(i-L))%2^n:Nat):Int) u))∧(¬(L≤i∧i<M)→cJ[i]? =items[i]?)
theorem hO.one{items:Array Value}{L X n:Nat}{u:Nat}(hL:L<items.size)(hX:X<2^n):hO items (items.setIfInBounds ((L:Int).toNat) (.int (X:Int) u)) L (L+1) X n:=by
 refine⟨by rw[Array.size_setIfInBounds],fun i hi=>⟨fun q=>⟨u,?_⟩,fun q=>?_⟩⟩
 ·have:i=L:=by omega
  subst this
  rw[Int.toNat_natCast,Array.getElem?_setIfInBounds_self_of_lt hi,Nat.sub_self,Nat.mul_zero,Nat.pow_zero,Nat.div_one,Nat.mod_eq_of_lt hX]
 ·rw[Int.toNat_natCast,Array.getElem?_setIfInBounds_ne (by omega)]
theorem hO.join{items z8 z7:Array Value}{L mid M X U V n sh:Nat}(h1:L<mid)(h2:mid<M)(a:hO items z8 L mid V n)(b:hO z8 z7 mid M U n)(hs:n*(mid-L)=sh)(hU:X/2^sh=U)(hV:X%2^sh=V):hO items z7 L M X n:=by
 refine⟨b.1.trans a.1,fun i hi=>⟨fun q=>?_,fun q=>?_⟩⟩
 ·by_cases c:i<mid
  ·obtain⟨u,e⟩:=(a.2 i hi).1 ⟨q.1,c⟩
   refine⟨u,?_⟩
   rw[(b.2 i (by rw[a.1];exact hi)).2 (by omega),e,←hV]
   have hr:n*(i-L)+n*(mid-i)=sh:=by rw[←Nat.mul_add,←hs];congr 1;omega
   have hd:2^n∣2^(n*(mid-i)):=Nat.pow_dvd_pow 2 (Nat.le_mul_of_pos_right n (by omega))
   rw[←hr,Nat.pow_add,Nat.mod_mul_right_div_self,Nat.mod_mod_of_dvd _ hd]
  ·obtain⟨u,e⟩:=(b.2 i (by rw[a.1];exact hi)).1 ⟨by omega,q.2⟩
   refine⟨u,?_⟩
   have hr:sh+n*(i-mid)=n*(i-L):=by rw[←hs,←Nat.mul_add];congr 1;omega
   rw[e,←hU,Nat.div_div_eq_div_mul,←Nat.pow_add,hr]
 ·rw[(b.2 i (by rw[a.1];exact hi)).2 (by omega),(a.2 i hi).2 (by omega)]
theorem ol(x:W2)(cc:Addr)(v:Nat→Value)(tk:Nat)(A:Around)(hh:A.handled=none)(hA:A.depth<900)(R:Result→Shared→Prop)(n:Int)(X L M:Nat)(f cn ci cd dl d5:Addr)(items:Array Value)(n0:Nat)
 (ta tb tc tn:Nat) (N t:Nat) (h:Heap) (gl d os) (rest:ae) (hL:L+1=M) (hM:M<4000) (hz:M≤items.size)
 (Rp:Rep (x.F54 cc v tk) N h ((f,⟨(.type "function"),none,.func (kS x cn ci cd d5 cc),#[]⟩)::(dl,an items n0)::(ci,⟨.type "cell",none,.cell (some (.ref f)),#[]⟩)::(cd,⟨.type "cell",none,.cell (some (.ref dl)),#[]⟩)::(cn,⟨.type "cell",none,.cell (some (.int n tn)),#[]⟩)::rest) 0)
 (K:∀h' N' t',Rep (x.F54 cc v tk) N' h' ((f,⟨(.type "function"),none,.func (kS x cn ci cd d5 cc),#[]⟩)::(dl,an (items.setIfInBounds ((L:Int).toNat) (.int (X:Int) ta)) n0)::(ci,⟨.type "cell",none,.cell (some (.ref f)),#[]⟩)::(cd,⟨.type "cell",none,.cell (some (.ref dl)),#[]⟩)::(cn,⟨.type "cell",none,.cell (some (.int n tn)),#[]⟩)::rest) 0→R (.ok (.ret .none)) ⟨h',gl,d,t',os⟩):
 codeAny (MB (x.F54 cc v tk)) A (.call (.ref f) ⟨[.int X ta,.int L tb,.int M tc],[]⟩) R ⟨h,gl,d,t,os⟩:=by
 refine bE hh Rp (by exact n7 hA) 26 (dA 0x860860860c6) (am (kS x cn ci cd d5 cc)) (envOf (kS x cn ci cd d5 cc) f (N+0)) [(N+0,oF #[En (x.F54 cc v tk) F1 (t+0) (.int ((↑X:Int)) ta),En (x.F54 cc v tk) z6 (t+1) (.int ((↑L:Int)) tb),En (x.F54 cc v tk) z5 (t+2) (.int ((↑M:Int)) tc)] 3)] 1 3 (by rfl') ?_
 intro bT h1 N1 t1 Rp
 refine bS 1 ?_
 refine aa hh Rp [] 24 (dA 0x6046) [] (cB "int.__eq__" [.int ((↑L:Int)+1) (t1+1),.int ((↑M:Int)) tc]) [] [] 0 2 ?_
 intro bW h2 N2 t2 Rp dK
 refine lQ (r:=true) (i:=((↑L:Int)+1)) (j:=((↑M:Int))) (decide_eq_true (by exact EJ hL)) ?_
 refine aa hh Rp [] 21 (dA 0x8206286) [] (cB "list.__setitem__" [.ref dl,.int ((↑L:Int)) tb,.int ((↑X:Int)) ta]) [] [] 0 0 ?_
 intro cC h3 N3 t3 Rp eD
 refine ja Rp 2 rfl (by exact mO) (by omega) (by omega) rfl fun h4 Rp=>?_
 try dsimp only[bm] at Rp
 refine ab hh Rp [] 12 (dA 0x0) [] (Flow.ret .none) [] [.d] 0 0 ?_
 intro dv h5 N5 t5 Rp
 exact K _ _ _ Rp
theorem sG{a f b c d e:Addr×Obj}{rest:ae}:(a::f::b::c::d::e::rest).Perm (f::b::c::d::e::a::rest):=(List.perm_middle (l₁:=[f,b,c,d,e])).symm
theorem rO(x:W2)(cc:Addr)(v:Nat→Value)(tk:Nat)(n:Nat)(hn:0<n)(gX:n<2000)(f cn ci cd dl d5:Addr)(n0:Nat)(tn:Nat):∀(D:Nat) (rest:ae) (A:Around) (_:A.handled=none) (R:Result→Shared→Prop) (X L M:Nat) (items:Array Value)
 (ta tb tc:Nat) (N t:Nat) (h:Heap) (gl d os) (_:L<M) (_:M-L≤D) (_:A.depth+3*(M-L)<900) (_:M<4000) (_:M≤items.size) (_:X<2^(n*(M-L)))
 (_:Rep (x.F54 cc v tk) N h ((f,⟨(.type "function"),none,.func (kS x cn ci cd d5 cc),#[]⟩)::(dl,an items n0)::(ci,⟨.type "cell",none,.cell (some (.ref f)),#[]⟩)::(cd,⟨.type "cell",none,.cell (some (.ref dl)),#[]⟩)::(cn,⟨.type "cell",none,.cell (some (.int n tn)),#[]⟩)::rest) 0)
 (_:∀h' N' t' cJ,hO items cJ L M X n→Rep (x.F54 cc v tk) N' h' ((f,⟨(.type "function"),none,.func (kS x cn ci cd d5 cc),#[]⟩)::(dl,an cJ n0)::(ci,⟨.type "cell",none,.cell (some (.ref f)),#[]⟩)::(cd,⟨.type "cell",none,.cell (some (.ref dl)),#[]⟩)::(cn,⟨.type "cell",none,.cell (some (.int n tn)),#[]⟩)::rest) 0→R (.ok (.ret .none)) ⟨h',gl,d,t',os⟩),
 codeAny (MB (x.F54 cc v tk)) A (.call (.ref f) ⟨[.int X ta,.int L tb,.int M tc],[]⟩) R ⟨h,gl,d,t,os⟩:=by
 intro D
 induction D with
 |zero=>intro rest A hh R X L M items ta tb tc N t h gl d os hL hD;omega
 |succ D ih=>
 intro rest A hh R X L M items ta tb tc N t h gl d os hL hD hA hM hz hX Rp K
 by_cases hb:L+1=M
 ·refine ol x cc v tk A hh (by omega) R n X L M f cn ci cd dl d5 items n0 ta tb tc tn N t h gl d os rest hb hM hz Rp fun h' N' t' Rp=>K _ _ _ _ ?_ Rp
  subst hb
  exact hO.one (by exact EI hz) (by rwa[show L+1-L=1 by omega,Nat.mul_one] at hX)
 obtain⟨mid,lU⟩:∃mid,(L+M)/2=mid:=⟨_,rfl⟩
 obtain⟨sh,jb⟩:∃sh,(mid-L)*n=sh:=⟨_,rfl⟩
 obtain⟨U,rZ⟩:∃U,X/2^sh=U:=⟨_,rfl⟩
 obtain⟨V,we⟩:∃V,X%2^sh=V:=⟨_,rfl⟩
 have nS:(L:Int)<mid:=by exact EH hL hb lU
 have oU:(mid:Int)<M:=by omega
 have hmid:((L:Int)+(M:Int)).fdiv (2^(1:Int).toNat)=(mid:Int):=by
  rw[show(2:Int)^(1:Int).toNat=2 from rfl,Int.fdiv_eq_ediv_of_nonneg _ (by decide)];exact EG lU
 have B6:((mid:Int)- (L:Int))*(n:Int)=(sh:Int):=by
  rw[←jb,show(mid:Int)- (L:Int)=((mid-L:Nat):Int) by exact EF nS];push_cast;rfl
 have hU:(X:Int).fdiv (2^(sh:Int).toNat)=(U:Int):=by
  rw[Int.toNat_natCast,Int.fdiv_eq_ediv_of_nonneg _ (Int.le_of_lt (Int.pow_pos (by decide))),←rZ];push_cast;rfl
 have hW:(U:Int)*2^(sh:Int).toNat=(U:Int)*2^sh:=by rw[Int.toNat_natCast]
 have hV:Builtin.bitXor (X:Int) ((U:Int)*2^sh)=(V:Int):=by rw[mh rZ,we]
 have B8:sh≤4000*2000:=by rw[←jb];exact Nat.mul_le_mul (by omega) (by exact zA gX)
 have hUb:(Builtin.Int.intBits (U:Int):Int)+(sh:Int)≤2^27:=by
  have hk:n*(M-L)≤2000*4000:=Nat.mul_le_mul (by exact zA gX) (by omega)
  have:Builtin.Int.intBits (U:Int)≤2000*4000:=intBits_le (Nat.lt_of_le_of_lt (by show(U:Int).natAbs≤X;rw[Int.natAbs_natCast,←rZ];exact Nat.div_le_self _ _) (Nat.lt_of_lt_of_le hX (Nat.pow_le_pow_right (by decide) hk)))
  exact EE B8 this
 refine bE hh Rp (by exact AW hA) 26 (dA 0x860860860c6) (am (kS x cn ci cd d5 cc)) (envOf (kS x cn ci cd d5 cc) f (N+0)) [(N+0,oF #[En (x.F54 cc v tk) F1 (t+0) (.int ((↑X:Int)) ta),En (x.F54 cc v tk) z6 (t+1) (.int ((↑L:Int)) tb),En (x.F54 cc v tk) z5 (t+2) (.int ((↑M:Int)) tc)] 3)] 1 3 (by rfl') ?_
 intro bT h1 N1 t1 Rp
 refine bS 1 ?_
 refine aa hh Rp [] 24 (dA 0x6046) [] (cB "int.__eq__" [.int ((↑L:Int)+1) (t1+1),.int ((↑M:Int)) tc]) [] [] 0 2 ?_
 intro bW h2 N2 t2 Rp dK
 refine lQ (r:=false) (i:=((↑L:Int)+1)) (j:=((↑M:Int))) (decide_eq_false (by omega)) ?_
 refine ab hh Rp [] 11 (dA 0x0) [] Flow.next [] [] 0 0 ?_
 intro cC h3 N3 t3 Rp
 refine bS 1 ?_
 refine aa hh Rp [] 23 (dA 0x1186) [] (cB "int.__rshift__" [.int ((↑L:Int)+(↑M:Int)) (t3+0),.int 1 (t3+1)]) [] [] 0 2 ?_
 intro db h4 N4 t4 Rp gr
 refine pT (i:=((↑L:Int)+(↑M:Int))) (j:=(1)) (c:=mid) (by decide) (by first|assumption|rfl) ?_
 refine ab hh Rp [] 18 (dA 0x86) [] Flow.next [] [.u (dU [] [En (x.F54 cc v tk) sQ (t4+1+0) (.int ((↑mid:Int)) t4)] 4)] 0 1 ?_
 intro dv h5 N5 t5 Rp
 refine bS 1 ?_
 refine aa hh Rp [] 24 (dA 0x2c1186) [] (cB "int.__mul__" [.int ((↑mid:Int)- (↑L:Int)) (t5+0),.int ((↑n:Int)) tn]) [] [] 0 1 ?_
 intro eN h6 N6 t6 Rp j4
 refine pV (i:=((↑mid:Int)- (↑L:Int))) (j:=((↑n:Int))) (c:=sh) (.inr (intBits_le_64 (by exact ED) (by exact EC gX))) (by exact EB B6) ?_
 refine ab hh Rp [] 18 (dA 0x86) [] Flow.next [] [.u (dU [] [En (x.F54 cc v tk) nJ (t6+1+0) (.int ((↑sh:Int)) t6)] 5)] 0 1 ?_
 intro ie h7 N7 t7 Rp
 refine bS 1 ?_
 refine aa hh Rp [] 17 (dA 0x186) [] (cB "int.__rshift__" [.int ((↑X:Int)) ta,.int ((↑sh:Int)) t6]) [] [] 0 0 ?_
 intro iG h8 N8 t8 Rp tS
 refine pT (i:=((↑X:Int))) (j:=((↑sh:Int))) (c:=U) (by exact mO) (by first|assumption|rfl) ?_
 refine ab hh Rp [] 18 (dA 0x86) [] Flow.next [] [.u (dU [] [En (x.F54 cc v tk) rE (t8+1+0) (.int ((↑U:Int)) t8)] 6)] 0 1 ?_
 intro iM h9 N9 t9 Rp
 refine bS 1 ?_
 refine aa hh Rp [] 19 (dA 0x6186) [] (cB "int.__lshift__" [.int ((↑U:Int)) t8,.int ((↑sh:Int)) t6]) [] [] 0 0 ?_
 intro iN lX mo fh Rp oj
 refine nP (i:=((↑U:Int))) (j:=((↑sh:Int))) (c:=((U:Int)*2^sh)) (by exact mO) (by first|assumption|omega) (by first|assumption|rfl) ?_
 refine aa hh Rp [] 12 (dA 0x0) [] (cB "int.__xor__" [.int ((↑X:Int)) ta,.int ((↑U:Int)*2^sh) fh]) [] [] 0 0 ?_
 intro la m7 lc lC Rp oi
 refine x6 (i:=((↑X:Int))) (j:=((↑U:Int)*2^sh)) (c:=V) (by first|assumption|rfl) ?_
 refine ab hh Rp [] 18 (dA 0x86) [] Flow.next [] [.u (dU [] [En (x.F54 cc v tk) rG (lC+1+0) (.int ((↑V:Int)) lC)] 7)] 0 1 ?_
 intro mi q9 re lB Rp
 refine bS 1 ?_
 refine aa hh Rp [] 22 (dA 0x7186189) [] (cR f [.int ((↑V:Int)) lC,.int ((↑L:Int)) tb,.int ((↑mid:Int)) t4]) [] [] 0 0 ?_
 intro qJ q8 rd sE Rp kk13
 have hVlt:V<2^(n*(mid-L)):=by rw[←we,Nat.mul_comm,jb];exact Nat.mod_lt _ (Nat.two_pow_pos _)
 refine ih _ (A.under _) hh _ V L mid items _ _ _ _ _ _ _ _ _ (by exact tI nS) (by exact EA hD oU) (by show A.depth+1+3*(mid-L)<900;exact Ez hA nS oU) (by omega) (by exact Ey hz oU) hVlt (Rp.perm sG) fun F8 GC Au z8 qb Rp=>?_
 refine ab hh Rp [] 12 (dA 0x0) [] Flow.next [] [] 0 0 ?_
 intro sy yo zb wB Rp
 refine bS 1 ?_
 refine aa hh Rp [] 22 (dA 0x62cb2c8) [] (cR f [.int ((↑U:Int)) t8,.int ((↑mid:Int)) t4,.int ((↑M:Int)) tc]) [] [] 0 0 ?_
 intro yX wf wh ze Rp kk15
 have hUlt:U<2^(n*(M-mid)):=by
  rw[←rZ]
  refine(Nat.div_lt_iff_lt_mul (Nat.two_pow_pos _)).mpr ?_
  rw[←Nat.pow_add,←jb,Nat.mul_comm (mid-L) n,←Nat.mul_add,show M-mid+(mid-L)=M-L by omega]
  exact hX
 refine ih _ (A.under _) hh _ U mid M z8 _ _ _ _ _ _ _ _ _ (by exact tI oU) (by exact Ex hD nS) (by show A.depth+1+3*(M-mid)<900;exact Ew hA nS oU) (by omega) (by rw[qb.1];exact Ev hz) hUlt Rp fun hr2 Nr2 tr2 z7 hd2' Rp=>?_
 refine ab hh Rp [] 12 (dA 0x0) [] Flow.next [] [.k,.k,.k,.k,.k,.d] 0 0 ?_
 intro sx Ab Ai zd Rp
 show wpAny _ _ (aj ..) ..
 refine ab hh Rp [] 11 (dA 0x0) [] Flow.next [] [] 0 0 ?_
 intro sw Aa Ah zc Rp
 refine K _ _ _ z7 ?_ Rp
 exact hO.join (by exact tI nS) (by exact tI oU) qb hd2' (by rw[Nat.mul_comm];exact jb) rZ we
noncomputable def jq(items:Array Value)(X n k:Nat):Prop:=items.size=k∧∀i,i<k→∃u,items[i]? =some (.int ((X/2^(n*i)%2^n:Nat):Int) u)
theorem HD(x:W2)(A:Around)(hh:A.handled=none)(hA:A.depth<600)(R:Result→Shared→Prop)(X n c k:Nat)(hc:((Builtin.Int.intBits (X:Int):Nat):Int)=(c:Int))(hn:0<n)(gX:n<2000)(gw:c<2000)
 (hk:(c+n-1)/n=k) (jv:k<60) (hp:Builtin.divisionGoesByPylong ((c:Int)+(n:Int)-1) (n:Int)=false) (hX:X<2^(n*k)) (cZ:0<X→0<k)
 (ta tb:Nat) (N t:Nat) (h:Heap) (gl d os) (rest:ae) (Rp:Rep x.B N h rest 0)
 (K:∀h' N' t' dl items,jq items X n k→Rep x.B N' h' ((dl,an items 0)::rest) 0→R (.ok (.ret (.ref dl))) ⟨h',gl,d,t',os⟩):
 codeAny (MB x.B) A (.call (.ref 59) ⟨[.int X ta,.int n tb],[]⟩) R ⟨h,gl,d,t,os⟩:=by
 have rT:((c:Int)+(n:Int)-1).fdiv (n:Int)=(k:Int):=by
  rw[Int.fdiv_eq_ediv_of_nonneg _ (by exact mO),←hk]
  rw[show(c:Int)+(n:Int)-1=((c+n-1:Nat):Int) by omega];rfl
 refine enter hh Rp (by first|assumption|(simp only[Around.under,Code.weight,recursionLimit] at*;omega)) 23 [0,0,8,4,7,3] [] (am (fdOf x.B 59)) (gP (envOf (fdOf x.B 59) 59 (N+0)) [(cA,N+3),(bC,N+2),(ib,N+1)]) ((N+3,⟨.type "cell",none,.cell none,#[]⟩)::(N+2,⟨.type "cell",none,.cell none,#[]⟩)::(N+1,⟨.type "cell",none,.cell (some (.int ((↑n:Int)) tb)),#[]⟩)::(N+0,⟨.type "frame",none,.dict #[En x.B eI (t+0) (.int ((↑X:Int)) ta)] 1,#[]⟩)::rest) 4 1 (by rfl') fun h1 N1 t1 Rp=>?_
 refine bS 1 ?_
 refine seg_call hh Rp 20 [9] [true,true,true,true,true] (.call (.builtin "int.bit_length") ⟨[.int ((↑X:Int)) ta],[]⟩) ((N1+0,⟨.type "list",none,.seq #[.int 0 (t1+0)] 0,#[]⟩)::(N+3,⟨.type "cell",none,.cell none,#[]⟩)::(N+2,⟨.type "cell",none,.cell none,#[]⟩)::(N+1,⟨.type "cell",none,.cell (some (.int ((↑n:Int)) tb)),#[]⟩)::(N+0,⟨.type "frame",none,.dict #[En x.B eI (t+0) (.int ((↑X:Int)) ta)] 1,#[]⟩)::rest) 1 1 (by rfl') fun h2 N2 t2 Rp=>?_
 refine mV (i:=((↑X:Int))) (c:=(c:Int)) (by first|assumption|rfl) ?_
 refine seg_call hh Rp 28 [8,0,0,8] [true,true,true,true,true] (.call (.builtin "int.__floordiv__") ⟨[.int ((↑c:Int)+(↑n:Int)-1) (t2+1+2),.int ((↑n:Int)) tb],[]⟩) ((N1+0,⟨.type "list",none,.seq #[.int 0 (t1+0)] 0,#[]⟩)::(N+3,⟨.type "cell",none,.cell none,#[]⟩)::(N+2,⟨.type "cell",none,.cell none,#[]⟩)::(N+1,⟨.type "cell",none,.cell (some (.int ((↑n:Int)) tb)),#[]⟩)::(N+0,⟨.type "frame",none,.dict #[En x.B eI (t+0) (.int ((↑X:Int)) ta)] 1,#[]⟩)::rest) 0 3 (by rfl') fun h3 N3 t3 Rp=>?_
 refine pX (i:=((↑c:Int)+(↑n:Int)-1)) (j:=((↑n:Int))) (c:=(k:Int)) (by omega) (by first|assumption|decide|rfl) (by first|assumption|(rw[Int.fdiv_eq_ediv_of_nonneg _ (by omega)];omega)) ?_
 refine seg_call hh Rp 20 [5,0,5,5] [true,true,true,true,true] (.call (.builtin "list.__mul__") ⟨[.ref (N1+0),.int ((↑k:Int)) t3],[]⟩) ((N1+0,⟨.type "list",none,.seq #[.int 0 (t1+0)] 0,#[]⟩)::(N+3,⟨.type "cell",none,.cell none,#[]⟩)::(N+2,⟨.type "cell",none,.cell none,#[]⟩)::(N+1,⟨.type "cell",none,.cell (some (.int ((↑n:Int)) tb)),#[]⟩)::(N+0,⟨.type "frame",none,.dict #[En x.B eI (t+0) (.int ((↑X:Int)) ta)] 1,#[]⟩)::rest) 0 0 (by rfl') fun h4 N4 t4 Rp=>?_
 refine xT Rp 0 rfl (by exact mO) (by omega) fun h5 N5 a5 Rp=>?_
 refine aE hh Rp 16 [8,4] [true,true,true,true,true,true] Flow.next ((a5,⟨.type "list",none,.seq (Array.replicate (↑k:Int).toNat (Value.int 0 (t1+0))) 0,#[]⟩)::(N1+0,⟨.type "list",none,.seq #[.int 0 (t1+0)] 0,#[]⟩)::(N+3,⟨.type "cell",none,.cell none,#[]⟩)::(N+2,⟨.type "cell",none,.cell (some (.ref a5)),#[]⟩)::(N+1,⟨.type "cell",none,.cell (some (.int ((↑n:Int)) tb)),#[]⟩)::(N+0,⟨.type "frame",none,.dict #[En x.B eI (t+0) (.int ((↑X:Int)) ta)] 1,#[]⟩)::rest) 0 0 (by rfl') fun h6 N6 t6 Rp=>?_
 refine ji 1 (fun s=>∃cc vv tk d5 N' t' h' f,Rep (x.F54 cc vv tk) N' h' ((f,⟨.type "function",none,.func (kS x (N+1) (N+3) (N+2) d5 cc),#[]⟩)::(a5,an (Array.replicate k (.int 0 (t1+0))) 0)::(N+3,⟨.type "cell",none,.cell (some (.ref f)),#[]⟩)::(N+2,⟨.type "cell",none,.cell (some (.ref a5)),#[]⟩)::(N+1,⟨.type "cell",none,.cell (some (.int (n:Int) tb)),#[]⟩)::(N+0,⟨.type "frame",none,.dict #[En x.B eI (t+0) (.int (X:Int) ta)] 1,#[]⟩)::rest) 0∧s=⟨h',gl,d,t',os⟩) ?_ ?_
 ·rcases x.open54 Rp with Rp|⟨cc,vv,tk,Rp⟩
  ·show wpAny (MB x.E54) _ (aj _ _) _ _ _
   refine nA hh Rp 37 [0,1,1] [true,false,false,false,false,false,false,true,false,true,true,true,true] 54 ((N6+6,⟨.type "code",none,.fields #[.str cA (t6+0),.str (S [95,105,110,116,50,100,105,103,105,116,115,46,60,108,111,99,97,108,115,62,46,105,110,110,101,114]) (t6+1),.str (S [47,99,108,97,105,109,47,99,117,116,46,112,121]) (t6+2),.int 36 0,.int 3 0,.int 0 0,.int 0 0,.int 19 0,.ref (N6+1),.bool true,.int 276 0,.ref (N6+2),.none,.ref (N6+3),.ref (N6+4),.ref (N6+5),.int ((↑(t6+13):Int)) 0,.int 36 0,.str (S [47,99,108,97,105,109,47,99,117,116,46,112,121]) (t6+14)],#[]⟩)::(a5,⟨.type "list",none,.seq (Array.replicate (↑k:Int).toNat (Value.int 0 (t1+0))) 0,#[]⟩)::(N+3,⟨.type "cell",none,.cell none,#[]⟩)::(N+2,⟨.type "cell",none,.cell (some (.ref a5)),#[]⟩)::(N+1,⟨.type "cell",none,.cell (some (.int ((↑n:Int)) tb)),#[]⟩)::(N+0,⟨.type "frame",none,.dict #[En x.E54 eI (t+0) (.int ((↑X:Int)) ta)] 1,#[]⟩)::rest) 7 15 (by rfl') fun h7 N7 t7 Rp=>?_
   obtain⟨vv,Rp⟩:=Rp.code
   refine x.upd54 Rp (by rfl') fun hg Rp=>?_
   refine aE hh Rp 21 [1,0,0,0,7,3] [true,true,true,true,true,true] Flow.next ((N7+0,⟨.type "function",none,.func (is (fdOf x.B 59) (ah x.B 59 1) (.str (S [108,97,119,95,116,97,48,49,49,54,95,48,50]) 721) [(ib,N+1),(cA,N+3),(bC,N+2)] (.ref (N6+6)) (.ref (N6+0))),#[]⟩)::(a5,⟨.type "list",none,.seq (Array.replicate (↑k:Int).toNat (Value.int 0 (t1+0))) 0,#[]⟩)::(N+3,⟨.type "cell",none,.cell (some (.ref (N7+0))),#[]⟩)::(N+2,⟨.type "cell",none,.cell (some (.ref a5)),#[]⟩)::(N+1,⟨.type "cell",none,.cell (some (.int ((↑n:Int)) tb)),#[]⟩)::(N+0,⟨.type "frame",none,.dict #[En (x.F54 (N6+6) vv (t6+1)) eI (t+0) (.int ((↑X:Int)) ta)] 1,#[]⟩)::rest) 1 0 (by rfl') fun h8 N8 t8 Rp=>?_
   exact⟨_,_,_,_,_,_,_,_,Rp,rfl⟩
  ·show wpAny (MB (x.F54 cc vv tk)) _ (aj _ _) _ _ _
   refine aE hh Rp 24 [0,1,0,0,0,9,5] [true,true,true,false,true,true,true,true] Flow.next ((N6+1,⟨.type "function",none,.func (is (fdOf x.B 59) (ah x.B 59 1) (.str (S [108,97,119,95,116,97,48,49,49,54,95,48,50]) 721) [(ib,N+1),(cA,N+3),(bC,N+2)] (.ref cc) (.ref (N6+0))),#[]⟩)::(N6+0,⟨.type "tuple",none,.seq #[.ref (N+2),.ref (N+3),.ref (N+1)] 0,#[]⟩)::(a5,⟨.type "list",none,.seq (Array.replicate (↑k:Int).toNat (Value.int 0 (t1+0))) 0,#[]⟩)::(N+3,⟨.type "cell",none,.cell (some (.ref (N6+1))),#[]⟩)::(N+2,⟨.type "cell",none,.cell (some (.ref a5)),#[]⟩)::(N+1,⟨.type "cell",none,.cell (some (.int ((↑n:Int)) tb)),#[]⟩)::(N+0,⟨.type "frame",none,.dict #[En (x.F54 cc vv tk) eI (t+0) (.int ((↑X:Int)) ta)] 1,#[]⟩)::rest) 2 0 (by rfl') fun h7 N7 t7 Rp=>?_
   exact⟨_,_,_,_,_,_,_,_,Rp.sub (.cons_cons _ (.cons _ (.refl _))),rfl⟩
 ·rintro _ ⟨cc,vv,tk,d5,N',t',h',f,Rp,rfl⟩
  show wpAny (MB (x.F54 cc vv tk)) _ (aj _ _) _ _ _
  rcases X with _|X
  ·have aO:k=0:=by
    rcases Nat.eq_zero_or_pos k with z|z
    ·exact z
    ·exfalso
     have oW:c=0:=by
      have:Builtin.Int.intBits ((0:Nat):Int)=0:=by decide+kernel
      omega
     subst oW
     have:(0+n-1)/n=0:=Nat.div_eq_of_lt (by exact EM hn)
     omega
   refine aE hh Rp 21 [10,0,8] [false,true,false,false,false,false] (Flow.ret (.ref a5)) ((a5,⟨.type "list",none,.seq (Array.replicate k (Value.int 0 (t1+0))) 0,#[]⟩)::rest) 0 0 (by rfl') fun h7 N7 t7 Rp=>?_
   refine K _ _ _ _ _ ⟨?_,fun i hi=>?_⟩ Rp.ofExt
   ·simp
   ·omega
  ·refine bS 1 ?_
   refine seg_call hh Rp 30 [10,0,7,10,0,0,8] [true,true,true,true,true,true] (.call (.builtin "len") ⟨[.ref a5],[]⟩) ((f,⟨.type "function",none,.func (is (fdOf x.B 59) (ah x.B 59 1) (.str (S [108,97,119,95,116,97,48,49,49,54,95,48,50]) 721) [(ib,N+1),(cA,N+3),(bC,N+2)] (.ref cc) (.ref d5)),#[]⟩)::(a5,⟨.type "list",none,.seq (Array.replicate k (Value.int 0 (t1+0))) 0,#[]⟩)::(N+3,⟨.type "cell",none,.cell (some (.ref f)),#[]⟩)::(N+2,⟨.type "cell",none,.cell (some (.ref a5)),#[]⟩)::(N+1,⟨.type "cell",none,.cell (some (.int ((↑n:Int)) tb)),#[]⟩)::(N+0,⟨.type "frame",none,.dict #[En (x.F54 cc vv tk) eI (t+0) (.int ((↑(X+1):Int)) ta)] 1,#[]⟩)::rest) 0 1 (by rfl') fun h7 N7 t7 Rp=>?_
   refine pP hh Rp 1 rfl (k:=k) (by simp) (by omega) fun hl Nl tl ul Rp=>?_
   refine seg_call hh Rp 14 [5] [true,true,true,true,true,true] (.call (.ref f) ⟨[.int ((↑(X+1):Int)) ta,.int 0 (t'+0),.int ((↑k:Int)) ul],[]⟩) ((f,⟨.type "function",none,.func (is (fdOf x.B 59) (ah x.B 59 1) (.str (S [108,97,119,95,116,97,48,49,49,54,95,48,50]) 721) [(ib,N+1),(cA,N+3),(bC,N+2)] (.ref cc) (.ref d5)),#[]⟩)::(a5,⟨.type "list",none,.seq (Array.replicate k (Value.int 0 (t1+0))) 0,#[]⟩)::(N+3,⟨.type "cell",none,.cell (some (.ref f)),#[]⟩)::(N+2,⟨.type "cell",none,.cell (some (.ref a5)),#[]⟩)::(N+1,⟨.type "cell",none,.cell (some (.int ((↑n:Int)) tb)),#[]⟩)::(N+0,⟨.type "frame",none,.dict #[En (x.F54 cc vv tk) eI (t+0) (.int ((↑(X+1):Int)) ta)] 1,#[]⟩)::rest) 0 0 (by rfl') fun h8 N8 t8 Rp=>?_
   refine rO x cc vv tk n hn gX f (N+1) (N+3) (N+2) a5 d5 0 tb k _ (A.under _) hh _ (X+1) 0 k _ _ _ _ _ _ _ _ _ _ (cZ (by exact A6)) (by exact G0) (by show A.depth+1+3*(k-0)<900;omega) (by omega) (by simp) (by simpa using hX) Rp fun hr Nr tr items hd Rp=>?_
   refine aE hh Rp 12 [] [true,true,true,true,true,true] Flow.next ((f,⟨.type "function",none,.func (is (fdOf x.B 59) (ah x.B 59 1) (.str (S [108,97,119,95,116,97,48,49,49,54,95,48,50]) 721) [(ib,N+1),(cA,N+3),(bC,N+2)] (.ref cc) (.ref d5)),#[]⟩)::(a5,⟨.type "list",none,.seq items 0,#[]⟩)::(N+3,⟨.type "cell",none,.cell (some (.ref f)),#[]⟩)::(N+2,⟨.type "cell",none,.cell (some (.ref a5)),#[]⟩)::(N+1,⟨.type "cell",none,.cell (some (.int ((↑n:Int)) tb)),#[]⟩)::(N+0,⟨.type "frame",none,.dict #[En (x.F54 cc vv tk) eI (t+0) (.int ((↑(X+1):Int)) ta)] 1,#[]⟩)::rest) 0 0 (by rfl') fun h9 N9 t9 Rp=>?_
   show wpAny (MB (x.F54 cc vv tk)) _ (aj _ _) _ _ _
   refine aE hh Rp 14 [8] [false,true,false,false,false,false] (Flow.ret (.ref a5)) ((a5,⟨.type "list",none,.seq items 0,#[]⟩)::rest) 0 0 (by rfl') fun lX mo fh Rp=>?_
   refine K _ _ _ _ _ ⟨?_,fun i hi=>?_⟩ Rp.ofExt
   ·rw[hd.1];simp
   ·obtain⟨u,hu⟩:=(hd.2 i (by simpa using hi)).1 ⟨by omega,hi⟩
    exact⟨u,by simpa using hu⟩
noncomputable def nj(x:W2)(cd cn ci d5:Addr)(cc:Addr):FuncData:=is (fdOf x.B 66) (ah x.B 66 0) (.str (S [108,97,119,95,116,97,48,49,49,54,95,48,50]) 721) [(ib,cn),(cA,ci),(en,cd)] (.ref cc) (.ref d5)
theorem rN(x:W2)(cc:Addr)(v:Nat→Value)(tk:Nat)(n:Nat)(hn:0<n)(gX:n<2000)(f cn ci cd dl d5:Addr)(n0:Nat)(tn:Nat)(items:Array Value)(Q k:Nat)(hk:k<4000)(mC:jq items Q n k):∀(D:Nat) (rest:ae) (A:Around) (_:A.handled=none) (R:Result→Shared→Prop) (L M:Nat)
 (tb tc:Nat) (N t:Nat) (h:Heap) (gl d os) (_:L<M) (_:M-L≤D) (_:A.depth+3*(M-L)<900) (_:M≤k)
 (_:Rep (x.F61 cc v tk) N h ((f,⟨(.type "function"),none,.func (nj x cd cn ci d5 cc),#[]⟩)::(ci,⟨.type "cell",none,.cell (some (.ref f)),#[]⟩)::(cn,⟨.type "cell",none,.cell (some (.int n tn)),#[]⟩)::(cd,⟨.type "cell",none,.cell (some (.ref dl)),#[]⟩)::(dl,an items n0)::rest) 0)
 (_:∀h' N' t' u,Rep (x.F61 cc v tk) N' h' ((f,⟨(.type "function"),none,.func (nj x cd cn ci d5 cc),#[]⟩)::(ci,⟨.type "cell",none,.cell (some (.ref f)),#[]⟩)::(cn,⟨.type "cell",none,.cell (some (.int n tn)),#[]⟩)::(cd,⟨.type "cell",none,.cell (some (.ref dl)),#[]⟩)::(dl,an items n0)::rest) 0→R (.ok (.ret (.int ((Q/2^(n*L)%2^(n*(M-L)):Nat):Int) u))) ⟨h',gl,d,t',os⟩),
 codeAny (MB (x.F61 cc v tk)) A (.call (.ref f) ⟨[.int L tb,.int M tc],[]⟩) R ⟨h,gl,d,t,os⟩:=by
 intro D
 induction D with
 |zero=>intro rest A hh R L M tb tc N t h gl d os hL hD;omega
 |succ D ih=>
 intro rest A hh R L M tb tc N t h gl d os hL hD hA hM Rp K
 obtain⟨Z,hZ⟩:∃Z,Q/2^(n*L)%2^(n*(M-L))=Z:=⟨_,rfl⟩
 rw[hZ] at K
 by_cases hb:L+1=M
 ·obtain⟨u0,F6⟩:=mC.2 L (by omega)
  rw[show n*(M-L)=n by rw[show M-L=1 by omega,Nat.mul_one]] at hZ
  rw[hZ] at F6
  refine bE hh Rp (by exact AW hA) 22 (dA 0x860860c6) (am (nj x cd cn ci d5 cc)) (envOf (nj x cd cn ci d5 cc) f (N+0)) [(N+0,oF #[En (x.F61 cc v tk) z6 (t+0) (.int ((↑L:Int)) tb),En (x.F61 cc v tk) z5 (t+1) (.int ((↑M:Int)) tc)] 2)] 1 2 (by rfl') ?_
  intro bT h1 N1 t1 Rp
  refine bS 1 ?_
  refine aa hh Rp [] 24 (dA 0x6046) [] (cB "int.__eq__" [.int ((↑L:Int)+1) (t1+1),.int ((↑M:Int)) tc]) [] [] 0 2 ?_
  intro bW h2 N2 t2 Rp dK
  refine lQ (r:=true) (i:=((↑L:Int)+1)) (j:=((↑M:Int))) (decide_eq_true (by exact EJ hb)) ?_
  refine aa hh Rp [] 20 (dA 0xb2cb18a) [] (cB "list.__getitem__" [.ref dl,.int ((↑L:Int)) tb]) [] [] 0 0 ?_
  intro cC h3 N3 t3 Rp eD
  refine g6 Rp 5 rfl (by exact mO) (by omega) F6 ?_
  refine ab hh Rp [] 11 (dA 0x0) [] (Flow.ret (.int ((↑Z:Int)) u0)) [] [.d] 0 0 ?_
  intro db h4 N4 t4 Rp
  exact K _ _ _ _ Rp
 obtain⟨mid,lU⟩:∃mid,(L+M)/2=mid:=⟨_,rfl⟩
 obtain⟨sh,jb⟩:∃sh,(mid-L)*n=sh:=⟨_,rfl⟩
 have nS:(L:Int)<mid:=by exact EH hL hb lU
 have oU:(mid:Int)<M:=by omega
 obtain⟨U,rZ⟩:∃U,Q/2^(n*mid)%2^(n*(M-mid))=U:=⟨_,rfl⟩
 obtain⟨V,we⟩:∃V,Q/2^(n*L)%2^(n*(mid-L))=V:=⟨_,rfl⟩
 obtain⟨P,Gg⟩:∃P,U*2^sh=P:=⟨_,rfl⟩
 have hPZ:P+V=Z:=by
  have e1:n*(M-L)=sh+n*(M-mid):=by rw[←jb,Nat.mul_comm _ n,←Nat.mul_add];congr 1;omega
  have e2:n*mid=n*L+sh:=by rw[←jb,Nat.mul_comm _ n,←Nat.mul_add];congr 1;omega
  rw[←hZ,←Gg,←we,←rZ,e1,e2,Nat.pow_add 2 sh,Nat.mod_mul,Nat.pow_add,←Nat.div_div_eq_div_mul,show n*(mid-L)=sh by rw[Nat.mul_comm,jb]]
  rw[Nat.mul_comm (2^sh),Nat.add_comm]
 have hmid:((L:Int)+(M:Int)).fdiv (2^(1:Int).toNat)=(mid:Int):=by
  rw[show(2:Int)^(1:Int).toNat=2 from rfl,Int.fdiv_eq_ediv_of_nonneg _ (by decide)];exact EG lU
 have B6:((mid:Int)- (L:Int))*(n:Int)=(sh:Int):=by
  rw[←jb,show(mid:Int)- (L:Int)=((mid-L:Nat):Int) by exact EF nS];push_cast;rfl
 have hP:(U:Int)*2^(sh:Int).toNat=(P:Int):=by rw[Int.toNat_natCast,←Gg];push_cast;rfl
 have B8:sh≤4000*2000:=by rw[←jb];exact Nat.mul_le_mul (by omega) (by exact zA gX)
 have hUb:(Builtin.Int.intBits (U:Int):Int)+(sh:Int)≤2^27:=by
  have hk:n*(M-mid)≤2000*4000:=Nat.mul_le_mul (by exact zA gX) (by exact GX hk hM)
  have:Builtin.Int.intBits (U:Int)≤2000*4000:=intBits_le (Nat.lt_of_lt_of_le (by show(U:Int).natAbs<2^(n*(M-mid));rw[Int.natAbs_natCast,←rZ];exact Nat.mod_lt _ (Nat.two_pow_pos _)) (Nat.pow_le_pow_right (by decide) hk))
  exact EE B8 this
 refine bE hh Rp (by exact AW hA) 22 (dA 0x860860c6) (am (nj x cd cn ci d5 cc)) (envOf (nj x cd cn ci d5 cc) f (N+0)) [(N+0,oF #[En (x.F61 cc v tk) z6 (t+0) (.int ((↑L:Int)) tb),En (x.F61 cc v tk) z5 (t+1) (.int ((↑M:Int)) tc)] 2)] 1 2 (by rfl') ?_
 intro bT h1 N1 t1 Rp
 refine bS 1 ?_
 refine aa hh Rp [] 24 (dA 0x6046) [] (cB "int.__eq__" [.int ((↑L:Int)+1) (t1+1),.int ((↑M:Int)) tc]) [] [] 0 2 ?_
 intro bW h2 N2 t2 Rp dK
 refine lQ (r:=false) (i:=((↑L:Int)+1)) (j:=((↑M:Int))) (decide_eq_false (by omega)) ?_
 refine ab hh Rp [] 11 (dA 0x0) [] Flow.next [] [] 0 0 ?_
 intro cC h3 N3 t3 Rp
 refine bS 1 ?_
 refine aa hh Rp [] 23 (dA 0x1186) [] (cB "int.__rshift__" [.int ((↑L:Int)+(↑M:Int)) (t3+0),.int 1 (t3+1)]) [] [] 0 2 ?_
 intro db h4 N4 t4 Rp gr
 refine pT (i:=((↑L:Int)+(↑M:Int))) (j:=(1)) (c:=mid) (by decide) (by first|assumption|rfl) ?_
 refine ab hh Rp [] 18 (dA 0x86) [] Flow.next [] [.u (dU [] [En (x.F61 cc v tk) sQ (t4+1+0) (.int ((↑mid:Int)) t4)] 3)] 0 1 ?_
 intro dv h5 N5 t5 Rp
 refine bS 1 ?_
 refine aa hh Rp [] 24 (dA 0x241186) [] (cB "int.__mul__" [.int ((↑mid:Int)- (↑L:Int)) (t5+0),.int ((↑n:Int)) tn]) [] [] 0 1 ?_
 intro eN h6 N6 t6 Rp j4
 refine pV (i:=((↑mid:Int)- (↑L:Int))) (j:=((↑n:Int))) (c:=sh) (.inr (intBits_le_64 (by exact ED) (by exact EC gX))) (by exact EB B6) ?_
 refine ab hh Rp [] 18 (dA 0x86) [] Flow.next [] [.u (dU [] [En (x.F61 cc v tk) nJ (t6+1+0) (.int ((↑sh:Int)) t6)] 4)] 0 1 ?_
 intro ie h7 N7 t7 Rp
 refine bS 1 ?_
 refine aa hh Rp [] 20 (dA 0x1c6188) [] (cR f [.int ((↑mid:Int)) t4,.int ((↑M:Int)) tc]) [] [] 0 0 ?_
 intro iG h8 N8 t8 Rp tS
 refine ih _ (A.under _) hh _ mid M _ _ _ _ _ _ _ _ (by exact tI oU) (by exact Ex hD nS) (by show A.depth+1+3*(M-mid)<900;exact Ew hA nS oU) (by exact Ev hM) (Rp.perm sG) fun F8 GC Au ur1 Rp=>?_
 rw[rZ]
 refine aa hh Rp [] 15 (dA 0xb) [] (cB "int.__lshift__" [.int ((↑U:Int)) ur1,.int ((↑sh:Int)) t6]) [] [] 0 0 ?_
 intro iM h9 N9 t9 Rp sS
 refine nP (i:=((↑U:Int))) (j:=((↑sh:Int))) (c:=(P:Int)) (by exact mO) (by first|assumption|omega) (by first|assumption|rfl) ?_
 refine aa hh Rp [] 19 (dA 0x18b2c7) [] (cR f [.int ((↑L:Int)) tb,.int ((↑mid:Int)) t4]) [] [] 0 0 ?_
 intro iN lX mo fh Rp oj
 refine ih _ (A.under _) hh _ L mid _ _ _ _ _ _ _ _ (by exact tI nS) (by exact EA hD oU) (by show A.depth+1+3*(mid-L)<900;exact Ez hA nS oU) (by exact Ey hM oU) Rp fun hr2 Nr2 tr2 ur2 Rp=>?_
 rw[we]
 refine aa hh Rp [] 13 (dA 0x0) [] (cB "int.__add__" [.int ((↑P:Int)) t9,.int ((↑V:Int)) ur2]) [] [.k,.k,.k,.k,.k,.d] 0 0 ?_
 intro la m7 lc lC Rp oi
 refine x9 (i:=((↑P:Int))) (j:=((↑V:Int))) (c:=(Z:Int)) (by omega) ?_
 refine ab hh Rp [] 11 (dA 0x0) [] (Flow.ret (.int ((↑Z:Int)) lC)) [] [] 0 0 ?_
 intro mi q9 re lB Rp
 exact K _ _ _ _ Rp
theorem Gy(x:W2)(A:Around)(hh:A.handled=none)(hA:A.depth<600)(R:Result→Shared→Prop)(Q n k:Nat)(hn:0<n)(gX:n<2000)
 (jv:k<60) (hQ:Q<2^(n*k))
 (ta tb:Nat) (N t:Nat) (h:Heap) (gl d os) (rest:ae) (dl:Addr) (items:Array Value) (n0:Nat) (hd:jq items Q n k) (Rp:Rep x.B N h ((dl,an items n0)::rest) 0)
 (K:∀h' N' t' u,Rep x.B N' h' rest 0→R (.ok (.ret (.int Q u))) ⟨h',gl,d,t',os⟩):
 codeAny (MB x.B) A (.call (.ref 66) ⟨[.ref dl,.int n tb],[]⟩) R ⟨h,gl,d,t,os⟩:=by
 refine enter hh Rp (by first|assumption|(simp only[Around.under,Code.weight,recursionLimit] at*;omega)) 21 [0,0,7,3,6,2] [] (am (fdOf x.B 66)) (gP (envOf (fdOf x.B 66) 66 (N+0)) [(cA,N+3),(ib,N+2),(en,N+1)]) ((N+3,⟨.type "cell",none,.cell none,#[]⟩)::(N+2,⟨.type "cell",none,.cell (some (.int ((↑n:Int)) tb)),#[]⟩)::(N+1,⟨.type "cell",none,.cell (some (.ref dl)),#[]⟩)::(N+0,⟨.type "frame",none,.dict #[] 0,#[]⟩)::(dl,⟨.type "list",none,.seq items n0,#[]⟩)::rest) 4 0 (by rfl') fun h1 N1 t1 Rp=>?_
 refine ji 1 (fun s=>∃cc vv tk d5 N' t' h' f,Rep (x.F61 cc vv tk) N' h' ((f,⟨.type "function",none,.func (nj x (N+1) (N+2) (N+3) d5 cc),#[]⟩)::(N+3,⟨.type "cell",none,.cell (some (.ref f)),#[]⟩)::(N+2,⟨.type "cell",none,.cell (some (.int (n:Int) tb)),#[]⟩)::(N+1,⟨.type "cell",none,.cell (some (.ref dl)),#[]⟩)::(dl,an items n0)::(N+0,⟨.type "frame",none,.dict #[] 0,#[]⟩)::rest) 0∧s=⟨h',gl,d,t',os⟩) ?_ ?_
 ·rcases x.open61 Rp with Rp|⟨cc,vv,tk,Rp⟩
  ·show wpAny (MB x.E61) _ (aj _ _) _ _ _
   refine nA hh Rp 34 [0,1,1] [true,false,false,false,false,false,false,true,true,true,true,true] 61 ((N1+6,⟨.type "code",none,.fields #[.str cA (t1+0),.str (S [95,100,105,103,105,116,115,50,105,110,116,46,60,108,111,99,97,108,115,62,46,105,110,110,101,114]) (t1+1),.str (S [47,99,108,97,105,109,47,99,117,116,46,112,121]) (t1+2),.int 51 0,.int 2 0,.int 0 0,.int 0 0,.int 19 0,.ref (N1+1),.bool true,.int 276 0,.ref (N1+2),.none,.ref (N1+3),.ref (N1+4),.ref (N1+5),.int ((↑(t1+10):Int)) 0,.int 51 0,.str (S [47,99,108,97,105,109,47,99,117,116,46,112,121]) (t1+11)],#[]⟩)::(N+3,⟨.type "cell",none,.cell none,#[]⟩)::(N+2,⟨.type "cell",none,.cell (some (.int ((↑n:Int)) tb)),#[]⟩)::(N+1,⟨.type "cell",none,.cell (some (.ref dl)),#[]⟩)::(N+0,⟨.type "frame",none,.dict #[] 0,#[]⟩)::(dl,⟨.type "list",none,.seq items n0,#[]⟩)::rest) 7 12 (by rfl') fun h2 N2 t2 Rp=>?_
   obtain⟨vv,Rp⟩:=Rp.code
   refine x.upd61 Rp (by rfl') fun hg Rp=>?_
   refine aE hh Rp 21 [1,0,0,0,6,2] [true,true,true,true,true,true] Flow.next ((N2+0,⟨.type "function",none,.func (is (fdOf x.B 66) (ah x.B 66 0) (.str (S [108,97,119,95,116,97,48,49,49,54,95,48,50]) 721) [(ib,N+2),(cA,N+3),(en,N+1)] (.ref (N1+6)) (.ref (N1+0))),#[]⟩)::(N+3,⟨.type "cell",none,.cell (some (.ref (N2+0))),#[]⟩)::(N+2,⟨.type "cell",none,.cell (some (.int ((↑n:Int)) tb)),#[]⟩)::(N+1,⟨.type "cell",none,.cell (some (.ref dl)),#[]⟩)::(N+0,⟨.type "frame",none,.dict #[] 0,#[]⟩)::(dl,⟨.type "list",none,.seq items n0,#[]⟩)::rest) 1 0 (by rfl') fun h3 N3 t3 Rp=>?_
   exact⟨_,_,_,_,_,_,_,_,Rp.perm (.cons _ (.cons _ (.cons _ (.cons _ (.swap _ _ _))))),rfl⟩
  ·show wpAny (MB (x.F61 cc vv tk)) _ (aj _ _) _ _ _
   refine aE hh Rp 24 [0,1,0,0,0,7,3] [true,true,true,true,true,true,true] Flow.next ((N1+1,⟨.type "function",none,.func (is (fdOf x.B 66) (ah x.B 66 0) (.str (S [108,97,119,95,116,97,48,49,49,54,95,48,50]) 721) [(ib,N+2),(cA,N+3),(en,N+1)] (.ref cc) (.ref (N1+0))),#[]⟩)::(N1+0,⟨.type "tuple",none,.seq #[.ref (N+1),.ref (N+3),.ref (N+2)] 0,#[]⟩)::(N+3,⟨.type "cell",none,.cell (some (.ref (N1+1))),#[]⟩)::(N+2,⟨.type "cell",none,.cell (some (.int ((↑n:Int)) tb)),#[]⟩)::(N+1,⟨.type "cell",none,.cell (some (.ref dl)),#[]⟩)::(N+0,⟨.type "frame",none,.dict #[] 0,#[]⟩)::(dl,⟨.type "list",none,.seq items n0,#[]⟩)::rest) 2 0 (by rfl') fun h2 N2 t2 Rp=>?_
   exact⟨_,_,_,_,_,_,_,_,(Rp.sub (.cons_cons _ (.cons _ (.refl _)))).perm (.cons _ (.cons _ (.cons _ (.cons _ (.swap _ _ _))))),rfl⟩
 ·rintro _ ⟨cc,vv,tk,d5,N',t',h',f,Rp,rfl⟩
  show wpAny (MB (x.F61 cc vv tk)) _ (aj _ _) _ _ _
  rcases k with _|k
  ·have hQ0:Q=0:=by simpa using hQ
   subst hQ0
   refine seg_call hh Rp 17 [8,9,9] [true,true,true,true,true,true] (.builtin "len" ⟨[.ref dl],[]⟩) ((f,⟨.type "function",none,.func (is (fdOf x.B 66) (ah x.B 66 0) (.str (S [108,97,119,95,116,97,48,49,49,54,95,48,50]) 721) [(ib,N+2),(cA,N+3),(en,N+1)] (.ref cc) (.ref d5)),#[]⟩)::(N+3,⟨.type "cell",none,.cell (some (.ref f)),#[]⟩)::(N+2,⟨.type "cell",none,.cell (some (.int ((↑n:Int)) tb)),#[]⟩)::(N+1,⟨.type "cell",none,.cell (some (.ref dl)),#[]⟩)::(dl,⟨.type "list",none,.seq items n0,#[]⟩)::(N+0,⟨.type "frame",none,.dict #[] 0,#[]⟩)::rest) 0 0 (by rfl') fun h2 N2 t2 Rp=>?_
   refine mT Rp 4 rfl (k:=0) hd.1 (by decide) ?_
   refine aE hh Rp 12 [] [false,false,false,false,false,false] (Flow.ret (.int 0 (t2+2+0))) (rest) 0 1 (by rfl') fun h3 N3 t3 Rp=>?_
   exact K _ _ _ _ Rp.ofExt
  ·refine seg_call hh Rp 17 [8,9,9] [true,true,true,true,true,true] (.builtin "len" ⟨[.ref dl],[]⟩) ((f,⟨.type "function",none,.func (is (fdOf x.B 66) (ah x.B 66 0) (.str (S [108,97,119,95,116,97,48,49,49,54,95,48,50]) 721) [(ib,N+2),(cA,N+3),(en,N+1)] (.ref cc) (.ref d5)),#[]⟩)::(N+3,⟨.type "cell",none,.cell (some (.ref f)),#[]⟩)::(N+2,⟨.type "cell",none,.cell (some (.int ((↑n:Int)) tb)),#[]⟩)::(N+1,⟨.type "cell",none,.cell (some (.ref dl)),#[]⟩)::(dl,⟨.type "list",none,.seq items n0,#[]⟩)::(N+0,⟨.type "frame",none,.dict #[] 0,#[]⟩)::rest) 0 0 (by rfl') fun h2 N2 t2 Rp=>?_
   refine mT Rp 4 rfl (k:=k+1) hd.1 (by exact FE jv) ?_
   refine seg_call hh Rp 20 [6,0,0,8] [true,true,true,true,true,true] (.call (.builtin "len") ⟨[.ref dl],[]⟩) ((f,⟨.type "function",none,.func (is (fdOf x.B 66) (ah x.B 66 0) (.str (S [108,97,119,95,116,97,48,49,49,54,95,48,50]) 721) [(ib,N+2),(cA,N+3),(en,N+1)] (.ref cc) (.ref d5)),#[]⟩)::(N+3,⟨.type "cell",none,.cell (some (.ref f)),#[]⟩)::(N+2,⟨.type "cell",none,.cell (some (.int ((↑n:Int)) tb)),#[]⟩)::(N+1,⟨.type "cell",none,.cell (some (.ref dl)),#[]⟩)::(dl,⟨.type "list",none,.seq items n0,#[]⟩)::(N+0,⟨.type "frame",none,.dict #[] 0,#[]⟩)::rest) 0 1 (by rfl') fun h3 N3 t3 Rp=>?_
   refine pP hh Rp 4 rfl (k:=k+1) hd.1 (by exact FE jv) fun hl Nl tl ul Rp=>?_
   refine seg_call hh Rp 14 [5] [true,true,true,true,true,true] (.call (.ref f) ⟨[.int 0 ((tO (x.F61 cc vv tk) N2 (t2+2)).t₀+0),.int ((↑(k+1):Int)) ul],[]⟩) ((f,⟨.type "function",none,.func (is (fdOf x.B 66) (ah x.B 66 0) (.str (S [108,97,119,95,116,97,48,49,49,54,95,48,50]) 721) [(ib,N+2),(cA,N+3),(en,N+1)] (.ref cc) (.ref d5)),#[]⟩)::(N+3,⟨.type "cell",none,.cell (some (.ref f)),#[]⟩)::(N+2,⟨.type "cell",none,.cell (some (.int ((↑n:Int)) tb)),#[]⟩)::(N+1,⟨.type "cell",none,.cell (some (.ref dl)),#[]⟩)::(dl,⟨.type "list",none,.seq items n0,#[]⟩)::(N+0,⟨.type "frame",none,.dict #[] 0,#[]⟩)::rest) 0 0 (by rfl') fun h4 N4 t4 Rp=>?_
   refine rN x cc vv tk n hn gX f (N+2) (N+3) (N+1) dl d5 n0 tb items Q (k+1) (by omega) hd (k+1) _ (A.under _) hh _ 0 (k+1) _ _ _ _ _ _ _ _ (by exact A6) (by omega) (by show A.depth+1+3*(k+1-0)<900;omega) (by omega) Rp fun hr Nr tr ur Rp=>?_
   have e:Q/2^(n*0)%2^(n*(k+1-0))=Q:=by simpa using Nat.mod_eq_of_lt hQ
   rw[e]
   refine aE hh Rp 12 [] [false,false,false,false,false,false] (Flow.ret (.int ((↑Q:Int)) ur)) (rest) 0 0 (by rfl') fun h5 N5 t5 Rp=>?_
   exact K _ _ _ _ Rp.ofExt
theorem nU(x:W2)(A:Around)(hh:A.handled=none)(hA:A.depth<900)(R:Result→Shared→Prop)(a b n c q r:Int)(hc:(Builtin.Int.intBits a:Int)=c)(hn:c-n≤4000)
 (hb:0<b) (hp:Builtin.divisionGoesByPylong a b=false) (hq:a.fdiv b=q) (hr:a.fmod b=r)
 (ta tb tc:Nat) (N t:Nat) (h:Heap) (gl d os) (rest:ae) (Rp:Rep x.B N h rest 0)
 (K:∀h' N' t' a u v,Rep x.B N' h' ((a,⟨.type "tuple",none,.seq #[.int q u,.int r v] 0,#[]⟩)::rest) 0→R (.ok (.ret (.ref a))) ⟨h',gl,d,t',os⟩):
 codeAny (MB x.B) A (.call (.ref 45) ⟨[.int a ta,.int b tb,.int n tc],[]⟩) R ⟨h,gl,d,t,os⟩:=by
 refine enter hh Rp (by first|assumption|(simp only[Around.under,Code.weight,recursionLimit] at*;omega)) 26 [0,0,5,1,5,1,5,1] [] (am (fdOf x.B 45)) (envOf (fdOf x.B 45) 45 (N+0)) ((N+0,⟨.type "frame",none,.dict #[En x.B eI (t+0) (.int (a) ta),En x.B fT (t+1) (.int (b) tb),En x.B ib (t+2) (.int (n) tc)] 3,#[]⟩)::rest) 1 3 (by rfl') fun h1 N1 t1 Rp=>?_
 refine bS 1 ?_
 refine seg_call hh Rp 17 [5] [true] (.call (.builtin "int.bit_length") ⟨[.int (a) ta],[]⟩) ((N+0,⟨.type "frame",none,.dict #[En x.B eI (t+0) (.int (a) ta),En x.B fT (t+1) (.int (b) tb),En x.B ib (t+2) (.int (n) tc)] 3,#[]⟩)::rest) 0 0 (by rfl') fun h2 N2 t2 Rp=>?_
 refine mV (i:=(a)) (c:=c) (by first|assumption|rfl) ?_
 refine seg_call hh Rp 23 [5,0,0] [true] (.call (.builtin "int.__le__") ⟨[.int (c-n) (t2+1+0),.int 4000 291],[]⟩) ((N+0,⟨.type "frame",none,.dict #[En x.B eI (t+0) (.int (a) ta),En x.B fT (t+1) (.int (b) tb),En x.B ib (t+2) (.int (n) tc)] 3,#[]⟩)::rest) 0 1 (by rfl') fun h3 N3 t3 Rp=>?_
 refine BW (r:=true) (i:=(c-n)) (j:=(4000)) (decide_eq_true (by omega)) ?_
 refine seg_call hh Rp 20 [0,0,5,5] [true] (.call (.builtin "divmod") ⟨[.int (a) ta,.int (b) tb],[]⟩) ((N+0,⟨.type "frame",none,.dict #[En x.B eI (t+0) (.int (a) ta),En x.B fT (t+1) (.int (b) tb),En x.B ib (t+2) (.int (n) tc)] 3,#[]⟩)::rest) 0 0 (by rfl') fun h4 N4 t4 Rp=>?_
 refine qx hh Rp (i:=(a)) (j:=(b)) (q:=q) (r:=r) (by exact FD hb) (by assumption) (by assumption) (by assumption) fun h5 N5 t5 a5 u5 v5 Rp=>?_
 refine aE hh Rp 12 [] [true,false] (Flow.ret (.ref a5)) ((a5,⟨.type "tuple",none,.seq #[.int (q) u5,.int (r) v5] 0,#[]⟩)::rest) 0 0 (by rfl') fun h6 N6 t6 Rp=>?_
 exact K _ _ _ _ _ _ Rp
theorem uN(x:W2)(A:Around)(hh:A.handled=none)(hA:A.depth<600)(R:Result→Shared→Prop)(X b n dg r q r':Nat)(gz:0<b)(fv:b<1073741824)(ix:b<2^n)(hn:0<n)(gX:n<60)
 (hr:r<b) (mC:dg<2^n) (hq:(r*2^n+dg)/b=q) (lT:(r*2^n+dg)%b=r') (j:Nat) (items qs:Array Value) (ud:Nat) (hit:items[j]? =some (.int (dg:Int) ud)) (mB:qs.size<60) (nq:Nat)
 (F it ql dl:Addr) (k0 k1 k2 k3 k4 k5 k6 k7 ta tb tn tr t6 t7:Nat) (v6 v7:Int) (n0:Nat)
 (N t:Nat) (h:Heap) (gl d os) (rest:ae)
 (Rp:Rep x.B N h ((it,hI dl (j:Int))::(ql,an qs nq)::(dl,an items n0)::(F,⟨(.type "frame"),none,(.dict #[En x.B eI k0 (.int (X:Int) ta),En x.B fT k1 (.int (b:Int) tb),En x.B ib k2 (.int (n:Int) tn),En x.B bC k3 (.ref dl),En x.B iS k4 (.int (r:Int) tr),En x.B cT k5 (.ref ql),En x.B ee k6 (.int v6 t6),En x.B ed k7 (.int v7 t7)] 8),#[]⟩)::rest) 0)
 (K:∀h' N' t' tr t6 t7 u,Rep x.B N' h' ((it,hI dl ((j:Int)-1))::(ql,an (qs.push (.int (q:Int) u)) (nq+1))::(dl,an items n0)::(F,⟨(.type "frame"),none,(.dict #[En x.B eI k0 (.int (X:Int) ta),En x.B fT k1 (.int (b:Int) tb),En x.B ib k2 (.int (n:Int) tn),En x.B bC k3 (.ref dl),En x.B iS k4 (.int (r':Int) tr),En x.B cT k5 (.ref ql),En x.B ee k6 (.int (dg:Int) t6),En x.B ed k7 (.int (q:Int) t7)] 8),#[]⟩)::rest) 0→codeAny (MB x.B) A (ai (ah x.B 73 4) (.ref it) (envOf (fdOf x.B 73) 73 F)) R ⟨h',gl,d,t',os⟩):
 codeAny (MB x.B) A (ai (ah x.B 73 4) (.ref it) (envOf (fdOf x.B 73) 73 F)) R ⟨h,gl,d,t,os⟩:=by
 have uE:r*2^n+dg<2^(n+n):=by
  have h1:r*2^n+dg< (r+1)*2^n:=by rw[Nat.succ_mul];exact Db mC
  refine Nat.lt_of_lt_of_le h1 ?_
  rw[Nat.pow_add]
  exact Nat.mul_le_mul_right _ (by exact C' ix hr)
 obtain⟨P0,je⟩:∃P0,r*2^n=P0:=⟨_,rfl⟩
 rw[je] at uE hq lT
 have hs:(r:Int)*2^(n:Int).toNat=(P0:Int):=by rw[Int.toNat_natCast,←je];push_cast;rfl
 have qc:Builtin.Int.intBits ((P0:Int)+(dg:Int))≤n+n:=intBits_le (by rw[show(P0:Int)+(dg:Int)=((P0+dg:Nat):Int) by push_cast;rfl,Int.natAbs_natCast];exact uE)
 have B':(Builtin.Int.intBits (r:Int):Int)+(n:Int)≤2^27:=by
  have:Builtin.Int.intBits (r:Int)≤n:=intBits_le (by rw[Int.natAbs_natCast];exact C9 ix hr)
  exact C8 gX this
 refine af ?_
 refine aa hh Rp [] 13 (dA 0x6) [] (cB "list_reverseiterator.__next__" [.ref it]) [] [] 0 0 ?_
 intro bT h1 N1 t1 Rp eE
 refine pA Rp 0 2 rfl rfl hit rfl fun gH Rp=>?_
 try dsimp only[bm] at Rp
 refine aa hh Rp [] 26 (dA 0x9241149) [] (cB "int.__lshift__" [.int ((↑r:Int)) tr,.int ((↑n:Int)) tn]) [] [.k,.k,.k,.u (dU [(6,.int ((↑dg:Int)) ud)] [] 8)] 0 1 ?_
 intro bW h2 N2 t2 Rp dK
 refine nP (i:=((↑r:Int))) (j:=((↑n:Int))) (c:=(P0:Int)) (by exact mO) (by first|assumption|omega) (by first|assumption|rfl) ?_
 refine aa hh Rp [] 24 (dA 0x1249049) [] (cR 45 [.int ((↑P0:Int)+(↑dg:Int)) (t2+1+0),.int ((↑b:Int)) tb,.int ((↑n:Int)) tn]) [] [] 0 1 ?_
 intro cC h3 N3 t3 Rp eD
 refine nU x (A.under _) hh (by show A.depth+0<900;exact C7 hA) _ ((P0:Int)+(dg:Int)) b n _ q r' rfl (by exact C6 gX qc) (by exact C5 gz) (PyProof.noPylong_small (by rw[Int.natAbs_natCast];exact fv)) (by rw[Int.fdiv_eq_ediv_of_nonneg _ (by exact mO),←hq];push_cast;rfl) (by rw[Int.fmod_eq_emod_of_nonneg _ (by exact mO),←lT];push_cast;rfl) _ _ _ _ _ _ _ _ _ _ Rp fun qb o0 gi ad1 wn Al Rp=>?_
 refine aa hh Rp [] 84 (dA 0xd2cb2cb3493493460861c61860460861c61860460861c6186046186046186) (dM 8) (cB "list.append" [.ref ql,.int ((↑q:Int)) wn]) [] [.k,.k,.k,.k,.u (dU [(4,.int ((↑r':Int)) Al),(7,.int ((↑q:Int)) wn)] [] 8)] 3 2 ?_
 intro db h4 N4 t4 Rp gr
 refine bn Rp 2 rfl (by exact jt mB) rfl fun jw Rp=>?_
 try dsimp only[bm] at Rp
 refine ab hh Rp [] 12 (dA 0x0) [] (Fin.again (ai (ah x.B 73 4) (.ref it) (envOf (fdOf x.B 73) 73 F))) [] [.d] 0 0 ?_
 intro dv h5 N5 t5 Rp
 exact⟨rfl,K _ _ _ _ _ _ _ Rp⟩
theorem uO(x:W2)(A:Around)(hh:A.handled=none)(hA:A.depth<600)(R:Result→Shared→Prop)(X b n dg r q r':Nat)(gz:0<b)(fv:b<1073741824)(ix:b<2^n)(hn:0<n)(gX:n<60)
 (hr:r<b) (mC:dg<2^n) (hq:(r*2^n+dg)/b=q) (lT:(r*2^n+dg)%b=r') (j:Nat) (items qs:Array Value) (ud:Nat) (hit:items[j]? =some (.int (dg:Int) ud)) (mB:qs.size<60) (nq:Nat)
 (F it ql dl:Addr) (k0 k1 k2 k3 k4 k5 ta tb tn tr:Nat) (n0:Nat)
 (N t:Nat) (h:Heap) (gl d os) (rest:ae)
 (Rp:Rep x.B N h ((it,hI dl (j:Int))::(ql,an qs nq)::(dl,an items n0)::(F,⟨(.type "frame"),none,(.dict #[En x.B eI k0 (.int (X:Int) ta),En x.B fT k1 (.int (b:Int) tb),En x.B ib k2 (.int (n:Int) tn),En x.B bC k3 (.ref dl),En x.B iS k4 (.int (r:Int) tr),En x.B cT k5 (.ref ql)] 6),#[]⟩)::rest) 0)
 (K:∀h' N' t' k6 k7 tr t6 t7 u,Rep x.B N' h' ((it,hI dl ((j:Int)-1))::(ql,an (qs.push (.int (q:Int) u)) (nq+1))::(dl,an items n0)::(F,⟨(.type "frame"),none,(.dict #[En x.B eI k0 (.int (X:Int) ta),En x.B fT k1 (.int (b:Int) tb),En x.B ib k2 (.int (n:Int) tn),En x.B bC k3 (.ref dl),En x.B iS k4 (.int (r':Int) tr),En x.B cT k5 (.ref ql),En x.B ee k6 (.int (dg:Int) t6),En x.B ed k7 (.int (q:Int) t7)] 8),#[]⟩)::rest) 0→codeAny (MB x.B) A (ai (ah x.B 73 4) (.ref it) (envOf (fdOf x.B 73) 73 F)) R ⟨h',gl,d,t',os⟩):
 codeAny (MB x.B) A (ai (ah x.B 73 4) (.ref it) (envOf (fdOf x.B 73) 73 F)) R ⟨h,gl,d,t,os⟩:=by
 have uE:r*2^n+dg<2^(n+n):=by
  have h1:r*2^n+dg< (r+1)*2^n:=by rw[Nat.succ_mul];exact Db mC
  refine Nat.lt_of_lt_of_le h1 ?_
  rw[Nat.pow_add]
  exact Nat.mul_le_mul_right _ (by exact C' ix hr)
 obtain⟨P0,je⟩:∃P0,r*2^n=P0:=⟨_,rfl⟩
 rw[je] at uE hq lT
 have hs:(r:Int)*2^(n:Int).toNat=(P0:Int):=by rw[Int.toNat_natCast,←je];push_cast;rfl
 have qc:Builtin.Int.intBits ((P0:Int)+(dg:Int))≤n+n:=intBits_le (by rw[show(P0:Int)+(dg:Int)=((P0+dg:Nat):Int) by push_cast;rfl,Int.natAbs_natCast];exact uE)
 have B':(Builtin.Int.intBits (r:Int):Int)+(n:Int)≤2^27:=by
  have:Builtin.Int.intBits (r:Int)≤n:=intBits_le (by rw[Int.natAbs_natCast];exact C9 ix hr)
  exact C8 gX this
 refine af ?_
 refine aa hh Rp [] 13 (dA 0x6) [] (cB "list_reverseiterator.__next__" [.ref it]) [] [] 0 0 ?_
 intro bT h1 N1 t1 Rp eE
 refine pA Rp 0 2 rfl rfl hit rfl fun gH Rp=>?_
 try dsimp only[bm] at Rp
 refine aa hh Rp [] 26 (dA 0x9241149) [] (cB "int.__lshift__" [.int ((↑r:Int)) tr,.int ((↑n:Int)) tn]) [] [.k,.k,.k,.u (dU [] [En x.B ee (t1+0) (.int ((↑dg:Int)) ud)] 7)] 0 1 ?_
 intro bW h2 N2 t2 Rp dK
 refine nP (i:=((↑r:Int))) (j:=((↑n:Int))) (c:=(P0:Int)) (by exact mO) (by first|assumption|omega) (by first|assumption|rfl) ?_
 refine aa hh Rp [] 24 (dA 0x1249049) [] (cR 45 [.int ((↑P0:Int)+(↑dg:Int)) (t2+1+0),.int ((↑b:Int)) tb,.int ((↑n:Int)) tn]) [] [] 0 1 ?_
 intro cC h3 N3 t3 Rp eD
 refine nU x (A.under _) hh (by show A.depth+0<900;exact C7 hA) _ ((P0:Int)+(dg:Int)) b n _ q r' rfl (by exact C6 gX qc) (by exact C5 gz) (PyProof.noPylong_small (by rw[Int.natAbs_natCast];exact fv)) (by rw[Int.fdiv_eq_ediv_of_nonneg _ (by exact mO),←hq];push_cast;rfl) (by rw[Int.fmod_eq_emod_of_nonneg _ (by exact mO),←lT];push_cast;rfl) _ _ _ _ _ _ _ _ _ _ Rp fun qb o0 gi ad1 wn Al Rp=>?_
 refine aa hh Rp [] 84 (dA 0xd2cb2cb3493493460861c61860460861c61860460861c6186046186046186) (dM 8) (cB "list.append" [.ref ql,.int ((↑q:Int)) wn]) [] [.k,.k,.k,.k,.u (dU [(4,.int ((↑r':Int)) Al)] [En x.B ed (gi+0) (.int ((↑q:Int)) wn)] 8)] 3 2 ?_
 intro db h4 N4 t4 Rp gr
 refine bn Rp 2 rfl (by exact jt mB) rfl fun jw Rp=>?_
 try dsimp only[bm] at Rp
 refine ab hh Rp [] 12 (dA 0x0) [] (Fin.again (ai (ah x.B 73 4) (.ref it) (envOf (fdOf x.B 73) 73 F))) [] [.d] 0 0 ?_
 intro dv h5 N5 t5 Rp
 exact⟨rfl,K _ _ _ _ _ _ _ _ _ Rp⟩
theorem yJ(x:W2)(A:Around)(hh:A.handled=none)(R:Result→Shared→Prop)(F it dl:Addr)(N t:Nat)(h:Heap)(gl d os)(rest:ae)
 (Rp:Rep x.B N h ((it,hI dl (((0:Nat):Int)-1))::rest) 0)
 (K:∀h' N' t',Rep x.B N' h' rest 0→R (.ok .next) ⟨h',gl,d,t',os⟩):
 codeAny (MB x.B) A (ai (ah x.B 73 4) (.ref it) (envOf (fdOf x.B 73) 73 F)) R ⟨h,gl,d,t,os⟩:=by
 refine af ?_
 refine ab hh Rp [] 23 (dA 0x6186046) (dM 4) (Fin.again (.block [] (envOf (fdOf x.B 73) 73 F))) [] [.d] 2 0 ?_
 intro bT h1 N1 t1 Rp
 refine⟨rfl,af ?_⟩
 refine ab hh Rp [] 11 (dA 0x0) [] (Fin.done Flow.next) [] [] 0 0 ?_
 intro bW h2 N2 t2 Rp
 exact K _ _ _ Rp
theorem ma(X b n j r dg q r':Nat)(hb:0<b)(ix:b<2^n)(hr:X/2^(n*(j+1))%b=r)(mC:X/2^(n*j)%2^n=dg)(hq:X/2^(n*j)/b%2^n=q)(lT:X/2^(n*j)%b=r'):
 (r*2^n+dg)/b=q∧(r*2^n+dg)%b=r':=by
 obtain⟨Y,hY⟩:∃Y,X/2^(n*j)=Y:=⟨_,rfl⟩
 have hP:X/2^(n*(j+1))=Y/2^n:=by rw[←hY,Nat.div_div_eq_div_mul,←Nat.pow_add];rfl
 rw[hP] at hr
 rw[hY] at mC hq lT
 obtain⟨P,Gf⟩:∃P,Y/2^n=P:=⟨_,rfl⟩
 rw[Gf] at hr
 have rQ:0<2^n:=Nat.two_pow_pos n
 have hYe:Y=P*2^n+dg:=by rw[←Gf,←mC,Nat.mul_comm];exact(Nat.div_add_mod _ _).symm
 have uE:P=b*(P/b)+r:=by rw[←hr];exact(Nat.div_add_mod _ _).symm
 have Ge:Y=(r*2^n+dg)+b*(P/b*2^n):=by
  conv=>lhs;rw[hYe,uE]
  rw[Nat.add_mul,Nat.mul_assoc];omega
 have B':r<b:=by rw[←hr];exact Nat.mod_lt _ hb
 have hdgl:dg<2^n:=by rw[←mC];exact Nat.mod_lt _ rQ
 have mX:(r*2^n+dg)/b<2^n:=by
  refine(Nat.div_lt_iff_lt_mul hb).mpr ?_
  have h1:r*2^n+dg< (r+1)*2^n:=by rw[Nat.succ_mul];exact GV mC
  refine Nat.lt_of_lt_of_le h1 ?_
  rw[Nat.mul_comm (2^n)]
  exact Nat.mul_le_mul_right _ (by exact GU B')
 constructor
 ·rw[←hq]
  conv=>rhs;rw[Ge]
  rw[Nat.add_mul_div_left _ _ hb,Nat.add_mul_mod_self_right,Nat.mod_eq_of_lt mX]
 ·rw[←lT]
  conv=>rhs;rw[Ge]
  rw[Nat.add_mul_mod_self_left]
noncomputable def jF(qs:Array Value)(X b n k j:Nat):Prop:=qs.size+j=k∧∀i,i<qs.size→∃u,qs[i]? =some (.int ((X/2^(n*(k-1-i))/b%2^n:Nat):Int) u)
theorem jF.push{qs:Array Value}{X b n k j q u:Nat}(a:jF qs X b n k (j+1))(hq:X/2^(n*j)/b%2^n=q):jF (qs.push (.int (q:Int) u)) X b n k j:=by
 refine⟨by rw[Array.size_push];have:=a.1;omega,fun i hi=>?_⟩
 rw[Array.size_push] at hi
 by_cases c:i<qs.size
 ·obtain⟨v,e⟩:=a.2 i c
  exact⟨v,by rw[Array.getElem?_push_lt c,←Array.getElem?_eq_getElem c];exact e⟩
 ·have:i=qs.size:=by omega
  subst this
  refine⟨u,?_⟩
  rw[Array.getElem?_push_size,show k-1-qs.size=j by have:=a.1;omega,hq]
theorem jF.digs{qs:Array Value}{X b n k:Nat}(a:jF qs X b n k 0):jq qs.reverse (X/b) n k:=by
 have hs:qs.size=k:=a.1
 refine⟨by rw[Array.size_reverse,hs],fun i hi=>?_⟩
 obtain⟨u,e⟩:=a.2 (k-1-i) (by omega)
 refine⟨u,?_⟩
 rw[Array.getElem?_reverse (by omega),hs,e,show k-1- (k-1-i)=i by omega,Nat.div_div_eq_div_mul,Nat.div_div_eq_div_mul,Nat.mul_comm b]
theorem uR(x:W2)(X b n k:Nat)(gz:0<b)(fv:b<1073741824)(ix:b<2^n)(hn:0<n)(gX:n<60)(hk:k<60)(items:Array Value)(mC:jq items X n k)
 (F it ql dl:Addr) (k0 k1 k2 k3 k4 k5 ta tb tn:Nat) (n0:Nat) (A:Around) (hh:A.handled=none) (hA:A.depth<600) (R:Result→Shared→Prop) (gl d os) (rest:ae):∀(j:Nat) (qs:Array Value) (nq r k6 k7 tr t6 t7:Nat) (v6 v7:Int)
 (N t:Nat) (h:Heap) (_:j≤k) (_:jF qs X b n k j) (_:X/2^(n*j)%b=r)
 (_:Rep x.B N h ((it,hI dl ((j:Int)-1))::(ql,an qs nq)::(dl,an items n0)::(F,⟨(.type "frame"),none,(.dict #[En x.B eI k0 (.int (X:Int) ta),En x.B fT k1 (.int (b:Int) tb),En x.B ib k2 (.int (n:Int) tn),En x.B bC k3 (.ref dl),En x.B iS k4 (.int (r:Int) tr),En x.B cT k5 (.ref ql),En x.B ee k6 (.int v6 t6),En x.B ed k7 (.int v7 t7)] 8),#[]⟩)::rest) 0)
 (_:∀h' N' t' zg nq k6 k7 tr t6 t7 v6 v7,jF zg X b n k 0→Rep x.B N' h' ((ql,an zg nq)::(dl,an items n0)::(F,⟨(.type "frame"),none,(.dict #[En x.B eI k0 (.int (X:Int) ta),En x.B fT k1 (.int (b:Int) tb),En x.B ib k2 (.int (n:Int) tn),En x.B bC k3 (.ref dl),En x.B iS k4 (.int ((X%b:Nat):Int) tr),En x.B cT k5 (.ref ql),En x.B ee k6 (.int v6 t6),En x.B ed k7 (.int v7 t7)] 8),#[]⟩)::rest) 0→R (.ok .next) ⟨h',gl,d,t',os⟩),
 codeAny (MB x.B) A (ai (ah x.B 73 4) (.ref it) (envOf (fdOf x.B 73) 73 F)) R ⟨h,gl,d,t,os⟩:=by
 intro j
 induction j with
 |zero=>
  intro qs nq r k6 k7 tr t6 t7 v6 v7 N t h hj mB hr Rp K
  have e:X%b=r:=by simpa using hr
  refine yJ x A hh R F it dl N t h gl d os _ Rp fun h' N' t' Rp=>K _ _ _ _ _ _ _ _ _ _ _ _ mB (e▸Rp)
 |succ j ih=>
  intro qs nq r k6 k7 tr t6 t7 v6 v7 N t h hj mB hr Rp K
  rw[show((j+1:Nat):Int)-1=(j:Int) by exact Fy] at Rp
  obtain⟨u,hu⟩:=mC.2 j (by exact EI hj)
  obtain⟨s1,s2⟩:=ma X b n j r _ _ _ gz ix hr rfl rfl rfl
  refine uN x A hh hA R X b n _ r _ _ gz fv ix hn gX (by rw[←hr];exact Nat.mod_lt _ gz) (Nat.mod_lt _ (Nat.two_pow_pos _)) s1 s2 j items qs u hu (by have:=mB.1;omega) nq F it ql dl k0 k1 k2 k3 k4 k5 k6 k7 ta tb tn tr t6 t7 v6 v7 n0 N t h gl d os rest Rp fun h' N' t' tr t6 t7 u Rp=>?_
  exact ih _ _ _ _ _ _ _ _ _ _ _ _ _ (by omega) (mB.push rfl) rfl Rp K
theorem uP(x:W2)(A:Around)(hh:A.handled=none)(hA:A.depth<550)(X b n k r:Nat)(hr:X%b=r)(hn:0<n)(gX:n<60)(jv:k<60)(hX:X<2^(n*k))(qs:Array Value)(mB:jF qs X b n k 0)
 (F ql:Addr) (k0 k1 k2 k3 k4 k5 k6 k7 ta tb tn tr t6 t7:Nat) (v6 v7:Int) (n0 nq:Nat) (dl:Addr) (items:Array Value)
 (N t:Nat) (h:Heap) (gl d os) (rest:ae) (Q:Flow→Shared→Prop)
 (Rp:Rep x.B N h ((ql,an qs nq)::(dl,an items n0)::(F,⟨(.type "frame"),none,(.dict #[En x.B eI k0 (.int (X:Int) ta),En x.B fT k1 (.int (b:Int) tb),En x.B ib k2 (.int (n:Int) tn),En x.B bC k3 (.ref dl),En x.B iS k4 (.int (r:Int) tr),En x.B cT k5 (.ref ql),En x.B ee k6 (.int v6 t6),En x.B ed k7 (.int v7 t7)] 8),#[]⟩)::rest) 0)
 (K:∀h' N' t' a u v,Rep x.B N' h' ((a,⟨.type "tuple",none,.seq #[.int (X/b:Nat) u,.int (X%b:Nat) v] 0,#[]⟩)::rest) 0→Q (.ret (.ref a)) ⟨h',gl,d,t',os⟩):
 wpAny (MB x.B) A (aj ((am (fdOf x.B 73)).drop 5) (envOf (fdOf x.B 73) 73 F)) Q (fun _ _=>False) ⟨h,gl,d,t,os⟩:=by
 subst hr
 have Cp:X/b<2^(n*k):=Nat.lt_of_le_of_lt (Nat.div_le_self _ _) hX
 refine bS 1 ?_
 refine aa hh Rp [] 21 (dA 0x6186188) [] (cB "list.reverse" [.ref ql]) [] [] 0 0 ?_
 intro bT h1 N1 t1 Rp eE
 refine j3 Rp 0 rfl (by have:=mB.1;exact FC jv this) rfl fun jw Rp=>?_
 try dsimp only[bm] at Rp
 refine ab hh Rp [] 12 (dA 0x0) [] Flow.next [] [] 0 0 ?_
 intro bW h2 N2 t2 Rp
 show wpAny _ _ (aj ..) ..
 refine bS 1 ?_
 refine aa hh Rp [] 20 (dA 0x48201) [] (cR 66 [.ref ql,.int ((↑n:Int)) tn]) [] [] 0 0 ?_
 intro cC h3 N3 t3 Rp eD
 refine Gy x A hh (by exact FA hA) _ (X/b) n k hn (by exact zU gX) jv Cp 0 _ _ _ _ _ _ _ _ _ _ _ mB.digs Rp fun h' N' t' u Rp=>?_
 refine ab hh Rp [] 19 (dA 0xc7) [] Flow.next [] [.k,.u (dU [] [En x.B BF (t'+0) (.int ((↑(X/b):Int)) u)] 9)] 0 1 ?_
 intro db h4 N4 t4 Rp
 show wpAny _ _ (aj ..) ..
 refine ab hh Rp [] 18 (dA 0x1c7) (dM 3) (Flow.ret (.ref (N4+0))) [(N4+0,oT #[.int ((↑(X/b):Int)) u,.int ((↑(X%b):Int)) tr])] [.d,.d] 1 0 ?_
 intro dv h5 N5 t5 Rp
 exact K _ _ _ _ _ _ Rp
theorem uQ(x:W2)(A:Around)(hh:A.handled=none)(hA:A.depth<550)(X b n k r:Nat)(hr:X%b=r)(hn:0<n)(gX:n<60)(jv:k<60)(hX:X<2^(n*k))(qs:Array Value)(mB:jF qs X b n k 0)
 (F ql:Addr) (k0 k1 k2 k3 k4 k5 ta tb tn tr:Nat) (n0 nq:Nat) (dl:Addr) (items:Array Value)
 (N t:Nat) (h:Heap) (gl d os) (rest:ae) (Q:Flow→Shared→Prop)
 (Rp:Rep x.B N h ((ql,an qs nq)::(dl,an items n0)::(F,⟨(.type "frame"),none,(.dict #[En x.B eI k0 (.int (X:Int) ta),En x.B fT k1 (.int (b:Int) tb),En x.B ib k2 (.int (n:Int) tn),En x.B bC k3 (.ref dl),En x.B iS k4 (.int (r:Int) tr),En x.B cT k5 (.ref ql)] 6),#[]⟩)::rest) 0)
 (K:∀h' N' t' a u v,Rep x.B N' h' ((a,⟨.type "tuple",none,.seq #[.int (X/b:Nat) u,.int (X%b:Nat) v] 0,#[]⟩)::rest) 0→Q (.ret (.ref a)) ⟨h',gl,d,t',os⟩):
 wpAny (MB x.B) A (aj ((am (fdOf x.B 73)).drop 5) (envOf (fdOf x.B 73) 73 F)) Q (fun _ _=>False) ⟨h,gl,d,t,os⟩:=by
 subst hr
 have Cp:X/b<2^(n*k):=Nat.lt_of_le_of_lt (Nat.div_le_self _ _) hX
 refine bS 1 ?_
 refine aa hh Rp [] 21 (dA 0x6186188) [] (cB "list.reverse" [.ref ql]) [] [] 0 0 ?_
 intro bT h1 N1 t1 Rp eE
 refine j3 Rp 0 rfl (by have:=mB.1;exact FC jv this) rfl fun jw Rp=>?_
 try dsimp only[bm] at Rp
 refine ab hh Rp [] 12 (dA 0x0) [] Flow.next [] [] 0 0 ?_
 intro bW h2 N2 t2 Rp
 show wpAny _ _ (aj ..) ..
 refine bS 1 ?_
 refine aa hh Rp [] 20 (dA 0x48201) [] (cR 66 [.ref ql,.int ((↑n:Int)) tn]) [] [] 0 0 ?_
 intro cC h3 N3 t3 Rp eD
 refine Gy x A hh (by exact FA hA) _ (X/b) n k hn (by exact zU gX) jv Cp 0 _ _ _ _ _ _ _ _ _ _ _ mB.digs Rp fun h' N' t' u Rp=>?_
 refine ab hh Rp [] 19 (dA 0xc7) [] Flow.next [] [.k,.u (dU [] [En x.B BF (t'+0) (.int ((↑(X/b):Int)) u)] 7)] 0 1 ?_
 intro db h4 N4 t4 Rp
 show wpAny _ _ (aj ..) ..
 refine ab hh Rp [] 18 (dA 0x1c7) (dM 3) (Flow.ret (.ref (N4+0))) [(N4+0,oT #[.int ((↑(X/b):Int)) u,.int ((↑(X%b):Int)) tr])] [.d,.d] 1 0 ?_
 intro dv h5 N5 t5 Rp
 exact K _ _ _ _ _ _ Rp
theorem Cx(x:W2)(A:Around)(hh:A.handled=none)(hA:A.depth<500)(R:Result→Shared→Prop)(X b n c k:Nat)(gz:0<b)(fv:b<1073741824)(hc:((Builtin.Int.intBits (X:Int):Nat):Int)=(c:Int))(Gc:((Builtin.Int.intBits (b:Int):Nat):Int)=(n:Int))(ix:b<2^n)(hn:0<n)(gX:n<60)(gw:c<60)
 (hk:(c+n-1)/n=k) (jv:k<60) (hp:Builtin.divisionGoesByPylong ((c:Int)+(n:Int)-1) (n:Int)=false) (hX:X<2^(n*k)) (cZ:0<X→0<k)
 (ta tb:Nat) (N t:Nat) (h:Heap) (gl d os) (rest:ae) (Rp:Rep x.B N h rest 0)
 (K:∀h' N' t' a u v,Rep x.B N' h' ((a,⟨.type "tuple",none,.seq #[.int (X/b:Nat) u,.int (X%b:Nat) v] 0,#[]⟩)::rest) 0→R (.ok (.ret (.ref a))) ⟨h',gl,d,t',os⟩):
 codeAny (MB x.B) A (.call (.ref 73) ⟨[.int X ta,.int b tb],[]⟩) R ⟨h,gl,d,t,os⟩:=by
 refine bE hh Rp (by exact sN hA) 22 (dA 0x86086041) (am (fdOf x.B 73)) (envOf (fdOf x.B 73) 73 (N+0)) [(N+0,oF #[En x.B eI (t+0) (.int ((↑X:Int)) ta),En x.B fT (t+1) (.int ((↑b:Int)) tb)] 2)] 1 2 (by rfl') ?_
 intro bT h1 N1 t1 Rp
 refine bS 1 ?_
 refine aa hh Rp [] 17 (dA 0x6) [] (cB "int.bit_length" [.int ((↑b:Int)) tb]) [] [] 0 0 ?_
 intro bW h2 N2 t2 Rp dK
 refine mV (i:=((↑b:Int))) (c:=(n:Int)) (by first|assumption|rfl) ?_
 refine ab hh Rp [] 19 (dA 0x86) [] Flow.next [] [.u (dU [] [En x.B ib (t2+1+0) (.int ((↑n:Int)) t2)] 3)] 0 1 ?_
 intro cC h3 N3 t3 Rp
 refine bS 1 ?_
 refine aa hh Rp [] 20 (dA 0x46181) [] (cR 59 [.int ((↑X:Int)) ta,.int ((↑n:Int)) t2]) [] [] 0 0 ?_
 intro db h4 N4 t4 Rp gr
 refine HD x (A.under _) hh (by show A.depth+1<600;exact oS hA) _ X n c k hc hn (by exact zU gX) (by exact zU gw) hk jv hp hX cZ _ _ _ _ _ _ _ _ _ Rp fun F8 GC Au dl items mC Rp=>?_
 refine ab hh Rp [] 19 (dA 0xc7) [] Flow.next [] [.k,.u (dU [] [En x.B bC (Au+0) (.ref dl)] 4)] 0 1 ?_
 intro dv h5 N5 t5 Rp
 refine bS 1 ?_
 refine ab hh Rp [] 20 (dA 0xc7) [] Flow.next [] [.k,.u (dU [] [En x.B iS (t5+1) (.int 0 (t5+0))] 5)] 0 2 ?_
 intro eN h6 N6 t6 Rp
 refine bS 1 ?_
 refine ab hh Rp [] 21 (dA 0x108) (dM 3) Flow.next [(N6+0,oL #[] 0)] [.k,.u (dU [] [En x.B cT (t6+0) (.ref (N6+0))] 6)] 1 1 ?_
 intro ie h7 N7 t7 Rp
 refine bS 1 ?_
 refine aa hh Rp [] 44 (dA 0x61811861871c11c1048041) (dM 3) (ai (ah x.B 73 4) (.ref (N7+0)) (envOf (fdOf x.B 73) 73 (N+0))) [(N7+0,oI "list_reverseiterator" #[.ref dl,.int ((↑items.size:Int)-1) 0])] [] 1 0 ?_
 intro iG h8 N8 t8 Rp tS
 dsimp only[iG] at Rp;rw[mC.1] at Rp
 rcases k with _|k
 ·have hX00:X=0:=by simpa using hX
  refine yJ x (A.under _) hh _ (N+0) _ dl _ _ _ _ _ _ _ Rp fun h' N' t' Rp=>?_
  refine ab hh Rp [] 11 (dA 0x0) [] Flow.next [] [] 0 0 ?_
  intro iM h9 N9 t9 Rp
  show wpAny _ _ (aj ..) ..
  exact uQ x (A.under _) hh (by show A.depth+1<550;exact Fz hA) X b n 0 0 (by rw[hX00];simp) hn gX jv hX #[] ⟨rfl,fun i hi=>absurd hi (by simp)⟩ (N+0) _ _ _ _ _ _ _ _ _ _ _ 0 0 dl items _ _ _ _ _ _ _ _ Rp fun h' N' t' a u v Rp=>K _ _ _ _ _ _ Rp
 ·rw[show((k+1:Nat):Int)-1=(k:Int) by exact Fy] at Rp
  obtain⟨u,hu⟩:=mC.2 k (by omega)
  have h00:X/2^(n*(k+1))%b=0:=by rw[Nat.div_eq_of_lt hX];simp
  obtain⟨s1,s2⟩:=ma X b n k 0 _ _ _ gz ix h00 rfl rfl rfl
  refine uO x (A.under _) hh (by show A.depth+1<600;exact oS hA) _ X b n _ 0 _ _ gz fv ix hn gX gz (Nat.mod_lt _ (Nat.two_pow_pos _)) s1 s2 k items #[] u hu (by simp) 0 (N+0) _ _ dl _ _ _ _ _ _ _ _ _ _ 0 _ _ _ _ _ _ rest Rp fun h' N' t' k6 k7 tr s6 s7 u Rp=>?_
  refine uR x X b n (k+1) gz fv ix hn gX jv items mC (N+0) _ _ dl _ _ _ _ _ _ _ _ _ 0 (A.under _) hh (by show A.depth+1<600;exact oS hA) _ _ _ _ rest k _ _ _ _ _ _ _ _ _ _ _ _ _ (by omega) (jF.push (qs:=#[]) ⟨by simp,fun i hi=>absurd hi (by simp)⟩ rfl) rfl Rp fun h' N' t' zg nq k6 k7 tr s6 s7 v6 v7 mB Rp=>?_
  refine ab hh Rp [] 11 (dA 0x0) [] Flow.next [] [] 0 0 ?_
  intro iM h9 N9 t9 Rp
  show wpAny _ _ (aj ..) ..
  exact uP x (A.under _) hh (by show A.depth+1<550;exact Fz hA) X b n (k+1) _ rfl hn gX jv hX zg mB (N+0) _ _ _ _ _ _ _ _ _ _ _ _ _ _ _ _ _ 0 nq dl items _ _ _ _ _ _ _ _ Rp fun h' N' t' a u v Rp=>K _ _ _ _ _ _ Rp
theorem kX(n:Nat):n<2^Builtin.Int.intBits (n:Int):=by
 unfold Builtin.Int.intBits
 by_cases h:(n:Int)==0
 ·rw[if_pos h]
  have:(n:Int)=0:=by simpa using h
  have:n=0:=by omega
  subst this;decide
 ·rw[if_neg h,Int.natAbs_natCast]
  exact Nat.lt_log2_self
theorem qD{n:Nat}(h:0<n):0<Builtin.Int.intBits (n:Int):=by
 rcases Nat.eq_zero_or_pos (Builtin.Int.intBits (n:Int)) with z|z
 ·have:=kX n
  rw[z] at this;simp at this;omega
 ·exact z
theorem yI(x:W2)(A:Around)(hh:A.handled=none)(hA:A.depth<500)(R:Result→Shared→Prop)(X b:Nat)(gz:0<b)(fv:b<1073741824)(hX58:X<2^58)
 (ta tb:Nat) (N t:Nat) (h:Heap) (gl d os) (rest:ae) (Rp:Rep x.B N h rest 0)
 (K:∀h' N' t' a u v,Rep x.B N' h' ((a,⟨.type "tuple",none,.seq #[.int (X/b:Nat) u,.int (X%b:Nat) v] 0,#[]⟩)::rest) 0→R (.ok (.ret (.ref a))) ⟨h',gl,d,t',os⟩):
 codeAny (MB x.B) A (.call (.ref 73) ⟨[.int X ta,.int b tb],[]⟩) R ⟨h,gl,d,t,os⟩:=by
 have hn:=qD gz
 have Gc:=kX b
 have Co:=kX X
 have gX:Builtin.Int.intBits (b:Int)≤30:=intBits_le (by rw[Int.natAbs_natCast];exact fv)
 have qZ:Builtin.Int.intBits (X:Int)≤58:=intBits_le (by rw[Int.natAbs_natCast];exact hX58)
 generalize hcn:Builtin.Int.intBits (X:Int)=c at*
 generalize hnn:Builtin.Int.intBits (b:Int)=n at*
 have Cb:c≤n*((c+n-1)/n):=by
  have h1:=Nat.div_add_mod (c+n-1) n
  have h2:=Nat.mod_lt (c+n-1) hn
  exact GZ h1 h2
 have hk60:(c+n-1)/n<60:=by
  refine Nat.lt_of_le_of_lt (m:=c) ?_ (by exact EL qZ)
  rcases Nat.eq_zero_or_pos c with z|z
  ·subst z;rw[Nat.div_eq_of_lt (by exact EM hn)];exact Nat.le_refl _
  ·refine(Nat.div_le_iff_le_mul_add_pred hn).mpr ?_
   have:c≤n*c:=Nat.le_mul_of_pos_left _ hn
   omega
 refine Cx x A hh hA R X b n c _ gz fv (by rw[hcn]) (by rw[hnn]) Gc hn (by omega) (by exact EL qZ) rfl hk60 (PyProof.noPylong_small (by rw[Int.natAbs_natCast];omega)) (Nat.lt_of_lt_of_le Co (Nat.pow_le_pow_right (by decide) Cb)) (fun h0=>?_) ta tb N t h gl d os rest Rp K
 rcases Nat.eq_zero_or_pos ((c+n-1)/n) with z|z
 ·rw[z] at Cb
  have hz:c=0:=by exact GY Cb
  rw[hz] at Co;simp at Co;omega
 ·exact z
theorem pS(x:W2)(A:Around)(hh:A.handled=none)(hA:A.depth<480)(R:Result→Shared→Prop)(a b q r:Int)(ha:0≤a)(m6:a<2^58)(gz:0<b)(fv:b<1073741824)(hq:a.fdiv b=q)(hr:a.fmod b=r)
 (ta tb:Nat) (N t:Nat) (h:Heap) (gl d os) (rest:ae) (Rp:Rep x.B N h rest 0)
 (K:∀h' N' t' a u v,Rep x.B N' h' ((a,⟨.type "tuple",none,.seq #[.int q u,.int r v] 0,#[]⟩)::rest) 0→R (.ok (.ret (.ref a))) ⟨h',gl,d,t',os⟩):
 codeAny (MB x.B) A (.call (.ref 80) ⟨[.int a ta,.int b tb],[]⟩) R ⟨h,gl,d,t,os⟩:=by
 obtain⟨X,rfl⟩:=Int.eq_ofNat_of_zero_le ha
 obtain⟨Y,rfl⟩:=Int.eq_ofNat_of_zero_le (Int.le_of_lt gz)
 have ye:((X/Y:Nat):Int)=q:=by rw[←hq,Int.fdiv_eq_ediv_of_nonneg _ (by exact mO)];rfl
 have lT:((X%Y:Nat):Int)=r:=by rw[←hr,Int.fmod_eq_emod_of_nonneg _ (by exact mO)];rfl
 subst ye lT
 refine bE hh Rp (by omega) 22 (dA 0x86086041) (am (fdOf x.B 80)) (envOf (fdOf x.B 80) 80 (N+0)) [(N+0,oF #[En x.B eI (t+0) (.int ((↑X:Int)) ta),En x.B fT (t+1) (.int ((↑Y:Int)) tb)] 2)] 1 2 (by rfl') ?_
 intro bT h1 N1 t1 Rp
 refine aa hh Rp [] 17 (dA 0x6) [] (cB "int.__eq__" [.int ((↑Y:Int)) tb,.int 0 (t1+0)]) [] [] 0 1 ?_
 intro bW h2 N2 t2 Rp dK
 refine lQ (r:=false) (i:=((↑Y:Int))) (j:=(0)) (decide_eq_false (by omega)) ?_
 refine aa hh Rp [] 17 (dA 0x6) [] (cB "int.__lt__" [.int ((↑Y:Int)) tb,.int 0 (t2+0)]) [] [] 0 1 ?_
 intro cC h3 N3 t3 Rp eD
 refine oo (r:=false) (i:=((↑Y:Int))) (j:=(0)) (decide_eq_false (by exact zB)) ?_
 refine aa hh Rp [] 17 (dA 0x6) [] (cB "int.__lt__" [.int ((↑X:Int)) ta,.int 0 (t3+0)]) [] [] 0 1 ?_
 intro db h4 N4 t4 Rp gr
 refine oo (r:=false) (i:=((↑X:Int))) (j:=(0)) (decide_eq_false (by exact zB)) ?_
 refine aa hh Rp [] 20 (dA 0x46181) [] (cR 73 [.int ((↑X:Int)) ta,.int ((↑Y:Int)) tb]) [] [] 0 0 ?_
 intro dv h5 N5 t5 Rp mU
 refine yI x (A.under _) hh (by show A.depth+1<500;omega) _ X Y (by omega) (by omega) (by omega) _ _ _ _ _ _ _ _ _ Rp fun qb o0 gi a u v Rp=>?_
 refine ab hh Rp [] 12 (dA 0x0) [] (Flow.ret (.ref a)) [] [.k,.d] 0 0 ?_
 intro eN h6 N6 t6 Rp
 exact K _ _ _ _ _ _ Rp
theorem rD(a b:Int)(hb:0<b):Builtin.bitNot ((-a-1).fdiv b)=a.fdiv b∧b+Builtin.bitNot ((-a-1).fmod b)=a.fmod b:=by
 rw[Int.fdiv_eq_ediv_of_nonneg _ (by exact qS hb),Int.fdiv_eq_ediv_of_nonneg _ (by exact qS hb),Int.fmod_eq_emod_of_nonneg _ (by exact qS hb),Int.fmod_eq_emod_of_nonneg _ (by exact qS hb)]
 have h0:=Int.emod_nonneg a (show b≠0 by exact FD hb)
 have h1:=Int.emod_lt_of_pos a hb
 have h2:=Int.emod_add_mul_ediv a b
 have key:=(Int.ediv_emod_unique (a:=-a-1) (r:=b-1-a%b) (q:=-(a/b)-1) hb).mpr ⟨by rw[Int.mul_sub,Int.mul_neg,Int.mul_one];omega,by omega,by omega⟩
 rw[key.1,key.2]
 have hn:∀z:Int,Builtin.bitNot z= -z-1:=fun z=>rfl
 rw[hn,hn]
 omega
theorem tZ(x:W2)(A:Around)(hh:A.handled=none)(hA:A.depth<470)(R:Result→Shared→Prop)(a b q r:Int)(ha:a<0)(m6:-(2^58)<a)(gz:0<b)(fv:b<1073741824)(hq:a.fdiv b=q)(hr:a.fmod b=r)
 (ta tb:Nat) (N t:Nat) (h:Heap) (gl d os) (rest:ae) (Rp:Rep x.B N h rest 0)
 (K:∀h' N' t' a u v,Rep x.B N' h' ((a,⟨.type "tuple",none,.seq #[.int q u,.int r v] 0,#[]⟩)::rest) 0→R (.ok (.ret (.ref a))) ⟨h',gl,d,t',os⟩):
 codeAny (MB x.B) A (.call (.ref 80) ⟨[.int a ta,.int b tb],[]⟩) R ⟨h,gl,d,t,os⟩:=by
 refine bE hh Rp (by omega) 22 (dA 0x86086041) (am (fdOf x.B 80)) (envOf (fdOf x.B 80) 80 (N+0)) [(N+0,oF #[En x.B eI (t+0) (.int (a) ta),En x.B fT (t+1) (.int (b) tb)] 2)] 1 2 (by rfl') ?_
 intro bT h1 N1 t1 Rp
 refine aa hh Rp [] 17 (dA 0x6) [] (cB "int.__eq__" [.int (b) tb,.int 0 (t1+0)]) [] [] 0 1 ?_
 intro bW h2 N2 t2 Rp dK
 refine lQ (r:=false) (i:=(b)) (j:=(0)) (decide_eq_false (by exact vO gz)) ?_
 refine aa hh Rp [] 17 (dA 0x6) [] (cB "int.__lt__" [.int (b) tb,.int 0 (t2+0)]) [] [] 0 1 ?_
 intro cC h3 N3 t3 Rp eD
 refine oo (r:=false) (i:=(b)) (j:=(0)) (decide_eq_false (by exact A4 gz)) ?_
 refine aa hh Rp [] 17 (dA 0x6) [] (cB "int.__lt__" [.int (a) ta,.int 0 (t3+0)]) [] [] 0 1 ?_
 intro db h4 N4 t4 Rp gr
 refine oo (r:=true) (i:=(a)) (j:=(0)) (decide_eq_true (by exact EK ha)) ?_
 refine aa hh Rp [] 25 (dA 0x1181181) [] (cR 80 [.int (Builtin.bitNot a) (t4+0),.int (b) tb]) [] [] 0 1 ?_
 intro dv h5 N5 t5 Rp mU
 refine pS x (A.under _) hh (by show A.depth+1<480;omega) _ (-a-1) b _ _ (by omega) (by omega) (by omega) (by omega) rfl rfl _ _ _ _ _ _ _ _ _ Rp fun qb o0 gi ad ud vd Rp=>?_
 refine ab hh Rp [] 96 (dA 0x104a2812862862860861c61860460861c61860460861c6186046186046186) (dM 17) (Flow.ret (.ref (o0+3))) [(o0+3,oT #[.int (Builtin.bitNot ((-a-1).fdiv b)) (gi+2),.int (b+Builtin.bitNot ((-a-1).fmod b)) (gi+4)])] [.d,.d] 4 5 ?_
 intro eN h6 N6 t6 Rp
 obtain⟨e1,e2⟩:=rD a b gz
 dsimp only[eN] at Rp;rw[e1,e2,hq,hr] at Rp
 exact K _ _ _ _ _ _ Rp
theorem gu(x:W2)(A:Around)(hh:A.handled=none)(hA:A.depth<470)(R:Result→Shared→Prop)(a b q r:Int)(ha:-(2^58)<a)(m6:a<2^58)(gz:0<b)(fv:b<1073741824)(hq:a.fdiv b=q)(hr:a.fmod b=r)
 (ta tb:Nat) (N t:Nat) (h:Heap) (gl d os) (rest:ae) (Rp:Rep x.B N h rest 0)
 (K:∀h' N' t' a u v,Rep x.B N' h' ((a,⟨.type "tuple",none,.seq #[.int q u,.int r v] 0,#[]⟩)::rest) 0→R (.ok (.ret (.ref a))) ⟨h',gl,d,t',os⟩):
 codeAny (MB x.B) A (.call (.ref 80) ⟨[.int a ta,.int b tb],[]⟩) R ⟨h,gl,d,t,os⟩:=by
 rcases Int.lt_or_le a 0 with c|c
 ·exact tZ x A hh hA R a b q r c ha gz fv hq hr ta tb N t h gl d os rest Rp K
 ·exact pS x A hh (by omega) R a b q r c m6 gz fv hq hr ta tb N t h gl d os rest Rp K
theorem tY(x:W2)(A:Around)(hh:A.handled=none)(hA:A.depth<460)(R:Result→Shared→Prop)(a b q r:Int)(ha:-(2^58)<a)(m6:a<2^58)(gz:b<0)(fv:-1073741824<b)(hq:a.fdiv b=q)(hr:a.fmod b=r)
 (ta tb:Nat) (N t:Nat) (h:Heap) (gl d os) (rest:ae) (Rp:Rep x.B N h rest 0)
 (K:∀h' N' t' a u v,Rep x.B N' h' ((a,⟨.type "tuple",none,.seq #[.int q u,.int r v] 0,#[]⟩)::rest) 0→R (.ok (.ret (.ref a))) ⟨h',gl,d,t',os⟩):
 codeAny (MB x.B) A (.call (.ref 80) ⟨[.int a ta,.int b tb],[]⟩) R ⟨h,gl,d,t,os⟩:=by
 refine bE hh Rp (by omega) 22 (dA 0x86086041) (am (fdOf x.B 80)) (envOf (fdOf x.B 80) 80 (N+0)) [(N+0,oF #[En x.B eI (t+0) (.int (a) ta),En x.B fT (t+1) (.int (b) tb)] 2)] 1 2 (by rfl') ?_
 intro bT h1 N1 t1 Rp
 refine aa hh Rp [] 17 (dA 0x6) [] (cB "int.__eq__" [.int (b) tb,.int 0 (t1+0)]) [] [] 0 1 ?_
 intro bW h2 N2 t2 Rp dK
 refine lQ (r:=false) (i:=(b)) (j:=(0)) (decide_eq_false (by omega)) ?_
 refine aa hh Rp [] 17 (dA 0x6) [] (cB "int.__lt__" [.int (b) tb,.int 0 (t2+0)]) [] [] 0 1 ?_
 intro cC h3 N3 t3 Rp eD
 refine oo (r:=true) (i:=(b)) (j:=(0)) (decide_eq_true (by exact EK gz)) ?_
 refine aa hh Rp [] 30 (dA 0x41181181) [] (cR 80 [.int (-a) (t3+0),.int (-b) (t3+1)]) [] [] 0 2 ?_
 intro db h4 N4 t4 Rp gr
 refine gu x (A.under _) hh (by show A.depth+1<470;omega) _ (-a) (-b) _ _ (by omega) (by omega) (by omega) (by omega) rfl rfl _ _ _ _ _ _ _ _ _ Rp fun qb o0 gi ad ud vd Rp=>?_
 refine ab hh Rp [] 84 (dA 0x4a2862862860861c61860460861c61860460861c6186046186046186) (dM 17) (Flow.ret (.ref (o0+3))) [(o0+3,oT #[.int ((-a).fdiv (-b)) ud,.int (-(-a).fmod (-b)) (gi+2)])] [.d,.d] 4 3 ?_
 intro dv h5 N5 t5 Rp
 have e1:(-a).fdiv (-b)=q:=by rw[←hq,Int.neg_fdiv_neg]
 have e2:-((-a).fmod (-b))=r:=by rw[←hr,Int.neg_fmod_neg,Int.neg_neg]
 dsimp only[dv] at Rp;rw[e1,e2] at Rp
 exact K _ _ _ _ _ _ Rp
theorem pe{items:Array Value}{p:Int}{x y:Value}(h0:0≤p)(h2:p≤2)(hi:items.size=4)(hx:items[p.toNat]? =some x)(hy:items[(p+1).toNat]? =some y):slicePick items (some p) (some (p+2)) none= #[x,y]:=by
 obtain⟨l⟩:=items
 match l,hi with
 |[a,b,c,d],_=>
  obtain rfl|rfl|rfl:p=0∨p=1∨p=2:=by exact Fx h0 h2
  ·have e1:a=x:=by simpa using hx
   have e2:b=y:=by simpa using hy
   subst e1 e2;rfl
  ·have e1:b=x:=by simpa using hx
   have e2:c=y:=by simpa using hy
   subst e1 e2;rfl
  ·have e1:c=x:=by simpa using hx
   have e2:d=y:=by simpa using hy
   subst e1 e2;rfl
theorem o5(x:W2)(A:Around)(hh:A.handled=none)(R:Result→Shared→Prop)(F it eW:Addr)(l0 l1:Value)(N t:Nat)(h:Heap)(gl d os)(rest:ae)
 (Rp:Rep x.B N h ((it,⟨.type "list_iterator",none,.fields #[.ref eW,.int 2 0],#[]⟩)::(eW,an #[l0,l1] 0)::rest) 0)
 (K:∀h' N' t',Rep x.B N' h' rest 0→R (.ok .next) ⟨h',gl,d,t',os⟩):
 codeAny (MB x.B) A (ai (ah x.B 277 1) (.ref it) (envOf (fdOf x.B 277) 277 F)) R ⟨h,gl,d,t,os⟩:=by
 refine aX hh Rp [] 28 (dA 0x60861c6186046) (dM 4) (.ok .next) [] [.d,.d] 2 0 ?_
 intro bT h1 N1 t1 Rp
 exact K _ _ _ Rp
theorem ko(x:W2)(A:Around)(hh:A.handled=none)(hA:A.depth<440)(R:Result→Shared→Prop)(p cnt kx ky S T cc on xV xU:Int)(iK:0≤p)(hp:p≤2)(eP:cnt%2=0)(hS:bg S)(hT:bg T)
 (kN:0≤kx) (rS:kx<2^20) (kM:0≤ky) (rR:ky<2^20) (Ci:cnt*(kx-ky)=cc) (uB:-(2^58)<cc) (uA:cc<2^58) (uh:cc.fmod 1048576=on) (uq:(kx+on)%2^20=xV) (un:(ky+on)%2^20=xU)
 (items:Array Value) (ax ay el:Addr) (hi:items.size=4) (hx:items[p.toNat]? =some (.ref ax)) (hy:items[(p+1).toNat]? =some (.ref ay)) (n0:Nat)
 (rx gx bx ry gy bY:Value) (Cg:b7 kx S rx gx bx) (Cf:b7 ky T ry gy bY)
 (tb tc:Nat) (N t:Nat) (h:Heap) (gl d os) (rest:ae) (Rp:Rep x.B N h ((el,an items n0)::(ax,cq rx gx bx)::(ay,cq ry gy bY)::rest) 0)
 (K:∀h' N' t' ax ay rx gx bx ry gy bY,b7 xV S rx gx bx→b7 xU T ry gy bY→Rep x.B N' h' ((ay,cq ry gy bY)::(ax,cq rx gx bx)::(el,an ((items.setIfInBounds (p+0).toNat (.ref ax)).setIfInBounds (p+1).toNat (.ref ay)) n0)::rest) 0→R (.ok (.ret (.ref el))) ⟨h',gl,d,t',os⟩)
 :codeAny (MB x.B) A (.call (.ref 277) ⟨[.ref el,.int p tb,.int cnt tc],[]⟩) R ⟨h,gl,d,t,os⟩:=by
 have kL:0≤on:=by rw[←uh,Int.fmod_eq_emod_of_nonneg _ (by decide)];exact C3
 have kK:on<2^20:=by rw[←uh,Int.fmod_eq_emod_of_nonneg _ (by decide)];exact C2
 refine bE hh Rp (by exact C1 hA) 26 (dA 0x86086086041) (am (fdOf x.B 277)) (envOf (fdOf x.B 277) 277 (N+0)) [(N+0,oF #[En x.B bi (t+0) (.ref el),En x.B aA (t+1) (.int (p) tb),En x.B bl (t+2) (.int (cnt) tc)] 3)] 1 3 (by rfl') ?_
 intro bT h1 N1 t1 Rp
 refine bS 2 ?_
 refine aa hh Rp [] 94 (dA 0x38e38130c3083083060861c61860460861c61860460861c6186046186046186) (dM 225) (cB "list.__getitem__" [.ref el,.ref (N1+6)]) [(N1+6,oI "slice" #[.int (p) tb,.int (p+2) (t1+3),.none]),(N1+1,oL #[] 0),(N1+0,oL #[] 0)] [.u (dU [] [En x.B dw (t1+0) (.ref (N1+1)),En x.B dF (t1+1) (.ref (N1+0))] 5)] 7 4 ?_
 intro bW h2 N2 t2 Rp dK
 refine iW Rp 4 0 rfl rfl (.int _ _) (.int _ _) .none (by simp) (by exact C0 hi) (pe iK hp hi hx hy) fun B9 y8 eW Rp=>?_
 refine aa hh Rp [] 22 (dA 0x6181186) (dM 3) (ai (ah x.B 277 1) (.ref (y8+0)) (envOf (fdOf x.B 277) 277 (N+0))) [(y8+0,oI "list_iterator" #[.ref eW,.int 0 0])] [.k,.d] 1 0 ?_
 intro cC h3 N3 t3 Rp eD
 refine Ar x (A.under _) hh (by show A.depth+1<800;exact zm hA) _ p cnt kx S eP hS kN rS items ax ay el eW _ _ _ (N+0) n0 rx gx bx ry gy bY Cg _ _ _ _ _ tb tc _ _ _ _ _ _ rest Rp fun ha Na ta k5 k6 k7 vr vg vb k8 v8 k9 v9 bB ly u2 u3 Rp=>?_
 refine Ap x (A.under _) hh (by show A.depth+1<800;exact zm hA) _ p cnt ky T kx u2 _ eP hT kM rR items ax ay el eW _ _ _ (N+0) n0 rx gx bx ry gy bY Cf _ _ _ _ _ tb tc vr vg vb v8 v9 ly _ _ _ _ _ _ _ _ _ _ _ _ rest Rp fun hb Nb tb' k5 k6 k7 vr vg vb k8 v8 k9 v9 bB ly u2' wo Rp=>?_
 refine o5 x (A.under _) hh _ (N+0) _ eW _ _ _ _ _ _ _ _ _ Rp fun hc Nc CL Rp=>?_
 refine ab hh Rp [] 11 (dA 0x0) [] Flow.next [] [.k,.k,.k,.k,.d,.d] 0 0 ?_
 intro db h4 N4 t4 Rp
 refine bS 1 ?_
 refine aa hh Rp [aI "int.__mul__" [.int (cnt) tc,.int (kx-ky) (t4+2)] (cc),aI "int.__pow__" [.int 2 (t4+4),.int 20 (t4+5)] (1048576)] 53 (dA 0x430811c70471c72071c11c71c8201) [] (cR 80 [.int (cc) (t4+3),.int 1048576 (t4+6)]) [] [] 0 7 ?_ (aC (cj (.inr (intBits_le_64 (by exact CZ kN rR) (by exact CY rS kM))) (by exact CX Ci)) (aC (aS (by decide) (by decide) (by decide) (by decide)) aN))
 intro dv h5 N5 t5 Rp mU
 refine gu x (A.under _) hh (by show A.depth+1<470;exact CW hA) _ cc 1048576 _ on uB uA (by decide) (by decide) rfl uh _ _ _ _ _ _ _ _ _ Rp fun qb o0 gi ad ud vd Rp=>?_
 refine ab hh Rp [] 31 (dA 0x5241186046186) [] Flow.next [] [.d,.k,.k,.u (dU [] [En x.B xS (gi+1) (.int (on) vd)] 12)] 0 2 ?_
 intro eN h6 N6 t6 Rp
 refine bS 1 ?_
 refine aa hh Rp [] 26 (dA 0x6181186) (dM 7) (ai (ah x.B 277 3) (.ref (N6+1)) (envOf (fdOf x.B 277) 277 (N+0))) [(N6+1,oI "tuple_iterator" #[.ref (N6+0),.int 0 0]),(N6+0,oT #[.int 0 (t6+0),.int 1 (t6+1)])] [] 2 2 ?_
 intro ie h7 N7 t7 Rp sT
 refine af ?_
 refine aa hh Rp [aI "int.__mod__" [.int (0+cnt) (t7+1),.int 2 (t7+2)] (0),aI "int.__pow__" [.int 2 (t7+6),.int 20 (t7+7)] (1048576),aF "int.__truediv__" [.int (kx+on) (t7+5),.int 1048576 (t7+8)] (16*(kx+on))] 94 (dA 0x4a10304a24904924928a04628820120820204a28a18a0861c6186046) [] (cR 101 [.float (fl (16*(kx+on))) (t7+9),.float (fl S) u3,.int 1 (t7+10)]) [] [.u fun _=>oI "tuple_iterator" #[.ref (N6+0),.int 1 0],.k,.k,.k,.u (dU [(9,.float (fl S) u3)] [En x.B sR (t7+0) (.int 0 (t6+0))] 13)] 0 11 ?_ (aC (aG (by decide) (by rw[Int.fmod_eq_emod_of_nonneg _ (by decide)];omega)) (aC (aS (by decide) (by decide) (by decide) (by decide)) (aC (df (by decide) (by exact zl kN rS kL kK) (by exact zk)) aN)))
 intro iG h8 N8 t8 Rp tS
 refine p4 x ((A.under _).under _) hh (by show A.depth+1+0<900;exact zj hA) _ (kx+on) _ S (by exact zi kN kL) (by exact zh rS kK) uq hS _ _ _ _ _ _ _ _ _ _ Rp fun hd2 Nd2 AD ax r1 g1 b1 gw Rp=>?_
 refine aa hh Rp [] 26 (dA 0x30c04b2cb) [] (cB "list.__setitem__" [.ref el,.int (p+0) (AD+0),.ref ax]) [] [] 0 1 ?_
 intro iM h9 N9 t9 Rp sS
 refine ja Rp 6 rfl (by exact CV iK) (by exact CU hp) (by exact CT hp hi) rfl fun B9 Rp=>?_
 try dsimp only[bm] at Rp
 refine ab hh Rp [] 12 (dA 0x0) [] (Fin.again (ai (ah x.B 277 3) (.ref (N6+1)) (envOf (fdOf x.B 277) 277 (N+0)))) [] [] 0 0 ?_
 intro iN lX mo fh Rp
 refine⟨rfl,af ?_⟩
 refine aa hh Rp [aI "int.__mod__" [.int (1+cnt) (fh+1),.int 2 (fh+2)] (1),aI "int.__pow__" [.int 2 (fh+6),.int 20 (fh+7)] (1048576),aF "int.__truediv__" [.int (ky+on) (fh+5),.int 1048576 (fh+8)] (16*(ky+on))] 94 (dA 0x4b10304b28a04a28a2cb0472c924124924204b2cb1cb0c72071c7047) [] (cR 101 [.float (fl (16*(ky+on))) (fh+9),.float (fl T) wo,.int 1 (fh+10)]) [] [.k,.u fun _=>oI "tuple_iterator" #[.ref (N6+0),.int 2 0],.k,.k,.k,.u (dU [(9,.float (fl T) wo),(12,.int 1 (t6+1))] [] 13)] 0 11 ?_ (aC (aG (by decide) (by rw[Int.fmod_eq_emod_of_nonneg _ (by decide)];omega)) (aC (aS (by decide) (by decide) (by decide) (by decide)) (aC (df (by decide) (by exact zl kM rR kL kK) (by exact zk)) aN)))
 intro la m7 lc lC Rp oi
 refine p4 x ((A.under _).under _) hh (by show A.depth+1+0<900;exact zj hA) _ (ky+on) _ T (by exact zi kM kL) (by exact zh rR kK) un hT _ _ _ _ _ _ _ _ _ _ Rp fun hd3 Nd3 AC ay r2 g2 b2 qZ Rp=>?_
 refine aa hh Rp [] 26 (dA 0x34d04c30c) [] (cB "list.__setitem__" [.ref el,.int (p+1) (AC+0),.ref ay]) [] [] 0 1 ?_
 intro mi q9 re lB Rp tT
 refine ja Rp 7 rfl (by exact zs iK) (by exact CS hp) (by simp;exact Dt hp hi) rfl fun hs2 Rp=>?_
 try dsimp only[bm] at Rp
 refine ab hh Rp [] 12 (dA 0x0) [] (Fin.again (ai (ah x.B 277 3) (.ref (N6+1)) (envOf (fdOf x.B 277) 277 (N+0)))) [] [] 0 0 ?_
 intro qJ q8 rd sE Rp
 refine⟨rfl,af ?_⟩
 refine ab hh Rp [] 27 (dA 0x6108248208048) (dM 4) (Fin.again (.block [] (envOf (fdOf x.B 277) 277 (N+0)))) [] [.k,.k,.u fun _=>oI "tuple_iterator" #[.none,.int 2 0]] 2 0 ?_
 intro sy yo zb wB Rp
 refine⟨rfl,af ?_⟩
 refine ab hh Rp [] 11 (dA 0x0) [] (Fin.done Flow.next) [] [] 0 0 ?_
 intro yX wf wh ze Rp
 show wpAny ..
 refine ab hh Rp [] 11 (dA 0x0) [] Flow.next [] [] 0 0 ?_
 intro sx Ab Ai zd Rp
 show wpAny _ _ (aj ..) ..
 refine ab hh Rp [] 14 (dA 0xc) [] (Flow.ret (.ref el)) [] [.k,.k,.d,.d,.d,.d,.d] 0 0 ?_
 intro sw Aa Ah zc Rp
 exact K _ _ _ _ _ _ _ _ _ _ _ gw qZ Rp
theorem kn(x:W2)(A:Around)(hh:A.handled=none)(hA:A.depth<440)(R:Result→Shared→Prop)(p cnt kx ky S T cc on xV xU:Int)(iK:0≤p)(hp:p≤2)(eP:cnt%2=1)(hS:bg S)(hT:bg T)
 (kN:0≤kx) (rS:kx<2^20) (kM:0≤ky) (rR:ky<2^20) (Ci:cnt*(kx-ky)=cc) (uB:-(2^58)<cc) (uA:cc<2^58) (uh:cc.fmod 1048576=on) (uq:(kx+on)%2^20=xV) (un:(ky+on)%2^20=xU)
 (items:Array Value) (ax ay el:Addr) (hi:items.size=4) (hx:items[p.toNat]? =some (.ref ax)) (hy:items[(p+1).toNat]? =some (.ref ay)) (n0:Nat)
 (rx gx bx ry gy bY:Value) (Cg:b7 kx S rx gx bx) (Cf:b7 ky T ry gy bY)
 (tb tc:Nat) (N t:Nat) (h:Heap) (gl d os) (rest:ae) (Rp:Rep x.B N h ((el,an items n0)::(ax,cq rx gx bx)::(ay,cq ry gy bY)::rest) 0)
 (K:∀h' N' t' ax ay rx gx bx ry gy bY,b7 xV T rx gx bx→b7 xU S ry gy bY→Rep x.B N' h' ((ay,cq ry gy bY)::(ax,cq rx gx bx)::(el,an ((items.setIfInBounds (p+0).toNat (.ref ax)).setIfInBounds (p+1).toNat (.ref ay)) n0)::rest) 0→R (.ok (.ret (.ref el))) ⟨h',gl,d,t',os⟩)
 :codeAny (MB x.B) A (.call (.ref 277) ⟨[.ref el,.int p tb,.int cnt tc],[]⟩) R ⟨h,gl,d,t,os⟩:=by
 have kL:0≤on:=by rw[←uh,Int.fmod_eq_emod_of_nonneg _ (by decide)];exact C3
 have kK:on<2^20:=by rw[←uh,Int.fmod_eq_emod_of_nonneg _ (by decide)];exact C2
 refine bE hh Rp (by exact C1 hA) 26 (dA 0x86086086041) (am (fdOf x.B 277)) (envOf (fdOf x.B 277) 277 (N+0)) [(N+0,oF #[En x.B bi (t+0) (.ref el),En x.B aA (t+1) (.int (p) tb),En x.B bl (t+2) (.int (cnt) tc)] 3)] 1 3 (by rfl') ?_
 intro bT h1 N1 t1 Rp
 refine bS 2 ?_
 refine aa hh Rp [] 94 (dA 0x38e38130c3083083060861c61860460861c61860460861c6186046186046186) (dM 225) (cB "list.__getitem__" [.ref el,.ref (N1+6)]) [(N1+6,oI "slice" #[.int (p) tb,.int (p+2) (t1+3),.none]),(N1+1,oL #[] 0),(N1+0,oL #[] 0)] [.u (dU [] [En x.B dw (t1+0) (.ref (N1+1)),En x.B dF (t1+1) (.ref (N1+0))] 5)] 7 4 ?_
 intro bW h2 N2 t2 Rp dK
 refine iW Rp 4 0 rfl rfl (.int _ _) (.int _ _) .none (by simp) (by exact C0 hi) (pe iK hp hi hx hy) fun B9 y8 eW Rp=>?_
 refine aa hh Rp [] 22 (dA 0x6181186) (dM 3) (ai (ah x.B 277 1) (.ref (y8+0)) (envOf (fdOf x.B 277) 277 (N+0))) [(y8+0,oI "list_iterator" #[.ref eW,.int 0 0])] [.k,.d] 1 0 ?_
 intro cC h3 N3 t3 Rp eD
 refine Aq x (A.under _) hh (by show A.depth+1<800;exact zm hA) _ p cnt kx S eP hS kN rS items ax ay el eW _ _ _ (N+0) n0 rx gx bx ry gy bY Cg _ _ _ _ _ tb tc _ _ _ _ _ _ rest Rp fun ha Na ta k5 k6 k7 vr vg vb k8 v8 k9 v9 bB ly u2 u3 Rp=>?_
 refine Ao x (A.under _) hh (by show A.depth+1<800;exact zm hA) _ p cnt ky T kx u2 _ eP hT kM rR items ax ay el eW _ _ _ (N+0) n0 rx gx bx ry gy bY Cf _ _ _ _ _ tb tc vr vg vb v8 v9 ly _ _ _ _ _ _ _ _ _ _ _ _ rest Rp fun hb Nb tb' k5 k6 k7 vr vg vb k8 v8 k9 v9 bB ly u2' wo Rp=>?_
 refine o5 x (A.under _) hh _ (N+0) _ eW _ _ _ _ _ _ _ _ _ Rp fun hc Nc CL Rp=>?_
 refine ab hh Rp [] 11 (dA 0x0) [] Flow.next [] [.k,.k,.k,.k,.d,.d] 0 0 ?_
 intro db h4 N4 t4 Rp
 refine bS 1 ?_
 refine aa hh Rp [aI "int.__mul__" [.int (cnt) tc,.int (kx-ky) (t4+2)] (cc),aI "int.__pow__" [.int 2 (t4+4),.int 20 (t4+5)] (1048576)] 53 (dA 0x430811c70471c72071c11c71c8201) [] (cR 80 [.int (cc) (t4+3),.int 1048576 (t4+6)]) [] [] 0 7 ?_ (aC (cj (.inr (intBits_le_64 (by exact CZ kN rR) (by exact CY rS kM))) (by exact CX Ci)) (aC (aS (by decide) (by decide) (by decide) (by decide)) aN))
 intro dv h5 N5 t5 Rp mU
 refine gu x (A.under _) hh (by show A.depth+1<470;exact CW hA) _ cc 1048576 _ on uB uA (by decide) (by decide) rfl uh _ _ _ _ _ _ _ _ _ Rp fun qb o0 gi ad ud vd Rp=>?_
 refine ab hh Rp [] 31 (dA 0x5241186046186) [] Flow.next [] [.d,.k,.k,.u (dU [] [En x.B xS (gi+1) (.int (on) vd)] 12)] 0 2 ?_
 intro eN h6 N6 t6 Rp
 refine bS 1 ?_
 refine aa hh Rp [] 26 (dA 0x6181186) (dM 7) (ai (ah x.B 277 3) (.ref (N6+1)) (envOf (fdOf x.B 277) 277 (N+0))) [(N6+1,oI "tuple_iterator" #[.ref (N6+0),.int 0 0]),(N6+0,oT #[.int 0 (t6+0),.int 1 (t6+1)])] [] 2 2 ?_
 intro ie h7 N7 t7 Rp sT
 refine af ?_
 refine aa hh Rp [aI "int.__mod__" [.int (0+cnt) (t7+1),.int 2 (t7+2)] (1),aI "int.__pow__" [.int 2 (t7+6),.int 20 (t7+7)] (1048576),aF "int.__truediv__" [.int (kx+on) (t7+5),.int 1048576 (t7+8)] (16*(kx+on))] 94 (dA 0x4a10304a24904924928a04628820120820204a28a18a0861c6186046) [] (cR 101 [.float (fl (16*(kx+on))) (t7+9),.float (fl T) wo,.int 1 (t7+10)]) [] [.u fun _=>oI "tuple_iterator" #[.ref (N6+0),.int 1 0],.k,.k,.k,.u (dU [(10,.float (fl T) wo)] [En x.B sR (t7+0) (.int 0 (t6+0))] 13)] 0 11 ?_ (aC (aG (by decide) (by rw[Int.fmod_eq_emod_of_nonneg _ (by decide)];omega)) (aC (aS (by decide) (by decide) (by decide) (by decide)) (aC (df (by decide) (by exact zl kN rS kL kK) (by exact zk)) aN)))
 intro iG h8 N8 t8 Rp tS
 refine p4 x ((A.under _).under _) hh (by show A.depth+1+0<900;exact zj hA) _ (kx+on) _ T (by exact zi kN kL) (by exact zh rS kK) uq hT _ _ _ _ _ _ _ _ _ _ Rp fun hd2 Nd2 AD ax r1 g1 b1 gw Rp=>?_
 refine aa hh Rp [] 26 (dA 0x30c04b2cb) [] (cB "list.__setitem__" [.ref el,.int (p+0) (AD+0),.ref ax]) [] [] 0 1 ?_
 intro iM h9 N9 t9 Rp sS
 refine ja Rp 6 rfl (by exact CV iK) (by exact CU hp) (by exact CT hp hi) rfl fun B9 Rp=>?_
 try dsimp only[bm] at Rp
 refine ab hh Rp [] 12 (dA 0x0) [] (Fin.again (ai (ah x.B 277 3) (.ref (N6+1)) (envOf (fdOf x.B 277) 277 (N+0)))) [] [] 0 0 ?_
 intro iN lX mo fh Rp
 refine⟨rfl,af ?_⟩
 refine aa hh Rp [aI "int.__mod__" [.int (1+cnt) (fh+1),.int 2 (fh+2)] (0),aI "int.__pow__" [.int 2 (fh+6),.int 20 (fh+7)] (1048576),aF "int.__truediv__" [.int (ky+on) (fh+5),.int 1048576 (fh+8)] (16*(ky+on))] 94 (dA 0x4b10304b28a04a28a2cb0472c924124924204b2cb1cb0c72071c7047) [] (cR 101 [.float (fl (16*(ky+on))) (fh+9),.float (fl S) u3,.int 1 (fh+10)]) [] [.k,.u fun _=>oI "tuple_iterator" #[.ref (N6+0),.int 2 0],.k,.k,.k,.u (dU [(10,.float (fl S) u3),(12,.int 1 (t6+1))] [] 13)] 0 11 ?_ (aC (aG (by decide) (by rw[Int.fmod_eq_emod_of_nonneg _ (by decide)];omega)) (aC (aS (by decide) (by decide) (by decide) (by decide)) (aC (df (by decide) (by exact zl kM rR kL kK) (by exact zk)) aN)))
 intro la m7 lc lC Rp oi
 refine p4 x ((A.under _).under _) hh (by show A.depth+1+0<900;exact zj hA) _ (ky+on) _ S (by exact zi kM kL) (by exact zh rR kK) un hS _ _ _ _ _ _ _ _ _ _ Rp fun hd3 Nd3 AC ay r2 g2 b2 qZ Rp=>?_
 refine aa hh Rp [] 26 (dA 0x34d04c30c) [] (cB "list.__setitem__" [.ref el,.int (p+1) (AC+0),.ref ay]) [] [] 0 1 ?_
 intro mi q9 re lB Rp tT
 refine ja Rp 7 rfl (by exact zs iK) (by exact CS hp) (by simp;exact Dt hp hi) rfl fun hs2 Rp=>?_
 try dsimp only[bm] at Rp
 refine ab hh Rp [] 12 (dA 0x0) [] (Fin.again (ai (ah x.B 277 3) (.ref (N6+1)) (envOf (fdOf x.B 277) 277 (N+0)))) [] [] 0 0 ?_
 intro qJ q8 rd sE Rp
 refine⟨rfl,af ?_⟩
 refine ab hh Rp [] 27 (dA 0x6108248208048) (dM 4) (Fin.again (.block [] (envOf (fdOf x.B 277) 277 (N+0)))) [] [.k,.k,.u fun _=>oI "tuple_iterator" #[.none,.int 2 0]] 2 0 ?_
 intro sy yo zb wB Rp
 refine⟨rfl,af ?_⟩
 refine ab hh Rp [] 11 (dA 0x0) [] (Fin.done Flow.next) [] [] 0 0 ?_
 intro yX wf wh ze Rp
 show wpAny ..
 refine ab hh Rp [] 11 (dA 0x0) [] Flow.next [] [] 0 0 ?_
 intro sx Ab Ai zd Rp
 show wpAny _ _ (aj ..) ..
 refine ab hh Rp [] 14 (dA 0xc) [] (Flow.ret (.ref el)) [] [.k,.k,.d,.d,.d,.d,.d] 0 0 ?_
 intro sw Aa Ah zc Rp
 exact K _ _ _ _ _ _ _ _ _ _ _ gw qZ Rp
noncomputable def fM(x:W2):Expr:=me (ah x.B 282 0)
noncomputable def dS(x:W2)(F C:Addr):Env:=fc (envOf (fdOf x.B 282) 282 F) (fM x) C []
theorem Hv(x:W2)(A:Around)(hh:A.handled=none)(hA:A.depth<800)(R:Result→Shared→Prop)(k S:Int)(hS:bg S)(aO:0≤k)(hk:k<2^20)(items vs:Array Value)(lS:vs.size<60)(n0 nv j:Nat)
 (a C cD it F el:Addr) (fo:Obj) (r g b:Value) (hc:b7 k S r g b) (hj:items[j]? =some (.ref a))
 (N t:Nat) (h:Heap) (gl d os) (rest:ae)
 (Rp:Rep x.B N h ((C,⟨.type "dict",none,.dict #[] 0,#[]⟩)::(cD,an vs nv)::(it,aD el (j:Int))::(F,fo)::(el,an items n0)::(a,cq r g b)::rest) 0)
 (K:∀h' N' t' q1 q2 q3 v1 v2 v3 u,Rep x.B N' h' ((C,⟨.type "dict",none,.dict #[En x.B c9 q1 v1,En x.B bJ q2 v2,En x.B ch q3 v3] 3,#[]⟩)::(cD,an (vs.push (.int k u)) (nv+1))::(it,aD el ((j+1:Nat):Int))::(F,fo)::(el,an items n0)::(a,cq r g b)::rest) 0→codeAny (MB x.B) A (.compLoop (fM x) 0 (.ref it) (.ref cD) (dS x F C)) R ⟨h',gl,d,t',os⟩):
 codeAny (MB x.B) A (.compLoop (fM x) 0 (.ref it) (.ref cD) (dS x F C)) R ⟨h,gl,d,t,os⟩:=by
 have qa:16*k*2^20/2^24=k:=by exact fV
 rcases hc.shape with⟨i,ti,fx,ux,fy,uy,rfl,rfl,rfl⟩|⟨i,ti,fx,ux,fy,uy,rfl,rfl,rfl⟩|⟨i,ti,fx,ux,fy,uy,rfl,rfl,rfl⟩
 ·refine af ?_
  refine aa hh Rp [] 13 (dA 0x8) [] (cB "list_iterator.__next__" [.ref it]) [] [] 0 0 ?_
  intro bT h1 N1 t1 Rp eE
  refine b6 Rp 2 4 rfl rfl hj rfl fun gH Rp=>?_
  try dsimp only[bm] at Rp
  refine aa hh Rp [] 102 (dA 0x124924104114914914918218c18618118218c18618118218c18618118218c1861811862c12cb2c8) (dM 8) (cR 94 [.int (i) ti,.float (fx) ux,.float (fy) uy]) [] [.u fun _=>oD #[En x.B c9 (t1+0) (.int (i) ti),En x.B bJ (t1+1) (.float (fx) ux),En x.B ch (t1+2) (.float (fy) uy)] 3] 3 3 ?_
  intro bW h2 N2 t2 Rp dK
  refine ct x (A.under _) hh (by show A.depth+0<900;exact fB hA) _ k S aO hk hS _ _ _ hc _ _ _ _ _ _ _ Rp fun gw jn ap ac uc vc wc hw Rp=>?_
  refine aa hh Rp [aI "int.__pow__" [.int 2 (ap+1),.int 20 (ap+2)] (1048576),aF "float.__mul__" [.float (fl (16*k)) uc,.int 1048576 (ap+3)] (16*k*2^20),aI "float.__int__" [.float (fl (16*k*2^20)) (ap+4)] (k)] 43 (dA 0x1101043081186046186) [] (cB "list.append" [.ref cD,.int (k) (ap+5)]) [] [.d] 0 6 ?_ (aC (aS (by decide) (by decide) (by decide) (by decide)) (aC (aP rfl (by exact gV aO hk) (by unfold ag;decide) (by exact dO aO hk) (by exact gF aO) (by decide) (by exact gU)) (aC (aV rfl (by exact dO aO hk) (by exact gT aO) (by exact fV)) aN)))
  intro cC h3 N3 t3 Rp eD
  refine bn Rp 1 rfl (by exact jt lS) rfl fun jw Rp=>?_
  try dsimp only[bm] at Rp
  refine ab hh Rp [] 11 (dA 0x0) [] (Fin.again (.compLoop (fM x) 0 (.ref it) (.ref cD) (dS x F C))) [] [] 0 0 ?_
  intro db h4 N4 t4 Rp
  exact⟨rfl,K _ _ _ _ _ _ _ _ _ _ Rp⟩
 ·refine af ?_
  refine aa hh Rp [] 13 (dA 0x8) [] (cB "list_iterator.__next__" [.ref it]) [] [] 0 0 ?_
  intro bT h1 N1 t1 Rp eE
  refine b6 Rp 2 4 rfl rfl hj rfl fun gH Rp=>?_
  try dsimp only[bm] at Rp
  refine aa hh Rp [] 102 (dA 0x124924104114914914918218c18618118218c18618118218c18618118218c1861811862c12cb2c8) (dM 8) (cR 94 [.float (fx) ux,.int (i) ti,.float (fy) uy]) [] [.u fun _=>oD #[En x.B c9 (t1+0) (.float (fx) ux),En x.B bJ (t1+1) (.int (i) ti),En x.B ch (t1+2) (.float (fy) uy)] 3] 3 3 ?_
  intro bW h2 N2 t2 Rp dK
  refine ct x (A.under _) hh (by show A.depth+0<900;exact fB hA) _ k S aO hk hS _ _ _ hc _ _ _ _ _ _ _ Rp fun gw jn ap ac uc vc wc hw Rp=>?_
  refine aa hh Rp [aI "int.__pow__" [.int 2 (ap+1),.int 20 (ap+2)] (1048576),aF "float.__mul__" [.float (fl (16*k)) uc,.int 1048576 (ap+3)] (16*k*2^20),aI "float.__int__" [.float (fl (16*k*2^20)) (ap+4)] (k)] 43 (dA 0x1101043081186046186) [] (cB "list.append" [.ref cD,.int (k) (ap+5)]) [] [.d] 0 6 ?_ (aC (aS (by decide) (by decide) (by decide) (by decide)) (aC (aP rfl (by exact gV aO hk) (by unfold ag;decide) (by exact dO aO hk) (by exact gF aO) (by decide) (by exact gU)) (aC (aV rfl (by exact dO aO hk) (by exact gT aO) (by exact fV)) aN)))
  intro cC h3 N3 t3 Rp eD
  refine bn Rp 1 rfl (by exact jt lS) rfl fun jw Rp=>?_
  try dsimp only[bm] at Rp
  refine ab hh Rp [] 11 (dA 0x0) [] (Fin.again (.compLoop (fM x) 0 (.ref it) (.ref cD) (dS x F C))) [] [] 0 0 ?_
  intro db h4 N4 t4 Rp
  exact⟨rfl,K _ _ _ _ _ _ _ _ _ _ Rp⟩
 ·refine af ?_
  refine aa hh Rp [] 13 (dA 0x8) [] (cB "list_iterator.__next__" [.ref it]) [] [] 0 0 ?_
  intro bT h1 N1 t1 Rp eE
  refine b6 Rp 2 4 rfl rfl hj rfl fun gH Rp=>?_
  try dsimp only[bm] at Rp
  refine aa hh Rp [] 102 (dA 0x124924104114914914918218c18618118218c18618118218c18618118218c1861811862c12cb2c8) (dM 8) (cR 94 [.float (fx) ux,.float (fy) uy,.int (i) ti]) [] [.u fun _=>oD #[En x.B c9 (t1+0) (.float (fx) ux),En x.B bJ (t1+1) (.float (fy) uy),En x.B ch (t1+2) (.int (i) ti)] 3] 3 3 ?_
  intro bW h2 N2 t2 Rp dK
  refine ct x (A.under _) hh (by show A.depth+0<900;exact fB hA) _ k S aO hk hS _ _ _ hc _ _ _ _ _ _ _ Rp fun gw jn ap ac uc vc wc hw Rp=>?_
  refine aa hh Rp [aI "int.__pow__" [.int 2 (ap+1),.int 20 (ap+2)] (1048576),aF "float.__mul__" [.float (fl (16*k)) uc,.int 1048576 (ap+3)] (16*k*2^20),aI "float.__int__" [.float (fl (16*k*2^20)) (ap+4)] (k)] 43 (dA 0x1101043081186046186) [] (cB "list.append" [.ref cD,.int (k) (ap+5)]) [] [.d] 0 6 ?_ (aC (aS (by decide) (by decide) (by decide) (by decide)) (aC (aP rfl (by exact gV aO hk) (by unfold ag;decide) (by exact dO aO hk) (by exact gF aO) (by decide) (by exact gU)) (aC (aV rfl (by exact dO aO hk) (by exact gT aO) (by exact fV)) aN)))
  intro cC h3 N3 t3 Rp eD
  refine bn Rp 1 rfl (by exact jt lS) rfl fun jw Rp=>?_
  try dsimp only[bm] at Rp
  refine ab hh Rp [] 11 (dA 0x0) [] (Fin.again (.compLoop (fM x) 0 (.ref it) (.ref cD) (dS x F C))) [] [] 0 0 ?_
  intro db h4 N4 t4 Rp
  exact⟨rfl,K _ _ _ _ _ _ _ _ _ _ Rp⟩
theorem BE(x:W2)(A:Around)(hh:A.handled=none)(hA:A.depth<800)(R:Result→Shared→Prop)(k S:Int)(hS:bg S)(aO:0≤k)(hk:k<2^20)(items vs:Array Value)(lS:vs.size<60)(n0 nv j:Nat)
 (a C cD it F el:Addr) (fo:Obj) (r g b:Value) (hc:b7 k S r g b) (hj:items[j]? =some (.ref a)) (q1 q2 q3:Nat) (v1 v2 v3:Value)
 (N t:Nat) (h:Heap) (gl d os) (rest:ae)
 (Rp:Rep x.B N h ((C,⟨.type "dict",none,.dict #[En x.B c9 q1 v1,En x.B bJ q2 v2,En x.B ch q3 v3] 3,#[]⟩)::(cD,an vs nv)::(it,aD el (j:Int))::(F,fo)::(el,an items n0)::(a,cq r g b)::rest) 0)
 (K:∀h' N' t' q1 q2 q3 v1 v2 v3 u,Rep x.B N' h' ((C,⟨.type "dict",none,.dict #[En x.B c9 q1 v1,En x.B bJ q2 v2,En x.B ch q3 v3] 3,#[]⟩)::(cD,an (vs.push (.int k u)) (nv+1))::(it,aD el ((j+1:Nat):Int))::(F,fo)::(el,an items n0)::(a,cq r g b)::rest) 0→codeAny (MB x.B) A (.compLoop (fM x) 0 (.ref it) (.ref cD) (dS x F C)) R ⟨h',gl,d,t',os⟩):
 codeAny (MB x.B) A (.compLoop (fM x) 0 (.ref it) (.ref cD) (dS x F C)) R ⟨h,gl,d,t,os⟩:=by
 have qa:16*k*2^20/2^24=k:=by exact fV
 rcases hc.shape with⟨i,ti,fx,ux,fy,uy,rfl,rfl,rfl⟩|⟨i,ti,fx,ux,fy,uy,rfl,rfl,rfl⟩|⟨i,ti,fx,ux,fy,uy,rfl,rfl,rfl⟩
 ·refine af ?_
  refine aa hh Rp [] 13 (dA 0x8) [] (cB "list_iterator.__next__" [.ref it]) [] [] 0 0 ?_
  intro bT h1 N1 t1 Rp eE
  refine b6 Rp 2 4 rfl rfl hj rfl fun gH Rp=>?_
  try dsimp only[bm] at Rp
  refine aa hh Rp [] 102 (dA 0x124924104114914914918218c18618118218c18618118218c18618118218c1861811862c12cb2c8) (dM 8) (cR 94 [.int (i) ti,.float (fx) ux,.float (fy) uy]) [] [.u (dU [(0,.int (i) ti),(1,.float (fx) ux),(2,.float (fy) uy)] [] 3)] 3 3 ?_
  intro bW h2 N2 t2 Rp dK
  refine ct x (A.under _) hh (by show A.depth+0<900;exact fB hA) _ k S aO hk hS _ _ _ hc _ _ _ _ _ _ _ Rp fun gw jn ap ac uc vc wc hw Rp=>?_
  refine aa hh Rp [aI "int.__pow__" [.int 2 (ap+1),.int 20 (ap+2)] (1048576),aF "float.__mul__" [.float (fl (16*k)) uc,.int 1048576 (ap+3)] (16*k*2^20),aI "float.__int__" [.float (fl (16*k*2^20)) (ap+4)] (k)] 43 (dA 0x1101043081186046186) [] (cB "list.append" [.ref cD,.int (k) (ap+5)]) [] [.d] 0 6 ?_ (aC (aS (by decide) (by decide) (by decide) (by decide)) (aC (aP rfl (by exact gV aO hk) (by unfold ag;decide) (by exact dO aO hk) (by exact gF aO) (by decide) (by exact gU)) (aC (aV rfl (by exact dO aO hk) (by exact gT aO) (by exact fV)) aN)))
  intro cC h3 N3 t3 Rp eD
  refine bn Rp 1 rfl (by exact jt lS) rfl fun jw Rp=>?_
  try dsimp only[bm] at Rp
  refine ab hh Rp [] 11 (dA 0x0) [] (Fin.again (.compLoop (fM x) 0 (.ref it) (.ref cD) (dS x F C))) [] [] 0 0 ?_
  intro db h4 N4 t4 Rp
  exact⟨rfl,K _ _ _ _ _ _ _ _ _ _ Rp⟩
 ·refine af ?_
  refine aa hh Rp [] 13 (dA 0x8) [] (cB "list_iterator.__next__" [.ref it]) [] [] 0 0 ?_
  intro bT h1 N1 t1 Rp eE
  refine b6 Rp 2 4 rfl rfl hj rfl fun gH Rp=>?_
  try dsimp only[bm] at Rp
  refine aa hh Rp [] 102 (dA 0x124924104114914914918218c18618118218c18618118218c18618118218c1861811862c12cb2c8) (dM 8) (cR 94 [.float (fx) ux,.int (i) ti,.float (fy) uy]) [] [.u (dU [(0,.float (fx) ux),(1,.int (i) ti),(2,.float (fy) uy)] [] 3)] 3 3 ?_
  intro bW h2 N2 t2 Rp dK
  refine ct x (A.under _) hh (by show A.depth+0<900;exact fB hA) _ k S aO hk hS _ _ _ hc _ _ _ _ _ _ _ Rp fun gw jn ap ac uc vc wc hw Rp=>?_
  refine aa hh Rp [aI "int.__pow__" [.int 2 (ap+1),.int 20 (ap+2)] (1048576),aF "float.__mul__" [.float (fl (16*k)) uc,.int 1048576 (ap+3)] (16*k*2^20),aI "float.__int__" [.float (fl (16*k*2^20)) (ap+4)] (k)] 43 (dA 0x1101043081186046186) [] (cB "list.append" [.ref cD,.int (k) (ap+5)]) [] [.d] 0 6 ?_ (aC (aS (by decide) (by decide) (by decide) (by decide)) (aC (aP rfl (by exact gV aO hk) (by unfold ag;decide) (by exact dO aO hk) (by exact gF aO) (by decide) (by exact gU)) (aC (aV rfl (by exact dO aO hk) (by exact gT aO) (by exact fV)) aN)))
  intro cC h3 N3 t3 Rp eD
  refine bn Rp 1 rfl (by exact jt lS) rfl fun jw Rp=>?_
  try dsimp only[bm] at Rp
  refine ab hh Rp [] 11 (dA 0x0) [] (Fin.again (.compLoop (fM x) 0 (.ref it) (.ref cD) (dS x F C))) [] [] 0 0 ?_
  intro db h4 N4 t4 Rp
  exact⟨rfl,K _ _ _ _ _ _ _ _ _ _ Rp⟩
 ·refine af ?_
  refine aa hh Rp [] 13 (dA 0x8) [] (cB "list_iterator.__next__" [.ref it]) [] [] 0 0 ?_
  intro bT h1 N1 t1 Rp eE
  refine b6 Rp 2 4 rfl rfl hj rfl fun gH Rp=>?_
  try dsimp only[bm] at Rp
  refine aa hh Rp [] 102 (dA 0x124924104114914914918218c18618118218c18618118218c18618118218c1861811862c12cb2c8) (dM 8) (cR 94 [.float (fx) ux,.float (fy) uy,.int (i) ti]) [] [.u (dU [(0,.float (fx) ux),(1,.float (fy) uy),(2,.int (i) ti)] [] 3)] 3 3 ?_
  intro bW h2 N2 t2 Rp dK
  refine ct x (A.under _) hh (by show A.depth+0<900;exact fB hA) _ k S aO hk hS _ _ _ hc _ _ _ _ _ _ _ Rp fun gw jn ap ac uc vc wc hw Rp=>?_
  refine aa hh Rp [aI "int.__pow__" [.int 2 (ap+1),.int 20 (ap+2)] (1048576),aF "float.__mul__" [.float (fl (16*k)) uc,.int 1048576 (ap+3)] (16*k*2^20),aI "float.__int__" [.float (fl (16*k*2^20)) (ap+4)] (k)] 43 (dA 0x1101043081186046186) [] (cB "list.append" [.ref cD,.int (k) (ap+5)]) [] [.d] 0 6 ?_ (aC (aS (by decide) (by decide) (by decide) (by decide)) (aC (aP rfl (by exact gV aO hk) (by unfold ag;decide) (by exact dO aO hk) (by exact gF aO) (by decide) (by exact gU)) (aC (aV rfl (by exact dO aO hk) (by exact gT aO) (by exact fV)) aN)))
  intro cC h3 N3 t3 Rp eD
  refine bn Rp 1 rfl (by exact jt lS) rfl fun jw Rp=>?_
  try dsimp only[bm] at Rp
  refine ab hh Rp [] 11 (dA 0x0) [] (Fin.again (.compLoop (fM x) 0 (.ref it) (.ref cD) (dS x F C))) [] [] 0 0 ?_
  intro db h4 N4 t4 Rp
  exact⟨rfl,K _ _ _ _ _ _ _ _ _ _ Rp⟩
noncomputable def fW(d:Int):Int:=if d%2^20>2^19 then d%2^20-2^20 else d%2^20
theorem Hu(x:W2)(A:Around)(hh:A.handled=none)(hA:A.depth<400)(R:Result→Shared→Prop)(k0 k1 k2 k3 m:Int)(aO:0≤k0)(or:k0<2^20)(jv:0≤k1)(mZ:k1<2^20)(wb:0≤k2)(oq:k2<2^20)(hm:fW (k0-k1)=m)
 (it d5 nl hu F:Addr) (s0 s1 s2 s3 w0 w1 e0 e1 e2 nh:Nat) (ve:Value) (N t:Nat) (h:Heap) (gl d os) (rest:ae)
 (Rp:Rep x.B N h ((it,ki d5 0)::(d5,⟨.type "tuple",none,.seq #[.int 0 w0,.int 1 w1] 0,#[]⟩)::(nl,an #[] 0)::(hu,an #[.int k0 s0,.int k1 s1,.int k2 s2,.int k3 s3] nh)::(F,⟨.type "frame",none,.dict #[En x.B bi e0 ve,En x.B dF e1 (.ref hu),En x.B aM e2 (.ref nl)] 3,#[]⟩)::rest) 0)
 (K:∀h' N' t' P Q e3 e4 e5 e6 u,Rep x.B N' h' ((it,ki d5 1)::(d5,⟨.type "tuple",none,.seq #[.int 0 w0,.int 1 w1] 0,#[]⟩)::(nl,an #[.int m u] 1)::(hu,an #[.int k0 s0,.int k1 s1,.int k2 s2,.int k3 s3] nh)::(F,⟨.type "frame",none,.dict #[En x.B bi e0 ve,En x.B dF e1 (.ref hu),En x.B aM e2 (.ref nl),En x.B aA e3 (.int P e4),En x.B bH e5 (.int Q e6)] 5,#[]⟩)::rest) 0→codeAny (MB x.B) A (ai (ah x.B 282 2) (.ref it) (envOf (fdOf x.B 282) 282 F)) R ⟨h',gl,d,t',os⟩):
 codeAny (MB x.B) A (ai (ah x.B 282 2) (.ref it) (envOf (fdOf x.B 282) 282 F)) R ⟨h,gl,d,t,os⟩:=by
 refine af ?_
 refine aa hh Rp [aI "int.__pow__" [.int 2 (t+4),.int 20 (t+5)] (1048576)] 75 (dA 0x108124904924904a28924124924a28118a0861c6186046) [] (cR 80 [.int (k0-k1) (t+3),.int 1048576 (t+6)]) [] [.u fun _=>oI "tuple_iterator" #[.ref d5,.int 1 0],.k,.k,.k,.u (dU [] [En x.B aA (t+0) (.int 0 w0)] 4)] 0 7 ?_ (aC (aS (by decide) (by decide) (by decide) (by decide)) aN)
 intro bT h1 N1 t1 Rp eE
 refine gu x (A.under _) hh (by show A.depth+0<470;exact Dh hA) _ (k0-k1) 1048576 _ _ (by exact Dg aO mZ) (by exact Df or jv) (by decide) (by decide) rfl rfl _ _ _ _ _ _ _ _ _ Rp fun qb o0 gi ad ud vd Rp=>?_
 obtain⟨r,hr⟩:∃r,(k0-k1).fmod 1048576=r:=⟨_,rfl⟩
 have lT:(k0-k1)%2^20=r:=by rw[←hr,Int.fmod_eq_emod_of_nonneg _ (by decide)];rfl
 unfold fW at hm
 rw[lT] at hm
 rw[hr] at Rp
 by_cases c:r>2^19
 ·rw[if_pos c] at hm
  subst hm
  refine ab hh Rp [aI "int.__pow__" [.int 2 (gi+2),.int 19 (gi+3)] (524288),aB "int.__gt__" [.int (r) vd,.int 524288 (gi+4)] true,aI "int.__pow__" [.int 2 (gi+5),.int 20 (gi+6)] (1048576)] 69 (dA 0x91492410442c308b2492492c72c1186046186) [] (Fin.again (ai (ah x.B 282 2) (.ref it) (envOf (fdOf x.B 282) 282 F))) [] [.d,.k,.k,.u fun _=>oL #[.int (r-1048576) (gi+8)] 1,.k,.u (dU [] [En x.B bH (gi+1) (.int (r) vd)] 5)] 0 9 ?_ (aC (aS (by decide) (by decide) (by decide) (by decide)) (aC (nQ (decide_eq_true (by exact De c))) (aC (aS (by decide) (by decide) (by decide) (by decide)) aN)))
  intro bW h2 N2 t2 Rp
  exact⟨rfl,K _ _ _ _ _ _ _ _ _ _ Rp⟩
 ·rw[if_neg c] at hm
  subst hm
  refine ab hh Rp [aI "int.__pow__" [.int 2 (gi+2),.int 19 (gi+3)] (524288),aB "int.__gt__" [.int (r) vd,.int 524288 (gi+4)] false] 60 (dA 0x91492412c308b2492492c72c1186046186) [] (Fin.again (ai (ah x.B 282 2) (.ref it) (envOf (fdOf x.B 282) 282 F))) [] [.d,.k,.k,.u fun _=>oL #[.int (r) vd] 1,.k,.u (dU [] [En x.B bH (gi+1) (.int (r) vd)] 5)] 0 5 ?_ (aC (aS (by decide) (by decide) (by decide) (by decide)) (aC (nQ (decide_eq_false (by exact Dd c))) aN))
  intro bW h2 N2 t2 Rp
  exact⟨rfl,K _ _ _ _ _ _ _ _ _ _ Rp⟩
theorem Ht(x:W2)(A:Around)(hh:A.handled=none)(hA:A.depth<400)(R:Result→Shared→Prop)(k0 k1 k2 k3 m:Int)(aO:0≤k0)(or:k0<2^20)(jv:0≤k1)(mZ:k1<2^20)(wb:0≤k2)(oq:k2<2^20)(hm:fW (k1-k2)=m)
 (it d5 nl hu F:Addr) (s0 s1 s2 s3 w0 w1 e0 e1 e2 nh:Nat) (ve:Value) (P Q m0:Int) (e3 e4 e5 e6 um:Nat) (N t:Nat) (h:Heap) (gl d os) (rest:ae)
 (Rp:Rep x.B N h ((it,ki d5 1)::(d5,⟨.type "tuple",none,.seq #[.int 0 w0,.int 1 w1] 0,#[]⟩)::(nl,an #[.int m0 um] 1)::(hu,an #[.int k0 s0,.int k1 s1,.int k2 s2,.int k3 s3] nh)::(F,⟨.type "frame",none,.dict #[En x.B bi e0 ve,En x.B dF e1 (.ref hu),En x.B aM e2 (.ref nl),En x.B aA e3 (.int P e4),En x.B bH e5 (.int Q e6)] 5,#[]⟩)::rest) 0)
 (K:∀h' N' t' P Q e3 e4 e5 e6 u,Rep x.B N' h' ((it,ki d5 2)::(d5,⟨.type "tuple",none,.seq #[.int 0 w0,.int 1 w1] 0,#[]⟩)::(nl,an #[.int m0 um,.int m u] 2)::(hu,an #[.int k0 s0,.int k1 s1,.int k2 s2,.int k3 s3] nh)::(F,⟨.type "frame",none,.dict #[En x.B bi e0 ve,En x.B dF e1 (.ref hu),En x.B aM e2 (.ref nl),En x.B aA e3 (.int P e4),En x.B bH e5 (.int Q e6)] 5,#[]⟩)::rest) 0→codeAny (MB x.B) A (ai (ah x.B 282 2) (.ref it) (envOf (fdOf x.B 282) 282 F)) R ⟨h',gl,d,t',os⟩):
 codeAny (MB x.B) A (ai (ah x.B 282 2) (.ref it) (envOf (fdOf x.B 282) 282 F)) R ⟨h,gl,d,t,os⟩:=by
 refine af ?_
 refine aa hh Rp [aI "int.__pow__" [.int 2 (t+4),.int 20 (t+5)] (1048576)] 75 (dA 0x108124904924904a28924124924a28118a0861c6186046) [] (cR 80 [.int (k1-k2) (t+3),.int 1048576 (t+6)]) [] [.u fun _=>oI "tuple_iterator" #[.ref d5,.int 2 0],.k,.k,.k,.u (dU [(3,.int 1 w1)] [] 5)] 0 7 ?_ (aC (aS (by decide) (by decide) (by decide) (by decide)) aN)
 intro bT h1 N1 t1 Rp eE
 refine gu x (A.under _) hh (by show A.depth+0<470;exact Dh hA) _ (k1-k2) 1048576 _ _ (by exact Dg jv oq) (by exact Df mZ wb) (by decide) (by decide) rfl rfl _ _ _ _ _ _ _ _ _ Rp fun qb o0 gi ad ud vd Rp=>?_
 obtain⟨r,hr⟩:∃r,(k1-k2).fmod 1048576=r:=⟨_,rfl⟩
 have lT:(k1-k2)%2^20=r:=by rw[←hr,Int.fmod_eq_emod_of_nonneg _ (by decide)];rfl
 unfold fW at hm
 rw[lT] at hm
 rw[hr] at Rp
 by_cases c:r>2^19
 ·rw[if_pos c] at hm
  subst hm
  refine ab hh Rp [aI "int.__pow__" [.int 2 (gi+2),.int 19 (gi+3)] (524288),aB "int.__gt__" [.int (r) vd,.int 524288 (gi+4)] true,aI "int.__pow__" [.int 2 (gi+5),.int 20 (gi+6)] (1048576)] 69 (dA 0x91492410442c308b2492492c72c1186046186) [] (Fin.again (ai (ah x.B 282 2) (.ref it) (envOf (fdOf x.B 282) 282 F))) [] [.d,.k,.k,.u fun _=>oL #[.int (m0) um,.int (r-1048576) (gi+8)] 2,.k,.u (dU [(4,.int (r) vd)] [] 5)] 0 9 ?_ (aC (aS (by decide) (by decide) (by decide) (by decide)) (aC (nQ (decide_eq_true (by exact De c))) (aC (aS (by decide) (by decide) (by decide) (by decide)) aN)))
  intro bW h2 N2 t2 Rp
  exact⟨rfl,K _ _ _ _ _ _ _ _ _ _ Rp⟩
 ·rw[if_neg c] at hm
  subst hm
  refine ab hh Rp [aI "int.__pow__" [.int 2 (gi+2),.int 19 (gi+3)] (524288),aB "int.__gt__" [.int (r) vd,.int 524288 (gi+4)] false] 60 (dA 0x91492412c308b2492492c72c1186046186) [] (Fin.again (ai (ah x.B 282 2) (.ref it) (envOf (fdOf x.B 282) 282 F))) [] [.d,.k,.k,.u fun _=>oL #[.int (m0) um,.int (r) vd] 2,.k,.u (dU [(4,.int (r) vd)] [] 5)] 0 5 ?_ (aC (aS (by decide) (by decide) (by decide) (by decide)) (aC (nQ (decide_eq_false (by exact Dd c))) aN))
  intro bW h2 N2 t2 Rp
  exact⟨rfl,K _ _ _ _ _ _ _ _ _ _ Rp⟩
theorem wP{a b c d:Addr×Obj}{r:ae}:(d::b::a::c::r).Perm (a::b::c::d::r):=(List.Perm.cons d (List.Perm.swap a b (c::r))).trans ((List.Perm.swap a d (b::c::r)).trans (List.Perm.cons a ((List.Perm.swap b d (c::r)).trans (List.Perm.cons b (List.Perm.swap c d r)))))
theorem rC(x:W2)(A:Around)(hh:A.handled=none)(hA:A.depth<380)(R:Result→Shared→Prop)(k0 k1 k2 k3 S0 S1 S2 S3 m0 m1:Int)(ot:bg S0)(j9:bg S1)(hS2:bg S2)(hS3:bg S3)
 (aO:0≤k0) (or:k0<2^20) (jv:0≤k1) (mZ:k1<2^20) (wb:0≤k2) (oq:k2<2^20) (yg:0≤k3) (hk3':k3<2^20) (hm0:fW (k0-k1)=m0) (nS:fW (k1-k2)=m1)
 (items:Array Value) (a0 a1 a2 a3 el:Addr) (n0:Nat) (hi:items= #[.ref a0,.ref a1,.ref a2,.ref a3])
 (r0 g0 b0 r1 g1 b1 r2 g2 b2 r3 g3 b3:Value) (oW:b7 k0 S0 r0 g0 b0) (gw:b7 k1 S1 r1 g1 b1) (qZ:b7 k2 S2 r2 g2 b2) (Cj:b7 k3 S3 r3 g3 b3)
 (N t:Nat) (h:Heap) (gl d os) (rest:ae) (Rp:Rep x.B N h ((el,an items n0)::(a0,cq r0 g0 b0)::(a1,cq r1 g1 b1)::(a2,cq r2 g2 b2)::(a3,cq r3 g3 b3)::rest) 0)
 (K:∀h' N' t' a u v,Rep x.B N' h' ((a,an #[.int m0 u,.int m1 v] 2)::(el,an items n0)::(a0,cq r0 g0 b0)::(a1,cq r1 g1 b1)::(a2,cq r2 g2 b2)::(a3,cq r3 g3 b3)::rest) 0→R (.ok (.ret (.ref a))) ⟨h',gl,d,t',os⟩)
 :codeAny (MB x.B) A (.call (.ref 282) ⟨[.ref el],[]⟩) R ⟨h,gl,d,t,os⟩:=by
 refine bE hh Rp (by omega) 18 (dA 0x86041) (am (fdOf x.B 282)) (envOf (fdOf x.B 282) 282 (N+0)) [(N+0,oF #[En x.B bi (t+0) (.ref el)] 1)] 1 1 (by rfl') ?_
 intro bT h1 N1 t1 Rp
 refine bS 1 ?_
 refine aa hh Rp [] 27 (dA 0x1870471c6) (dM 15) (.compStart (fM x) 0 (.ref (N1+0)) (.ref (N1+1)) (dS x (N+0) (N1+2))) [(N1+2,oD #[] 0),(N1+1,oL #[] 0),(N1+0,oI "list_iterator" #[.ref el,.int 0 0])] [] 3 0 ?_
 intro bW h2 N2 t2 Rp dK
 refine bP (by rfl') Rp 2 rfl ?_
 refine Hv x (A.under _) hh (by show A.depth+1<800;exact zn hA) _ k0 S0 ot aO or items #[] (by simp) n0 0 0 a0 _ _ _ (N+0) el _ r0 g0 b0 oW (by subst hi;rfl) _ _ _ _ _ _ _ Rp fun yc Nx1 tx1 q1 q2 q3 v1 v2 v3 u1 Rp=>?_
 have perm1:∀{a b c d e f g:Addr×Obj} {r:ae},(a::b::c::d::e::f::g::r).Perm (a::b::c::d::e::g::f::r):=.cons _ (.cons _ (.cons _ (.cons _ (.cons _ (.swap _ _ _)))))
 refine BE x (A.under _) hh (by show A.depth+1<800;exact zn hA) _ k1 S1 j9 jv mZ items _ (by simp) n0 _ 1 a1 _ _ _ (N+0) el _ r1 g1 b1 gw (by subst hi;rfl) q1 q2 q3 v1 v2 v3 _ _ _ _ _ _ _ (Rp.perm perm1) fun yb Nx2 tx2 q1 q2 q3 v1 v2 v3 u2 Rp=>?_
 have perm2:∀{a b c d e f g k:Addr×Obj} {r:ae},(a::b::c::d::e::f::g::k::r).Perm (a::b::c::d::e::k::f::g::r):=.cons _ (.cons _ (.cons _ (.cons _ (.cons _ ((List.Perm.cons _ (.swap _ _ _)).trans (.swap _ _ _))))))
 refine BE x (A.under _) hh (by show A.depth+1<800;exact zn hA) _ k2 S2 hS2 wb oq items _ (by simp) n0 _ 2 a2 _ _ _ (N+0) el _ r2 g2 b2 qZ (by subst hi;rfl) q1 q2 q3 v1 v2 v3 _ _ _ _ _ _ _ (Rp.perm perm2) fun ya Nx3 tx3 q1 q2 q3 v1 v2 v3 u3 Rp=>?_
 have perm3:∀{a b c d e f g k l:Addr×Obj} {r:ae},(a::b::c::d::e::f::g::k::l::r).Perm (a::b::c::d::e::l::g::k::f::r):=fun{a b c d e f g k l r}=>.cons _ (.cons _ (.cons _ (.cons _ (.cons _ (((List.perm_middle (l₁:=[f,g,k]) (l₂:=r) (a:=l))).trans (.cons _ ((List.Perm.cons f (List.Perm.swap k g r)).trans ((List.Perm.swap k f (g::r)).trans ((List.Perm.cons k (List.Perm.swap g f r)).trans (List.Perm.swap g k (f::r)))))))))))
 refine BE x (A.under _) hh (by show A.depth+1<800;exact zn hA) _ k3 S3 hS3 yg hk3' items _ (by simp) n0 _ 3 a3 _ _ _ (N+0) el _ r3 g3 b3 Cj (by subst hi;rfl) q1 q2 q3 v1 v2 v3 _ _ _ _ _ _ _ (Rp.perm perm3) fun hx4 Nx4 tx4 q1 q2 q3 v1 v2 v3 u4 Rp=>?_
 subst hi
 refine af ?_
 refine ab hh Rp [] 27 (dA 0x6108288208048) (dM 4) (Fin.done Flow.next) [] [.k,.k,.d] 2 0 ?_
 intro cC h3 N3 t3 Rp
 show wpAny ..
 refine ab hh Rp [] 34 (dA 0x2186086182186108) [] Flow.next [] [.d,.k,.u (dU [] [En x.B dF (t3+0) (.ref (N1+1))] 2)] 0 1 ?_
 intro db h4 N4 t4 Rp
 refine bS 1 ?_
 refine ab hh Rp [] 21 (dA 0x108) (dM 3) Flow.next [(N4+0,oL #[] 0)] [.k,.u (dU [] [En x.B aM (t4+0) (.ref (N4+0))] 3)] 1 1 ?_
 intro dv h5 N5 t5 Rp
 refine bS 1 ?_
 refine aa hh Rp [] 26 (dA 0x6181186) (dM 7) (ai (ah x.B 282 2) (.ref (N5+1)) (envOf (fdOf x.B 282) 282 (N+0))) [(N5+1,oI "tuple_iterator" #[.ref (N5+0),.int 0 0]),(N5+0,oT #[.int 0 (t5+0),.int 1 (t5+1)])] [] 2 2 ?_
 intro eN h6 N6 t6 Rp j4
 refine Hu x (A.under _) hh (by show A.depth+1<400;exact Dc hA) _ k0 k1 k2 k3 m0 aO or jv mZ wb oq hm0 _ _ _ _ (N+0) _ _ _ _ _ _ _ _ _ _ _ _ _ _ _ _ _ _ Rp fun hy1 Ny1 ty1 P Q e3 e4 e5 e6 um Rp=>?_
 refine Ht x (A.under _) hh (by show A.depth+1<400;exact Dc hA) _ k0 k1 k2 k3 m1 aO or jv mZ wb oq nS _ _ _ _ (N+0) _ _ _ _ _ _ _ _ _ _ _ P Q m0 e3 e4 e5 e6 um _ _ _ _ _ _ _ Rp fun hy2 Ny2 ty2 P Q e3 e4 e5 e6 um2 Rp=>?_
 refine aX hh Rp [] 28 (dA 0x60861c6186046) (dM 4) (.ok .next) [] [.d,.d] 2 0 ?_
 intro ie h7 N7 t7 Rp
 show wpAny ..
 refine ab hh Rp [] 11 (dA 0x0) [] Flow.next [] [] 0 0 ?_
 intro iG h8 N8 t8 Rp
 show wpAny _ _ (aj ..) ..
 refine ab hh Rp [] 14 (dA 0x8) [] (Flow.ret (.ref (N4+0))) [] [.k,.d,.d] 0 0 ?_
 intro iM h9 N9 t9 Rp
 exact K _ _ _ _ _ _ (Rp.perm (.cons _ (.cons _ wP)))
structure C4 where
 k0:Int
 k1:Int
 k2:Int
 k3:Int
 S0:Int
 S1:Int
 S2:Int
 S3:Int
noncomputable def jo(k:Int):Prop:=0≤k∧k<2^20
structure C4.Ok (c:C4):Prop where
 k0:jo c.k0
 k1:jo c.k1
 k2:jo c.k2
 k3:jo c.k3
 S0:bg c.S0
 S1:bg c.S1
 S2:bg c.S2
 S3:bg c.S3
noncomputable def mv(cnt kx ky k:Int):Int:=(k+(cnt*(kx-ky)).fmod 1048576)%2^20
noncomputable def C4.tw(c:C4)(p cnt:Int):C4:=
 if p=0 then⟨mv cnt c.k0 c.k1 c.k0,mv cnt c.k0 c.k1 c.k1,c.k2,c.k3,if cnt%2=0 then c.S0 else c.S1,if cnt%2=0 then c.S1 else c.S0,c.S2,c.S3⟩
 else if p=1 then⟨c.k0,mv cnt c.k1 c.k2 c.k1,mv cnt c.k1 c.k2 c.k2,c.k3,c.S0,if cnt%2=0 then c.S1 else c.S2,if cnt%2=0 then c.S2 else c.S1,c.S3⟩
 else⟨c.k0,c.k1,mv cnt c.k2 c.k3 c.k2,mv cnt c.k2 c.k3 c.k3,c.S0,c.S1,if cnt%2=0 then c.S2 else c.S3,if cnt%2=0 then c.S3 else c.S2⟩
theorem jV(cnt kx ky k:Int):jo (mv cnt kx ky k):=⟨Int.emod_nonneg _ (by decide),Int.emod_lt_of_pos _ (by decide)⟩
theorem C4.Ok.tw{c:C4}(h:c.Ok)(p cnt:Int):(c.tw p cnt).Ok:=by
 have s:∀{a b:Int},bg a→bg b→bg (if cnt%2=0 then a else b):=fun ha hb=>by split<;>assumption
 unfold C4.tw
 split
 ·exact⟨jV ..,jV ..,h.k2,h.k3,s h.S0 h.S1,s h.S1 h.S0,h.S2,h.S3⟩
 ·split
  ·exact⟨h.k0,jV ..,jV ..,h.k3,h.S0,s h.S1 h.S2,s h.S2 h.S1,h.S3⟩
  ·exact⟨h.k0,h.k1,jV ..,jV ..,h.S0,h.S1,s h.S2 h.S3,s h.S3 h.S2⟩
noncomputable def Ends(c:C4)(el:Addr)(n:Nat)(cs:ae):Prop:=∃(a0 a1 a2 a3:Addr) (r0 g0 b0 r1 g1 b1 r2 g2 b2 r3 g3 b3:Value),b7 c.k0 c.S0 r0 g0 b0∧b7 c.k1 c.S1 r1 g1 b1∧b7 c.k2 c.S2 r2 g2 b2∧b7 c.k3 c.S3 r3 g3 b3∧
 cs=[(el,an #[.ref a0,.ref a1,.ref a2,.ref a3] n),(a0,cq r0 g0 b0),(a1,cq r1 g1 b1),(a2,cq r2 g2 b2),(a3,cq r3 g3 b3)]
theorem Rep.front{B:aQ}{N m:Nat}{h:Heap}{hd cs rest:ae}(Rp:Rep B N h (hd++(cs++rest)) m):Rep B N h (cs++(hd++rest)) m:=Rp.perm (by
 rw[←List.append_assoc,←List.append_assoc]
 exact List.Perm.append_right _ List.perm_append_comm)
theorem pG(x:W2)(A:Around)(hh:A.handled=none)(hA:A.depth<380)(R:Result→Shared→Prop)(c:C4)(hc:c.Ok)(el:Addr)(n:Nat)(cs:ae)(E:Ends c el n cs)
 (N t:Nat) (h:Heap) (gl d os) (hd rest:ae) (Rp:Rep x.B N h (hd++(cs++rest)) 0)
 (K:∀h' N' t' a u v,Rep x.B N' h' ((a,an #[.int (fW (c.k0-c.k1)) u,.int (fW (c.k1-c.k2)) v] 2)::(hd++(cs++rest))) 0→R (.ok (.ret (.ref a))) ⟨h',gl,d,t',os⟩)
 :codeAny (MB x.B) A (.call (.ref 282) ⟨[.ref el],[]⟩) R ⟨h,gl,d,t,os⟩:=by
 obtain⟨a0,a1,a2,a3,r0,g0,b0,r1,g1,b1,r2,g2,b2,r3,g3,b3,c0,c1,c2,c3,rfl⟩:=E
 refine rC x A hh hA R c.k0 c.k1 c.k2 c.k3 c.S0 c.S1 c.S2 c.S3 _ _ hc.S0 hc.S1 hc.S2 hc.S3 hc.k0.1 hc.k0.2 hc.k1.1 hc.k1.2 hc.k2.1 hc.k2.2 hc.k3.1 hc.k3.2 rfl rfl _ a0 a1 a2 a3 el n rfl r0 g0 b0 r1 g1 b1 r2 g2 b2 r3 g3 b3 c0 c1 c2 c3 N t h gl d os (hd++rest) Rp.front fun h' N' t' a u v Rp=>K h' N' t' a u v ?_
 exact Rp.perm (.cons _ (by
  show([_,_,_,_,_]++(hd++rest)).Perm _
  rw[←List.append_assoc,←List.append_assoc]
  exact List.Perm.append_right _ List.perm_append_comm))
theorem gL(x:W2)(A:Around)(hh:A.handled=none)(hA:A.depth<440)(R:Result→Shared→Prop)(c:C4)(hc:c.Ok)(p cnt:Int)(iK:0≤p)(hp:p≤2)(eP:-(2^37)≤cnt)(hcnt2:cnt≤2^37)(el:Addr)(n:Nat)(cs:ae)(E:Ends c el n cs)(tb tc:Nat)
 (N t:Nat) (h:Heap) (gl d os) (hd rest:ae) (Rp:Rep x.B N h (hd++(cs++rest)) 0)
 (K:∀h' N' t' be,Ends (c.tw p cnt) el n be→Rep x.B N' h' (hd++(be++rest)) 0→R (.ok (.ret (.ref el))) ⟨h',gl,d,t',os⟩)
 :codeAny (MB x.B) A (.call (.ref 277) ⟨[.ref el,.int p tb,.int cnt tc],[]⟩) R ⟨h,gl,d,t,os⟩:=by
 obtain⟨a0,a1,a2,a3,r0,g0,b0,r1,g1,b1,r2,g2,b2,r3,g3,b3,c0,c1,c2,c3,rfl⟩:=E
 have Rp:=Rp.front
 have bd:∀{a b:Int},jo a→jo b→-(2^58)<cnt*(a-b)∧cnt*(a-b)<2^58:=fun{a b} ha hb=>by
  obtain⟨ha,Cn⟩:=ha
  obtain⟨hb,Cm⟩:=hb
  have h1:(cnt*(a-b)).natAbs≤2^37*2^20:=by
   rw[Int.natAbs_mul]
   exact Nat.mul_le_mul (by omega) (by omega)
  omega
 have kY:∀{cs:ae} {h':Heap} {N':Nat},Rep x.B N' h' (cs++(hd++rest)) 0→Rep x.B N' h' (hd++(cs++rest)) 0:=fun q=>q.front
 rcases(by exact Fx iK hp:p=0∨p=1∨p=2) with rfl|rfl|rfl
 ·by_cases e:cnt%2=0
  ·refine ko x A hh hA R 0 cnt c.k0 c.k1 c.S0 c.S1 _ _ _ _ iK hp e hc.S0 hc.S1 hc.k0.1 hc.k0.2 hc.k1.1 hc.k1.2 rfl (bd hc.k0 hc.k1).1 (bd hc.k0 hc.k1).2 rfl rfl rfl _ a0 a1 el rfl rfl rfl n r0 g0 b0 r1 g1 b1 c0 c1 tb tc N t h gl d os _ Rp fun h' N' t' ax ay rx gx bx ry gy bY cx cy Rp=>?_
   refine K _ _ _ _ ⟨ax,ay,a2,a3,rx,gx,bx,ry,gy,bY,r2,g2,b2,r3,g3,b3,?_,?_,c2,c3,rfl⟩ (kY (Rp.perm ?_))
   ·simp only[C4.tw,if_pos,e];exact cx
   ·simp only[C4.tw,if_pos,e];exact cy
   ·exact(List.Perm.swap _ _ _).trans ((List.Perm.cons _ (.swap _ _ _)).trans ((List.Perm.swap _ _ _).trans (.refl _)))
  ·refine kn x A hh hA R 0 cnt c.k0 c.k1 c.S0 c.S1 _ _ _ _ iK hp (by exact vE e) hc.S0 hc.S1 hc.k0.1 hc.k0.2 hc.k1.1 hc.k1.2 rfl (bd hc.k0 hc.k1).1 (bd hc.k0 hc.k1).2 rfl rfl rfl _ a0 a1 el rfl rfl rfl n r0 g0 b0 r1 g1 b1 c0 c1 tb tc N t h gl d os _ Rp fun h' N' t' ax ay rx gx bx ry gy bY cx cy Rp=>?_
   refine K _ _ _ _ ⟨ax,ay,a2,a3,rx,gx,bx,ry,gy,bY,r2,g2,b2,r3,g3,b3,?_,?_,c2,c3,rfl⟩ (kY (Rp.perm ?_))
   ·simp only[C4.tw,if_pos,if_neg e];exact cx
   ·simp only[C4.tw,if_pos,if_neg e];exact cy
   ·exact(List.Perm.swap _ _ _).trans ((List.Perm.cons _ (.swap _ _ _)).trans ((List.Perm.swap _ _ _).trans (.refl _)))
 ·have yY:=Rp.perm (List.Perm.cons _ ((List.Perm.swap _ _ _).trans (List.Perm.cons _ (.swap _ _ _))))
  have fin:∀{a b c d e:Addr×Obj} {r:ae},(a::b::c::d::e::r).Perm (c::d::b::a::e::r):=fun{a b c d e r}=>(List.perm_middle (l₁:=[a,b]) (a:=c)).trans (.cons _ ((List.perm_middle (l₁:=[a,b]) (a:=d)).trans (.cons _ (.swap _ _ _))))
  have z:((1:Int)=0)=False:=by decide
  by_cases e:cnt%2=0
  ·refine ko x A hh hA R 1 cnt c.k1 c.k2 c.S1 c.S2 _ _ _ _ iK hp e hc.S1 hc.S2 hc.k1.1 hc.k1.2 hc.k2.1 hc.k2.2 rfl (bd hc.k1 hc.k2).1 (bd hc.k1 hc.k2).2 rfl rfl rfl _ a1 a2 el rfl rfl rfl n r1 g1 b1 r2 g2 b2 c1 c2 tb tc N t h gl d os _ yY fun h' N' t' ax ay rx gx bx ry gy bY cx cy Rp=>?_
   refine K _ _ _ _ ⟨a0,ax,ay,a3,r0,g0,b0,rx,gx,bx,ry,gy,bY,r3,g3,b3,?_,?_,?_,?_,rfl⟩ (kY (Rp.perm fin))
   all_goals simp only[C4.tw,z,if_false,if_true,e]<;>assumption
  ·refine kn x A hh hA R 1 cnt c.k1 c.k2 c.S1 c.S2 _ _ _ _ iK hp (by exact vE e) hc.S1 hc.S2 hc.k1.1 hc.k1.2 hc.k2.1 hc.k2.2 rfl (bd hc.k1 hc.k2).1 (bd hc.k1 hc.k2).2 rfl rfl rfl _ a1 a2 el rfl rfl rfl n r1 g1 b1 r2 g2 b2 c1 c2 tb tc N t h gl d os _ yY fun h' N' t' ax ay rx gx bx ry gy bY cx cy Rp=>?_
   refine K _ _ _ _ ⟨a0,ax,ay,a3,r0,g0,b0,rx,gx,bx,ry,gy,bY,r3,g3,b3,?_,?_,?_,?_,rfl⟩ (kY (Rp.perm fin))
   all_goals simp only[C4.tw,z,if_false,if_true,if_neg e]<;>assumption
 ·have yY:=Rp.perm (List.Perm.cons _ ((List.perm_middle (l₁:=[_,_])).trans (.cons _ (List.perm_middle (l₁:=[_,_])))))
  have fin:∀{a b c d e:Addr×Obj} {r:ae},(a::b::c::d::e::r).Perm (c::d::e::b::a::r):=fun{a b c d e r}=>(List.perm_middle (l₁:=[a,b]) (a:=c)).trans (.cons _ ((List.perm_middle (l₁:=[a,b]) (a:=d)).trans (.cons _ ((List.perm_middle (l₁:=[a,b]) (a:=e)).trans (.cons _ (.swap _ _ _))))))
  have z:((2:Int)=0)=False:=by decide
  have z1:((2:Int)=1)=False:=by decide
  by_cases e:cnt%2=0
  ·refine ko x A hh hA R 2 cnt c.k2 c.k3 c.S2 c.S3 _ _ _ _ iK hp e hc.S2 hc.S3 hc.k2.1 hc.k2.2 hc.k3.1 hc.k3.2 rfl (bd hc.k2 hc.k3).1 (bd hc.k2 hc.k3).2 rfl rfl rfl _ a2 a3 el rfl rfl rfl n r2 g2 b2 r3 g3 b3 c2 c3 tb tc N t h gl d os _ yY fun h' N' t' ax ay rx gx bx ry gy bY cx cy Rp=>?_
   refine K _ _ _ _ ⟨a0,a1,ax,ay,r0,g0,b0,r1,g1,b1,rx,gx,bx,ry,gy,bY,?_,?_,?_,?_,rfl⟩ (kY (Rp.perm fin))
   all_goals simp only[C4.tw,z,z1,if_false,if_true,e]<;>assumption
  ·refine kn x A hh hA R 2 cnt c.k2 c.k3 c.S2 c.S3 _ _ _ _ iK hp (by exact vE e) hc.S2 hc.S3 hc.k2.1 hc.k2.2 hc.k3.1 hc.k3.2 rfl (bd hc.k2 hc.k3).1 (bd hc.k2 hc.k3).2 rfl rfl rfl _ a2 a3 el rfl rfl rfl n r2 g2 b2 r3 g3 b3 c2 c3 tb tc N t h gl d os _ yY fun h' N' t' ax ay rx gx bx ry gy bY cx cy Rp=>?_
   refine K _ _ _ _ ⟨a0,a1,ax,ay,r0,g0,b0,r1,g1,b1,rx,gx,bx,ry,gy,bY,?_,?_,?_,?_,rfl⟩ (kY (Rp.perm fin))
   all_goals simp only[C4.tw,z,z1,if_false,if_true,if_neg e]<;>assumption
noncomputable def au(x:W2)(F c:Addr):Env:=gP (envOf (fdOf x.B 287) 287 F) [(pI,c)]
noncomputable abbrev bO(l:List DictEntry)(n:Nat):Obj:=⟨.type "frame",none,.dict l.toArray n,#[]⟩
structure CellsOk (items:Array Value) (m:Int):Prop where
 size:items.size=6
 at':∀i,i<6→∃c u,items[i]? =some (.int c u)∧0≤c∧c≤m
theorem CellsOk.set{items:Array Value}{m c:Int}{i u:Nat}(h:CellsOk items m)(hc:0≤c)(hm:c≤m+1000000):CellsOk (items.setIfInBounds i (.int c u)) (m+1000000):=by
 refine⟨by simp[h.size],fun j hj=>?_⟩
 by_cases e:i=j
 ·subst e
  exact⟨c,u,Array.getElem?_setIfInBounds_self_of_lt (by rw[h.size];exact hj),hc,hm⟩
 ·obtain⟨c',u',e',h1,h2⟩:=h.at' j hj
  exact⟨c',u',by rw[Array.getElem?_setIfInBounds_ne e];exact e',h1,by omega⟩
theorem GJ(x:W2)(A:Around)(hh:A.handled=none)(hA:A.depth<320)(R:Result→Shared→Prop)(F cb e it l cl:Addr)(ys items:Array Value)(j n nl ks kc:Nat)(m c:Int)(u:Nat)(old:Value)(hj:ys[j]? =some (.int c u))(hj60:j<60)(ho:CellsOk items m)(hm:m<2^40)
 (N t:Nat) (h:Heap) (gl d os) (rest:ae)
 (Rp:Rep x.B N h ((e,bf .none (.ref it) (j:Int) old)::(it,aD l (j:Int))::(l,an ys nl)::(cl,an items n)::(cb,⟨.type "cell",none,.cell none,#[]⟩)::(F,bO [En x.B aq ks (.ref 288),En x.B aJ kc (.ref cl)] 2)::rest) 0)
 (K:∀h' N' t' cJ kp kd v n,CellsOk cJ (m+1000000)→Rep x.B N' h' ((e,bf .none (.ref it) ((j+1:Nat):Int) (.int c u))::(it,aD l ((j+1:Nat):Int))::(l,an ys nl)::(cl,an cJ n)::(cb,⟨.type "cell",none,.cell none,#[]⟩)::(F,bO [En x.B aq ks (.ref 288),En x.B aJ kc (.ref cl),En x.B aA kp (.int (j:Int) v),En x.B bF kd (.int c u)] 4)::rest) 0→codeAny (MB x.B) A (ai (ah x.B 287 1) (.ref e) (au x F cb)) R ⟨h',gl,d,t',os⟩):
 codeAny (MB x.B) A (ai (ah x.B 287 1) (.ref e) (au x F cb)) R ⟨h,gl,d,t,os⟩:=by
 obtain⟨r,hr⟩:∃r,c%1000000=r:=⟨_,rfl⟩
 obtain⟨c0,u0,h0,h1,h2⟩:=ho.at' (j%6) (by exact DE)
 dsimp only[bO] at Rp
 refine bZ (bh ⟨_,Rp.at (n:=0) rfl,rfl⟩ PySem.F.slot_enumerate_next (l7 hh old Rp hj fun h7 N7 t7 a7 v7 Rp=>?_))
 refine cI (by rfl') Rp 1 rfl rfl fun h8 Rp=>?_
 try dsimp only[bm] at Rp
 refine ab hh Rp [] 71 (dA 0xb3cb3c60861c61860460861c61860460861c6186046186046186) (dM 8) () [] [.k,.k,.k,.k,.k,.k,.u (dU [] [En x.B aA (t7+0) (.int ((↑j:Int)) v7),En x.B bF (t7+1) (.int (c) u)] 4)] 3 2 ?_
 intro cC h3 N3 t3 Rp
 have ej:((j:Int)%6:Int)=((j%6:Nat):Int):=by exact zy
 refine aa hh Rp [aI "int.__mod__" [.int ((↑j:Int)) v7,.int 6 (t3+0)] (((j%6:Nat):Int))] 22 (dA 0xa28230c) [] (cB "list.__getitem__" [.ref cl,.int ((↑(j%6):Int)) (t3+1)]) [] [.d] 0 2 ?_ (aC (aG (by decide) (by rw[Int.fmod_eq_emod_of_nonneg _ (by decide)];exact zy)) aN)
 intro db h4 N4 t4 Rp gr
 refine g6 Rp 3 rfl (by exact zx) (by exact zw) (by rw[Int.toNat_natCast];exact h0) ?_
 refine aa hh Rp [aI "int.__pow__" [.int 10 (t4+0),.int 6 (t4+1)] (1000000),aI "int.__mod__" [.int (c) u,.int 1000000 (t4+2)] (r)] 27 (dA 0x24904308b) [] (cB "list.__setitem__" [.ref cl,.int ((↑(j%6):Int)) (t3+1),.int (c0+r) (t4+4)]) [] [] 0 5 ?_ (aC (aS (by decide) (by decide) (by decide) (by decide)) (aC (aG (by decide) (by rw[Int.fmod_eq_emod_of_nonneg _ (by decide)];exact DD hr)) aN))
 intro dv h5 N5 t5 Rp mU
 have hs:=ho.size
 refine ja Rp 3 rfl (by exact zx) (by exact zw) (by exact DC hs) rfl fun hz Rp=>?_
 try dsimp only[bm] at Rp
 refine ab hh Rp [] 11 (dA 0x0) [] Flow.next [] [] 0 0 ?_
 intro eN h6 N6 t6 Rp
 refine K _ _ _ _ _ _ _ _ ?_ Rp
 exact ho.set (by exact DB hr h1) (by exact DA hr h2)
theorem GI(x:W2)(A:Around)(hh:A.handled=none)(hA:A.depth<320)(R:Result→Shared→Prop)(F cb e it l cl:Addr)(ys items:Array Value)(j n nl ks kc:Nat)(m c:Int)(u:Nat)(old:Value)(hj:ys[j]? =some (.int c u))(hj60:j<60)(ho:CellsOk items m)(hm:m<2^40)(kp kd up ud:Nat)(P D:Int)
 (N t:Nat) (h:Heap) (gl d os) (rest:ae)
 (Rp:Rep x.B N h ((e,bf .none (.ref it) (j:Int) old)::(it,aD l (j:Int))::(l,an ys nl)::(cl,an items n)::(cb,⟨.type "cell",none,.cell none,#[]⟩)::(F,bO [En x.B aq ks (.ref 288),En x.B aJ kc (.ref cl),En x.B aA kp (.int P up),En x.B bF kd (.int D ud)] 4)::rest) 0)
 (K:∀h' N' t' cJ kp kd v n,CellsOk cJ (m+1000000)→Rep x.B N' h' ((e,bf .none (.ref it) ((j+1:Nat):Int) (.int c u))::(it,aD l ((j+1:Nat):Int))::(l,an ys nl)::(cl,an cJ n)::(cb,⟨.type "cell",none,.cell none,#[]⟩)::(F,bO [En x.B aq ks (.ref 288),En x.B aJ kc (.ref cl),En x.B aA kp (.int (j:Int) v),En x.B bF kd (.int c u)] 4)::rest) 0→codeAny (MB x.B) A (ai (ah x.B 287 1) (.ref e) (au x F cb)) R ⟨h',gl,d,t',os⟩):
 codeAny (MB x.B) A (ai (ah x.B 287 1) (.ref e) (au x F cb)) R ⟨h,gl,d,t,os⟩:=by
 obtain⟨r,hr⟩:∃r,c%1000000=r:=⟨_,rfl⟩
 obtain⟨c0,u0,h0,h1,h2⟩:=ho.at' (j%6) (by exact DE)
 dsimp only[bO] at Rp
 refine bZ (bh ⟨_,Rp.at (n:=0) rfl,rfl⟩ PySem.F.slot_enumerate_next (l7 hh old Rp hj fun h7 N7 t7 a7 v7 Rp=>?_))
 refine cI (by rfl') Rp 1 rfl rfl fun h8 Rp=>?_
 try dsimp only[bm] at Rp
 refine ab hh Rp [] 71 (dA 0xb3cb3c60861c61860460861c61860460861c6186046186046186) (dM 8) () [] [.k,.k,.k,.k,.k,.k,.u (dU [(2,.int ((↑j:Int)) v7),(3,.int (c) u)] [] 4)] 3 2 ?_
 intro cC h3 N3 t3 Rp
 have ej:((j:Int)%6:Int)=((j%6:Nat):Int):=by exact zy
 refine aa hh Rp [aI "int.__mod__" [.int ((↑j:Int)) v7,.int 6 (t3+0)] (((j%6:Nat):Int))] 22 (dA 0xa28230c) [] (cB "list.__getitem__" [.ref cl,.int ((↑(j%6):Int)) (t3+1)]) [] [.d] 0 2 ?_ (aC (aG (by decide) (by rw[Int.fmod_eq_emod_of_nonneg _ (by decide)];exact zy)) aN)
 intro db h4 N4 t4 Rp gr
 refine g6 Rp 3 rfl (by exact zx) (by exact zw) (by rw[Int.toNat_natCast];exact h0) ?_
 refine aa hh Rp [aI "int.__pow__" [.int 10 (t4+0),.int 6 (t4+1)] (1000000),aI "int.__mod__" [.int (c) u,.int 1000000 (t4+2)] (r)] 27 (dA 0x24904308b) [] (cB "list.__setitem__" [.ref cl,.int ((↑(j%6):Int)) (t3+1),.int (c0+r) (t4+4)]) [] [] 0 5 ?_ (aC (aS (by decide) (by decide) (by decide) (by decide)) (aC (aG (by decide) (by rw[Int.fmod_eq_emod_of_nonneg _ (by decide)];exact DD hr)) aN))
 intro dv h5 N5 t5 Rp mU
 have hs:=ho.size
 refine ja Rp 3 rfl (by exact zx) (by exact zw) (by exact DC hs) rfl fun hz Rp=>?_
 try dsimp only[bm] at Rp
 refine ab hh Rp [] 11 (dA 0x0) [] Flow.next [] [] 0 0 ?_
 intro eN h6 N6 t6 Rp
 refine K _ _ _ _ _ _ _ _ ?_ Rp
 exact ho.set (by exact DB hr h1) (by exact DA hr h2)
theorem rm(x:W2)(A:Around)(hh:A.handled=none)(hA:A.depth<320)(R:Result→Shared→Prop)(F cb e it l cl:Addr)(ys:Array Value)(nl ks kc:Nat)(hy:∀(i:Nat) v,ys[i]? =some v→∃c u,v=.int c u)(hs:ys.size≤60)(gl d os)(rest:ae):
 ∀(k j:Nat) (_:ys.size=j+k) (items:Array Value) (n:Nat) (m:Int) (_:CellsOk items m) (_:m+k*1000000<2^40) (old:Value) (kp kd up ud:Nat) (P D:Int)
 (N t:Nat) (h:Heap)
 (_:Rep x.B N h ((e,bf .none (.ref it) (j:Int) old)::(it,aD l (j:Int))::(l,an ys nl)::(cl,an items n)::(cb,⟨.type "cell",none,.cell none,#[]⟩)::(F,bO [En x.B aq ks (.ref 288),En x.B aJ kc (.ref cl),En x.B aA kp (.int P up),En x.B bF kd (.int D ud)] 4)::rest) 0)
 (_:∀h' N' t' cJ n kp kd up ud P D,CellsOk cJ (m+k*1000000)→Rep x.B N' h' ((cl,an cJ n)::(cb,⟨.type "cell",none,.cell none,#[]⟩)::(F,bO [En x.B aq ks (.ref 288),En x.B aJ kc (.ref cl),En x.B aA kp (.int P up),En x.B bF kd (.int D ud)] 4)::rest) 0→R (.ok .next) ⟨h',gl,d,t',os⟩),
 codeAny (MB x.B) A (ai (ah x.B 287 1) (.ref e) (au x F cb)) R ⟨h,gl,d,t,os⟩:=by
 intro k
 induction k with
 |zero=>
  intro j hz items n m ho hm old kp kd up ud P D N t h Rp K
  refine bZ (bh ⟨_,Rp.at (n:=0) rfl,rfl⟩ PySem.F.slot_enumerate_next (kU hh old Rp (by rw[Array.getElem?_eq_none_iff];omega) fun h7 N7 t7 a7 v7 Rp=>?_))
  refine⟨⟨_,Rp.at (n:=0) rfl,rfl⟩,?_⟩
  dsimp only[bO] at Rp
  show codeAny _ _ (.block (qp (ah x.B 287 1)) (au x F cb)) _ _
  refine aX hh Rp [] 11 (dA 0x0) [] (.ok .next) [] [.d,.d] 0 0 ?_
  intro bT h1 N1 t1 Rp
  exact K _ _ _ _ _ _ _ _ _ _ _ (by simpa using ho) Rp
 |succ k ih=>
  intro j hz items n m ho hm old kp kd up ud P D N t h Rp K
  obtain⟨c,u,hv⟩:=hy j ys[j] (Array.getElem?_eq_getElem (by exact Dz hz))
  refine GI x A hh hA R F cb e it l cl ys items j n nl ks kc m c u old (by rw[Array.getElem?_eq_getElem (by exact Dz hz),hv]) (by omega) ho (by exact GW hm) kp kd up ud P D N t h gl d os rest Rp fun h' N' t' cJ kp kd v n yf Rp=>?_
  exact ih (j+1) (by omega) _ _ _ yf (by push_cast at hm;omega) _ _ _ _ _ _ _ _ _ _ Rp fun h' N' t' cJ n kp kd up ud P D yf Rp=>K _ _ _ _ _ _ _ _ _ _ _ (by
   have e:m+1000000+(k:Int)*1000000=m+((k+1:Nat):Int)*1000000:=by push_cast;omega
   rw[←e];exact yf) Rp
noncomputable def fe(x:W2):Expr:=me (ah x.B 287 3)
noncomputable def dC(x:W2)(F cb C:Addr):Env:=fc (au x F cb) (fe x) C []
noncomputable abbrev jl(p:Int)(u:Nat)(q:Int)(v:Nat):Obj:=⟨.type "tuple",none,.seq #[.int p u,.int q v] 0,#[]⟩
theorem vh(x:W2)(A:Around)(hh:A.handled=none)(R:Result→Shared→Prop)(F cb C cD it l:Addr)(items vs:Array Value)(n nv j:Nat)(c p q:Int)(u:Nat)(hj:items[j]? =some (.int c u))(h0:0≤c)(hp:c%3=p)(hq:c/3%19-9=q)(hv:vs.size<60)
 (N t:Nat) (h:Heap) (gl d os) (rest:ae)
 (Rp:Rep x.B N h ((C,⟨.type "dict",none,.dict #[] 0,#[]⟩)::(cD,an vs nv)::(it,aD l (j:Int))::(l,an items n)::rest) 0)
 (K:∀h' N' t' a q1 u1 u2 nv,Rep x.B N' h' ((C,⟨.type "dict",none,.dict #[En x.B kG q1 (.int c u)] 1,#[]⟩)::(cD,an (vs.push (.ref a)) nv)::(it,aD l ((j+1:Nat):Int))::(l,an items n)::(a,jl p u1 q u2)::rest) 0→codeAny (MB x.B) A (.compLoop (fe x) 0 (.ref it) (.ref cD) (dC x F cb C)) R ⟨h',gl,d,t',os⟩):
 codeAny (MB x.B) A (.compLoop (fe x) 0 (.ref it) (.ref cD) (dC x F cb C)) R ⟨h,gl,d,t,os⟩:=by
 obtain⟨r1,a1⟩:∃q,c/3=q:=⟨_,rfl⟩
 obtain⟨r2,a2⟩:∃q,r1%19=q:=⟨_,rfl⟩
 obtain rfl:r2-9=q:=by exact Dy hq a1 a2
 refine af ?_
 refine aa hh Rp [] 13 (dA 0x8) [] (cB "list_iterator.__next__" [.ref it]) [] [] 0 0 ?_
 intro bT h1 N1 t1 Rp eE
 refine b6 Rp 2 3 rfl rfl hj rfl fun gH Rp=>?_
 try dsimp only[bm] at Rp
 refine aa hh Rp [aI "int.__mod__" [.int (c) u,.int 3 (t1+1)] (p),aI "int.__floordiv__" [.int (c) u,.int 3 (t1+3)] (r1),aI "int.__mod__" [.int (r1) (t1+4),.int 19 (t1+5)] (r2)] 39 (dA 0x440c6086086) (dM 3) (cB "list.append" [.ref cD,.ref (N1+0)]) [(N1+0,oT #[.int (p) (t1+2),.int (r2-9) (t1+8)])] [.u fun _=>oD #[En x.B kG (t1+0) (.int (c) u)] 1] 1 9 ?_ (aC (aG (by decide) (by rw[Int.fmod_eq_emod_of_nonneg _ (by decide)];exact Dx hp)) (aC (da (by decide) (by first|assumption|decide|rfl) (by first|assumption|(rw[Int.fdiv_eq_ediv_of_nonneg _ (by decide)];exact zv a1))) (aC (aG (by decide) (by rw[Int.fmod_eq_emod_of_nonneg _ (by decide)];exact Dw a2)) aN)))
 intro bW h2 N2 t2 Rp dK
 refine bn Rp 2 rfl (by exact jt hv) rfl fun jw Rp=>?_
 try dsimp only[bm] at Rp
 refine ab hh Rp [] 11 (dA 0x0) [] (Fin.again (.compLoop (fe x) 0 (.ref it) (.ref cD) (dC x F cb C))) [] [] 0 0 ?_
 intro cC h3 N3 t3 Rp
 exact⟨rfl,K _ _ _ _ _ _ _ _ (Rp.perm (List.perm_middle (l₁:=[_,_,_,_])).symm)⟩
theorem lg(x:W2)(A:Around)(hh:A.handled=none)(R:Result→Shared→Prop)(F cb C cD it l:Addr)(items vs:Array Value)(n nv j:Nat)(c p q:Int)(u:Nat)(hj:items[j]? =some (.int c u))(h0:0≤c)(hp:c%3=p)(hq:c/3%19-9=q)(hv:vs.size<60)(q1 uz:Nat)(cz:Int)
 (N t:Nat) (h:Heap) (gl d os) (rest:ae)
 (Rp:Rep x.B N h ((C,⟨.type "dict",none,.dict #[En x.B kG q1 (.int cz uz)] 1,#[]⟩)::(cD,an vs nv)::(it,aD l (j:Int))::(l,an items n)::rest) 0)
 (K:∀h' N' t' a q1 u1 u2 nv,Rep x.B N' h' ((C,⟨.type "dict",none,.dict #[En x.B kG q1 (.int c u)] 1,#[]⟩)::(cD,an (vs.push (.ref a)) nv)::(it,aD l ((j+1:Nat):Int))::(l,an items n)::(a,jl p u1 q u2)::rest) 0→codeAny (MB x.B) A (.compLoop (fe x) 0 (.ref it) (.ref cD) (dC x F cb C)) R ⟨h',gl,d,t',os⟩):
 codeAny (MB x.B) A (.compLoop (fe x) 0 (.ref it) (.ref cD) (dC x F cb C)) R ⟨h,gl,d,t,os⟩:=by
 obtain⟨r1,a1⟩:∃q,c/3=q:=⟨_,rfl⟩
 obtain⟨r2,a2⟩:∃q,r1%19=q:=⟨_,rfl⟩
 obtain rfl:r2-9=q:=by exact Dy hq a1 a2
 refine af ?_
 refine aa hh Rp [] 13 (dA 0x8) [] (cB "list_iterator.__next__" [.ref it]) [] [] 0 0 ?_
 intro bT h1 N1 t1 Rp eE
 refine b6 Rp 2 3 rfl rfl hj rfl fun gH Rp=>?_
 try dsimp only[bm] at Rp
 refine aa hh Rp [aI "int.__mod__" [.int (c) u,.int 3 (t1+1)] (p),aI "int.__floordiv__" [.int (c) u,.int 3 (t1+3)] (r1),aI "int.__mod__" [.int (r1) (t1+4),.int 19 (t1+5)] (r2)] 39 (dA 0x440c6086086) (dM 3) (cB "list.append" [.ref cD,.ref (N1+0)]) [(N1+0,oT #[.int (p) (t1+2),.int (r2-9) (t1+8)])] [.u (dU [(0,.int (c) u)] [] 1)] 1 9 ?_ (aC (aG (by decide) (by rw[Int.fmod_eq_emod_of_nonneg _ (by decide)];exact Dx hp)) (aC (da (by decide) (by first|assumption|decide|rfl) (by first|assumption|(rw[Int.fdiv_eq_ediv_of_nonneg _ (by decide)];exact zv a1))) (aC (aG (by decide) (by rw[Int.fmod_eq_emod_of_nonneg _ (by decide)];exact Dw a2)) aN)))
 intro bW h2 N2 t2 Rp dK
 refine bn Rp 2 rfl (by exact jt hv) rfl fun jw Rp=>?_
 try dsimp only[bm] at Rp
 refine ab hh Rp [] 11 (dA 0x0) [] (Fin.again (.compLoop (fe x) 0 (.ref it) (.ref cD) (dC x F cb C))) [] [] 0 0 ?_
 intro cC h3 N3 t3 Rp
 exact⟨rfl,K _ _ _ _ _ _ _ _ (Rp.perm (List.perm_middle (l₁:=[_,_,_,_])).symm)⟩
structure Wd where
 a:Addr
 p:Int
 u:Nat
 q:Int
 v:Nat
noncomputable def aZ(w:Wd):Addr×Obj:=(w.a,jl w.p w.u w.q w.v)
noncomputable abbrev fL(ws:List Wd)(n:Nat):Obj:=an (ws.map fun w=>Value.ref w.a).toArray n
noncomputable def wq(c:Int):Int×Int:=(c%3,c/3%19-9)
noncomputable def dP(c0 c1 c2 c3 c4 c5:Int):List (Int×Int):=if c0%3=0 then[wq c1,wq c2,wq c3] else if c0%3=1 then[wq c1,wq c2,wq c3,wq c4] else[wq c1,wq c2,wq c3,wq c4,wq c5]
noncomputable abbrev iL(v:Option Value):Obj:=⟨.type "cell",none,.cell v,#[]⟩
theorem CellsOk.six{items:Array Value}{m:Int}(h:CellsOk items m):∃(c0 c1 c2 c3 c4 c5:Int) (u0 u1 u2 u3 u4 u5:Nat),items= #[.int c0 u0,.int c1 u1,.int c2 u2,.int c3 u3,.int c4 u4,.int c5 u5]∧0≤c0∧0≤c1∧0≤c2∧0≤c3∧0≤c4∧0≤c5∧c0≤m∧c1≤m∧c2≤m∧c3≤m∧c4≤m∧c5≤m:=by
 obtain⟨c0,u0,e0,a0,b0⟩:=h.at' 0 (by decide)
 obtain⟨c1,u1,e1,a1,b1⟩:=h.at' 1 (by decide)
 obtain⟨c2,u2,e2,a2,b2⟩:=h.at' 2 (by decide)
 obtain⟨c3,u3,e3,a3,b3⟩:=h.at' 3 (by decide)
 obtain⟨c4,u4,e4,a4,b4⟩:=h.at' 4 (by decide)
 obtain⟨c5,u5,e5,a5,b5⟩:=h.at' 5 (by decide)
 refine⟨c0,c1,c2,c3,c4,c5,u0,u1,u2,u3,u4,u5,?_,a0,a1,a2,a3,a4,a5,b0,b1,b2,b3,b4,b5⟩
 refine Array.ext (by rw[h.size];rfl) fun i h1 h2=>?_
 have hs:=h.size
 have e:∀{v},items[i]? =some v→items[i]=v:=fun{v} q=>by rw[Array.getElem?_eq_getElem h1] at q;exact Option.some.inj q
 rcases(by omega:i=0∨i=1∨i=2∨i=3∨i=4∨i=5) with rfl|rfl|rfl|rfl|rfl|rfl
 ·exact e e0
 ·exact e e1
 ·exact e e2
 ·exact e e3
 ·exact e e4
 ·exact e e5
theorem AK(x:W2)(A:Around)(hh:A.handled=none)(Q:Flow→Shared→Prop)(F cb cl:Addr)(c0 c1 c2 c3 c4 c5 sg sd bs:Int)(u0 u1 u2 u3 u4 u5 n ks kc:Nat)(kp kd up ud:Nat)(P D:Int)(h0:0≤c0)(hm:c0<2^26)(e1:1-c0/3%2*2=sg)(e2:c0/6%2*2=sd)(e3:c0/12%8=bs)
 (N t:Nat) (h:Heap) (gl d os) (rest:ae)
 (Rp:Rep x.B N h ((cl,an #[.int c0 u0,.int c1 u1,.int c2 u2,.int c3 u3,.int c4 u4,.int c5 u5] n)::(cb,iL none)::(F,bO [En x.B aq ks (.ref 288),En x.B aJ kc (.ref cl),En x.B aA kp (.int P up),En x.B bF kd (.int D ud)] 4)::rest) 0)
 (K:∀h' N' t' k1 k2 v1 v2 v3,Rep x.B N' h' ((cl,an #[.int c0 u0,.int c1 u1,.int c2 u2,.int c3 u3,.int c4 u4,.int c5 u5] n)::(cb,iL (some (.int bs v3)))::(F,bO [En x.B aq ks (.ref 288),En x.B aJ kc (.ref cl),En x.B aA kp (.int P up),En x.B bF kd (.int D ud),En x.B bw k1 (.int sg v1),En x.B bz k2 (.int sd v2)] 6)::rest) 0→wpAny (MB x.B) A (aj (am (fdOf x.B 287) |>.drop 3) (au x F cb)) Q (fun _ _=>False) ⟨h',gl,d,t',os⟩):
 wpAny (MB x.B) A (aj (am (fdOf x.B 287) |>.drop 2) (au x F cb)) Q (fun _ _=>False) ⟨h,gl,d,t,os⟩:=by
 dsimp only[bO,iL] at Rp
 obtain⟨q1,a1⟩:∃q,c0/3=q:=⟨_,rfl⟩
 obtain⟨q2,a2⟩:∃q,q1%2=q:=⟨_,rfl⟩
 obtain⟨q3,a3⟩:∃q,q2*2=q:=⟨_,rfl⟩
 obtain⟨q4,a4⟩:∃q,c0/6=q:=⟨_,rfl⟩
 obtain⟨q5,a5⟩:∃q,q4%2=q:=⟨_,rfl⟩
 obtain⟨q6,a6⟩:∃q,c0/12=q:=⟨_,rfl⟩
 obtain rfl:1-q3=sg:=by exact Dv e1 a1 a2 a3
 refine bS 1 ?_
 refine ab hh Rp [aI "int.__floordiv__" [.int (c0) u0,.int 3 (t+2)] (q1),aI "int.__mod__" [.int (q1) (t+3),.int 2 (t+4)] (q2),aI "int.__mul__" [.int (q2) (t+5),.int 2 (t+6)] (q3),aI "int.__floordiv__" [.int (c0) u0,.int 6 (t+10)] (q4),aI "int.__mod__" [.int (q4) (t+11),.int 2 (t+12)] (q5),aI "int.__mul__" [.int (q5) (t+13),.int 2 (t+14)] (sd),aI "int.__floordiv__" [.int (c0) u0,.int 12 (t+17)] (q6),aI "int.__mod__" [.int (q6) (t+18),.int 8 (t+19)] (bs)] 155 (dA 0x72c83083060861c61860460861c61860460861c61860460861c6186046186046186248186046186207185186046186201103086181186188) (dM 16) Flow.next [] [.k,.u fun _=>oC (some (.int (bs) (t+20))),.u (dU [] [En x.B bw (t+21) (.int (1-q3) (t+8)),En x.B bz (t+22) (.int (sd) (t+15))] 6)] 4 23 ?_ (aC (da (by decide) (by first|assumption|decide|rfl) (by first|assumption|(rw[Int.fdiv_eq_ediv_of_nonneg _ (by decide)];exact zv a1))) (aC (aG (by decide) (by rw[Int.fmod_eq_emod_of_nonneg _ (by decide)];exact zu a2)) (aC (cj (.inr (intBits_le_64 (by decide) (by decide))) (by exact Du a3)) (aC (da (by decide) (by first|assumption|decide|rfl) (by first|assumption|(rw[Int.fdiv_eq_ediv_of_nonneg _ (by decide)];exact D1 a4))) (aC (aG (by decide) (by rw[Int.fmod_eq_emod_of_nonneg _ (by decide)];exact zu a5)) (aC (cj (.inr (intBits_le_64 (by decide) (by decide))) (by exact D0 e2 a4 a5)) (aC (da (by decide) (by first|assumption|decide|rfl) (by first|assumption|(rw[Int.fdiv_eq_ediv_of_nonneg _ (by decide)];exact DZ a6))) (aC (aG (by decide) (by rw[Int.fmod_eq_emod_of_nonneg _ (by decide)];exact DY e3 a6)) aN))))))))
 intro bT h1 N1 t1 Rp
 exact K _ _ _ _ _ _ _ _ Rp
theorem AL(x:W2)(A:Around)(hh:A.handled=none)(Q:Flow→Shared→Prop)(F cb cl:Addr)(c0 c1 c2 c3 c4 c5 sg sd bs:Int)(u0 u1 u2 u3 u4 u5 n ks kc:Nat)(h0:0≤c0)(hm:c0<2^26)(e1:1-c0/3%2*2=sg)(e2:c0/6%2*2=sd)(e3:c0/12%8=bs)
 (N t:Nat) (h:Heap) (gl d os) (rest:ae)
 (Rp:Rep x.B N h ((cl,an #[.int c0 u0,.int c1 u1,.int c2 u2,.int c3 u3,.int c4 u4,.int c5 u5] n)::(cb,iL none)::(F,bO [En x.B aq ks (.ref 288),En x.B aJ kc (.ref cl)] 2)::rest) 0)
 (K:∀h' N' t' k1 k2 v1 v2 v3,Rep x.B N' h' ((cl,an #[.int c0 u0,.int c1 u1,.int c2 u2,.int c3 u3,.int c4 u4,.int c5 u5] n)::(cb,iL (some (.int bs v3)))::(F,bO [En x.B aq ks (.ref 288),En x.B aJ kc (.ref cl),En x.B bw k1 (.int sg v1),En x.B bz k2 (.int sd v2)] 4)::rest) 0→wpAny (MB x.B) A (aj (am (fdOf x.B 287) |>.drop 3) (au x F cb)) Q (fun _ _=>False) ⟨h',gl,d,t',os⟩):
 wpAny (MB x.B) A (aj (am (fdOf x.B 287) |>.drop 2) (au x F cb)) Q (fun _ _=>False) ⟨h,gl,d,t,os⟩:=by
 dsimp only[bO,iL] at Rp
 obtain⟨q1,a1⟩:∃q,c0/3=q:=⟨_,rfl⟩
 obtain⟨q2,a2⟩:∃q,q1%2=q:=⟨_,rfl⟩
 obtain⟨q3,a3⟩:∃q,q2*2=q:=⟨_,rfl⟩
 obtain⟨q4,a4⟩:∃q,c0/6=q:=⟨_,rfl⟩
 obtain⟨q5,a5⟩:∃q,q4%2=q:=⟨_,rfl⟩
 obtain⟨q6,a6⟩:∃q,c0/12=q:=⟨_,rfl⟩
 obtain rfl:1-q3=sg:=by exact Dv e1 a1 a2 a3
 refine bS 1 ?_
 refine ab hh Rp [aI "int.__floordiv__" [.int (c0) u0,.int 3 (t+2)] (q1),aI "int.__mod__" [.int (q1) (t+3),.int 2 (t+4)] (q2),aI "int.__mul__" [.int (q2) (t+5),.int 2 (t+6)] (q3),aI "int.__floordiv__" [.int (c0) u0,.int 6 (t+10)] (q4),aI "int.__mod__" [.int (q4) (t+11),.int 2 (t+12)] (q5),aI "int.__mul__" [.int (q5) (t+13),.int 2 (t+14)] (sd),aI "int.__floordiv__" [.int (c0) u0,.int 12 (t+17)] (q6),aI "int.__mod__" [.int (q6) (t+18),.int 8 (t+19)] (bs)] 155 (dA 0x72c83083060861c61860460861c61860460861c61860460861c6186046186046186248186046186207185186046186201103086181186188) (dM 16) Flow.next [] [.k,.u fun _=>oC (some (.int (bs) (t+20))),.u (dU [] [En x.B bw (t+21) (.int (1-q3) (t+8)),En x.B bz (t+22) (.int (sd) (t+15))] 4)] 4 23 ?_ (aC (da (by decide) (by first|assumption|decide|rfl) (by first|assumption|(rw[Int.fdiv_eq_ediv_of_nonneg _ (by decide)];exact zv a1))) (aC (aG (by decide) (by rw[Int.fmod_eq_emod_of_nonneg _ (by decide)];exact zu a2)) (aC (cj (.inr (intBits_le_64 (by decide) (by decide))) (by exact Du a3)) (aC (da (by decide) (by first|assumption|decide|rfl) (by first|assumption|(rw[Int.fdiv_eq_ediv_of_nonneg _ (by decide)];exact D1 a4))) (aC (aG (by decide) (by rw[Int.fmod_eq_emod_of_nonneg _ (by decide)];exact zu a5)) (aC (cj (.inr (intBits_le_64 (by decide) (by decide))) (by exact D0 e2 a4 a5)) (aC (da (by decide) (by first|assumption|decide|rfl) (by first|assumption|(rw[Int.fdiv_eq_ediv_of_nonneg _ (by decide)];exact DZ a6))) (aC (aG (by decide) (by rw[Int.fmod_eq_emod_of_nonneg _ (by decide)];exact DY e3 a6)) aN))))))))
 intro bT h1 N1 t1 Rp
 exact K _ _ _ _ _ _ _ _ Rp
theorem AI(x:W2)(A:Around)(hh:A.handled=none)(Q:Flow→Shared→Prop)(F cb cl:Addr)(c0 c1 c2 c3 c4 c5 sg sd bs:Int)(u0 u1 u2 u3 u4 u5 n ks kc k1 k2 v1 v2 v3:Nat)(kp kd up ud:Nat)(P D:Int)(h0:0≤c0∧c0<2^26)(h1:0≤c1)(h2:0≤c2)(h3:0≤c3)(h4:0≤c4)(h5:0≤c5)
 (N t:Nat) (h:Heap) (gl d os) (rest:ae)
 (Rp:Rep x.B N h ((cl,an #[.int c0 u0,.int c1 u1,.int c2 u2,.int c3 u3,.int c4 u4,.int c5 u5] n)::(cb,iL (some (.int bs v3)))::(F,bO [En x.B aq ks (.ref 288),En x.B aJ kc (.ref cl),En x.B aA kp (.int P up),En x.B bF kd (.int D ud),En x.B bw k1 (.int sg v1),En x.B bz k2 (.int sd v2)] 6)::rest) 0)
 (K:∀h' N' t' wd td k3 k4 nw ws,ws.map (fun w=>(w.p,w.q))=dP c0 c1 c2 c3 c4 c5→Rep x.B N' h' ((td,an #[] 0)::(wd,fL ws nw)::(ws.reverse.map aZ++((cl,an #[.int c0 u0,.int c1 u1,.int c2 u2,.int c3 u3,.int c4 u4,.int c5 u5] n)::(cb,iL (some (.int bs v3)))::(F,bO [En x.B aq ks (.ref 288),En x.B aJ kc (.ref cl),En x.B aA kp (.int P up),En x.B bF kd (.int D ud),En x.B bw k1 (.int sg v1),En x.B bz k2 (.int sd v2),En x.B bu k3 (.ref wd),En x.B bv k4 (.ref td)] 8)::rest))) 0→wpAny (MB x.B) A (aj (am (fdOf x.B 287) |>.drop 5) (au x F cb)) Q (fun _ _=>False) ⟨h',gl,d,t',os⟩):
 wpAny (MB x.B) A (aj (am (fdOf x.B 287) |>.drop 3) (au x F cb)) Q (fun _ _=>False) ⟨h,gl,d,t,os⟩:=by
 dsimp only[bO,iL] at Rp
 rcases(by exact DX:c0%3=0∨c0%3=1∨c0%3=2) with e0|e0|e0
 ·refine bS 1 ?_
  refine aa hh Rp [aI "int.__mod__" [.int (c0) u0,.int 3 (t+3)] (0)] 66 (dA 0x1860461871861861870471c7042186046186208) (dM 63) (.compStart (fe x) 0 (.ref (N+2)) (.ref (N+3)) (dC x F cb (N+4))) [(N+4,oD #[] 0),(N+3,oL #[] 0),(N+2,oI "list_iterator" #[.ref (N+1),.int 0 0]),(N+1,oL #[.int (c1) u1,.int (c2) u2,.int (c3) u3] 0),(N+0,oI "slice" #[.int 1 (t+0),.int 4 (t+5),.none])] [] 5 6 ?_ (aC (aG (by decide) (by rw[Int.fmod_eq_emod_of_nonneg _ (by decide)];exact DW e0)) aN)
  intro eN h6 N6 t6 Rp j4
  refine bP (by rfl') Rp 2 rfl ?_
  refine vh x A hh _ F cb _ _ _ _ _ _ _ _ 0 c1 _ _ u1 (by rfl) h1 rfl rfl (by simp) _ _ _ _ _ _ _ Rp fun ju y7 wu qG pC x1 y1 xQ Rp=>?_
  refine lg x A hh _ F cb _ _ _ _ _ _ _ _ 1 c2 _ _ u2 (by rfl) h2 rfl rfl (by simp) pC _ _ _ _ _ _ _ _ _ Rp fun li y6 wt qF pB x2 y2 xP Rp=>?_
  refine lg x A hh _ F cb _ _ _ _ _ _ _ _ 2 c3 _ _ u3 (by rfl) h3 rfl rfl (by simp) pB _ _ _ _ _ _ _ _ _ Rp fun pZ y0 wr qE rr x3 y3 xO Rp=>?_
  refine af ?_
  refine ab hh Rp [] 27 (dA 0x6108248208048) (dM 4) (Fin.done Flow.next) [] [.k,.k,.d,.d,.k,.k,.k,.d] 2 0 ?_
  intro ie h7 N7 t7 Rp
  show wpAny ..
  refine ab hh Rp [] 24 (dA 0x218624d) [] Flow.next [] [.d,.k,.k,.k,.k,.k,.k,.u (dU [] [En x.B bu (t7+0) (.ref (N+3))] 7)] 0 1 ?_
  intro iG h8 N8 t8 Rp
  refine bS 1 ?_
  refine ab hh Rp [] 21 (dA 0x24d) (dM 3) Flow.next [(N8+0,oL #[] 0)] [.k,.k,.k,.k,.k,.k,.u (dU [] [En x.B bv (t8+0) (.ref (N8+0))] 8)] 1 1 ?_
  intro iM h9 N9 t9 Rp
  exact K _ _ _ _ _ _ _ _ [⟨qG,c1%3,x1,c1/3%19-9,y1⟩,⟨qF,c2%3,x2,c2/3%19-9,y2⟩,⟨qE,c3%3,x3,c3/3%19-9,y3⟩] (by simp[dP,wq,e0]) Rp
 ·refine bS 1 ?_
  refine aa hh Rp [aI "int.__mod__" [.int (c0) u0,.int 3 (t+3)] (1)] 66 (dA 0x1860461871861861870471c7042186046186208) (dM 63) (.compStart (fe x) 0 (.ref (N+2)) (.ref (N+3)) (dC x F cb (N+4))) [(N+4,oD #[] 0),(N+3,oL #[] 0),(N+2,oI "list_iterator" #[.ref (N+1),.int 0 0]),(N+1,oL #[.int (c1) u1,.int (c2) u2,.int (c3) u3,.int (c4) u4] 0),(N+0,oI "slice" #[.int 1 (t+0),.int 5 (t+5),.none])] [] 5 6 ?_ (aC (aG (by decide) (by rw[Int.fmod_eq_emod_of_nonneg _ (by decide)];exact DV e0)) aN)
  intro eN h6 N6 t6 Rp j4
  refine bP (by rfl') Rp 2 rfl ?_
  refine vh x A hh _ F cb _ _ _ _ _ _ _ _ 0 c1 _ _ u1 (by rfl) h1 rfl rfl (by simp) _ _ _ _ _ _ _ Rp fun ju y7 wu qG pC x1 y1 xQ Rp=>?_
  refine lg x A hh _ F cb _ _ _ _ _ _ _ _ 1 c2 _ _ u2 (by rfl) h2 rfl rfl (by simp) pC _ _ _ _ _ _ _ _ _ Rp fun li y6 wt qF pB x2 y2 xP Rp=>?_
  refine lg x A hh _ F cb _ _ _ _ _ _ _ _ 2 c3 _ _ u3 (by rfl) h3 rfl rfl (by simp) pB _ _ _ _ _ _ _ _ _ Rp fun pZ y0 wr qE rr x3 y3 xO Rp=>?_
  refine lg x A hh _ F cb _ _ _ _ _ _ _ _ 3 c4 _ _ u4 (by rfl) h4 rfl rfl (by simp) rr _ _ _ _ _ _ _ _ _ Rp fun B4 CJ An uZ wN x4 y4 BD Rp=>?_
  refine af ?_
  refine ab hh Rp [] 27 (dA 0x6108248208048) (dM 4) (Fin.done Flow.next) [] [.k,.k,.d,.d,.k,.k,.k,.k,.d] 2 0 ?_
  intro ie h7 N7 t7 Rp
  show wpAny ..
  refine ab hh Rp [] 24 (dA 0x218628e) [] Flow.next [] [.d,.k,.k,.k,.k,.k,.k,.k,.u (dU [] [En x.B bu (t7+0) (.ref (N+3))] 7)] 0 1 ?_
  intro iG h8 N8 t8 Rp
  refine bS 1 ?_
  refine ab hh Rp [] 21 (dA 0x28e) (dM 3) Flow.next [(N8+0,oL #[] 0)] [.k,.k,.k,.k,.k,.k,.k,.u (dU [] [En x.B bv (t8+0) (.ref (N8+0))] 8)] 1 1 ?_
  intro iM h9 N9 t9 Rp
  exact K _ _ _ _ _ _ _ _ [⟨qG,c1%3,x1,c1/3%19-9,y1⟩,⟨qF,c2%3,x2,c2/3%19-9,y2⟩,⟨qE,c3%3,x3,c3/3%19-9,y3⟩,⟨uZ,c4%3,x4,c4/3%19-9,y4⟩] (by simp[dP,wq,e0]) Rp
 ·refine bS 1 ?_
  refine aa hh Rp [aI "int.__mod__" [.int (c0) u0,.int 3 (t+3)] (2)] 66 (dA 0x1860461871861861870471c7042186046186208) (dM 63) (.compStart (fe x) 0 (.ref (N+2)) (.ref (N+3)) (dC x F cb (N+4))) [(N+4,oD #[] 0),(N+3,oL #[] 0),(N+2,oI "list_iterator" #[.ref (N+1),.int 0 0]),(N+1,oL #[.int (c1) u1,.int (c2) u2,.int (c3) u3,.int (c4) u4,.int (c5) u5] 0),(N+0,oI "slice" #[.int 1 (t+0),.int 6 (t+5),.none])] [] 5 6 ?_ (aC (aG (by decide) (by rw[Int.fmod_eq_emod_of_nonneg _ (by decide)];exact DU e0)) aN)
  intro eN h6 N6 t6 Rp j4
  refine bP (by rfl') Rp 2 rfl ?_
  refine vh x A hh _ F cb _ _ _ _ _ _ _ _ 0 c1 _ _ u1 (by rfl) h1 rfl rfl (by simp) _ _ _ _ _ _ _ Rp fun ju y7 wu qG pC x1 y1 xQ Rp=>?_
  refine lg x A hh _ F cb _ _ _ _ _ _ _ _ 1 c2 _ _ u2 (by rfl) h2 rfl rfl (by simp) pC _ _ _ _ _ _ _ _ _ Rp fun li y6 wt qF pB x2 y2 xP Rp=>?_
  refine lg x A hh _ F cb _ _ _ _ _ _ _ _ 2 c3 _ _ u3 (by rfl) h3 rfl rfl (by simp) pB _ _ _ _ _ _ _ _ _ Rp fun pZ y0 wr qE rr x3 y3 xO Rp=>?_
  refine lg x A hh _ F cb _ _ _ _ _ _ _ _ 3 c4 _ _ u4 (by rfl) h4 rfl rfl (by simp) rr _ _ _ _ _ _ _ _ _ Rp fun B4 CJ An uZ wN x4 y4 BD Rp=>?_
  refine lg x A hh _ F cb _ _ _ _ _ _ _ _ 4 c5 _ _ u5 (by rfl) h5 rfl rfl (by simp) wN _ _ _ _ _ _ _ _ _ Rp fun hw5 Nw5 tw5 CD qq5 x5 y5 nw5 Rp=>?_
  refine af ?_
  refine ab hh Rp [] 27 (dA 0x6108248208048) (dM 4) (Fin.done Flow.next) [] [.k,.k,.d,.d,.k,.k,.k,.k,.k,.d] 2 0 ?_
  intro ie h7 N7 t7 Rp
  show wpAny ..
  refine ab hh Rp [] 24 (dA 0x21862cf) [] Flow.next [] [.d,.k,.k,.k,.k,.k,.k,.k,.k,.u (dU [] [En x.B bu (t7+0) (.ref (N+3))] 7)] 0 1 ?_
  intro iG h8 N8 t8 Rp
  refine bS 1 ?_
  refine ab hh Rp [] 21 (dA 0x2cf) (dM 3) Flow.next [(N8+0,oL #[] 0)] [.k,.k,.k,.k,.k,.k,.k,.k,.u (dU [] [En x.B bv (t8+0) (.ref (N8+0))] 8)] 1 1 ?_
  intro iM h9 N9 t9 Rp
  exact K _ _ _ _ _ _ _ _ [⟨qG,c1%3,x1,c1/3%19-9,y1⟩,⟨qF,c2%3,x2,c2/3%19-9,y2⟩,⟨qE,c3%3,x3,c3/3%19-9,y3⟩,⟨uZ,c4%3,x4,c4/3%19-9,y4⟩,⟨CD,c5%3,x5,c5/3%19-9,y5⟩] (by simp[dP,wq,e0]) Rp
theorem AJ(x:W2)(A:Around)(hh:A.handled=none)(Q:Flow→Shared→Prop)(F cb cl:Addr)(c0 c1 c2 c3 c4 c5 sg sd bs:Int)(u0 u1 u2 u3 u4 u5 n ks kc k1 k2 v1 v2 v3:Nat)(h0:0≤c0∧c0<2^26)(h1:0≤c1)(h2:0≤c2)(h3:0≤c3)(h4:0≤c4)(h5:0≤c5)
 (N t:Nat) (h:Heap) (gl d os) (rest:ae)
 (Rp:Rep x.B N h ((cl,an #[.int c0 u0,.int c1 u1,.int c2 u2,.int c3 u3,.int c4 u4,.int c5 u5] n)::(cb,iL (some (.int bs v3)))::(F,bO [En x.B aq ks (.ref 288),En x.B aJ kc (.ref cl),En x.B bw k1 (.int sg v1),En x.B bz k2 (.int sd v2)] 4)::rest) 0)
 (K:∀h' N' t' wd td k3 k4 nw ws,ws.map (fun w=>(w.p,w.q))=dP c0 c1 c2 c3 c4 c5→Rep x.B N' h' ((td,an #[] 0)::(wd,fL ws nw)::(ws.reverse.map aZ++((cl,an #[.int c0 u0,.int c1 u1,.int c2 u2,.int c3 u3,.int c4 u4,.int c5 u5] n)::(cb,iL (some (.int bs v3)))::(F,bO [En x.B aq ks (.ref 288),En x.B aJ kc (.ref cl),En x.B bw k1 (.int sg v1),En x.B bz k2 (.int sd v2),En x.B bu k3 (.ref wd),En x.B bv k4 (.ref td)] 6)::rest))) 0→wpAny (MB x.B) A (aj (am (fdOf x.B 287) |>.drop 5) (au x F cb)) Q (fun _ _=>False) ⟨h',gl,d,t',os⟩):
 wpAny (MB x.B) A (aj (am (fdOf x.B 287) |>.drop 3) (au x F cb)) Q (fun _ _=>False) ⟨h,gl,d,t,os⟩:=by
 dsimp only[bO,iL] at Rp
 rcases(by exact DX:c0%3=0∨c0%3=1∨c0%3=2) with e0|e0|e0
 ·refine bS 1 ?_
  refine aa hh Rp [aI "int.__mod__" [.int (c0) u0,.int 3 (t+3)] (0)] 66 (dA 0x1860461871861861870471c7042186046186208) (dM 63) (.compStart (fe x) 0 (.ref (N+2)) (.ref (N+3)) (dC x F cb (N+4))) [(N+4,oD #[] 0),(N+3,oL #[] 0),(N+2,oI "list_iterator" #[.ref (N+1),.int 0 0]),(N+1,oL #[.int (c1) u1,.int (c2) u2,.int (c3) u3] 0),(N+0,oI "slice" #[.int 1 (t+0),.int 4 (t+5),.none])] [] 5 6 ?_ (aC (aG (by decide) (by rw[Int.fmod_eq_emod_of_nonneg _ (by decide)];exact DW e0)) aN)
  intro eN h6 N6 t6 Rp j4
  refine bP (by rfl') Rp 2 rfl ?_
  refine vh x A hh _ F cb _ _ _ _ _ _ _ _ 0 c1 _ _ u1 (by rfl) h1 rfl rfl (by simp) _ _ _ _ _ _ _ Rp fun ju y7 wu qG pC x1 y1 xQ Rp=>?_
  refine lg x A hh _ F cb _ _ _ _ _ _ _ _ 1 c2 _ _ u2 (by rfl) h2 rfl rfl (by simp) pC _ _ _ _ _ _ _ _ _ Rp fun li y6 wt qF pB x2 y2 xP Rp=>?_
  refine lg x A hh _ F cb _ _ _ _ _ _ _ _ 2 c3 _ _ u3 (by rfl) h3 rfl rfl (by simp) pB _ _ _ _ _ _ _ _ _ Rp fun pZ y0 wr qE rr x3 y3 xO Rp=>?_
  refine af ?_
  refine ab hh Rp [] 27 (dA 0x6108248208048) (dM 4) (Fin.done Flow.next) [] [.k,.k,.d,.d,.k,.k,.k,.d] 2 0 ?_
  intro ie h7 N7 t7 Rp
  show wpAny ..
  refine ab hh Rp [] 24 (dA 0x218624d) [] Flow.next [] [.d,.k,.k,.k,.k,.k,.k,.u (dU [] [En x.B bu (t7+0) (.ref (N+3))] 5)] 0 1 ?_
  intro iG h8 N8 t8 Rp
  refine bS 1 ?_
  refine ab hh Rp [] 21 (dA 0x24d) (dM 3) Flow.next [(N8+0,oL #[] 0)] [.k,.k,.k,.k,.k,.k,.u (dU [] [En x.B bv (t8+0) (.ref (N8+0))] 6)] 1 1 ?_
  intro iM h9 N9 t9 Rp
  exact K _ _ _ _ _ _ _ _ [⟨qG,c1%3,x1,c1/3%19-9,y1⟩,⟨qF,c2%3,x2,c2/3%19-9,y2⟩,⟨qE,c3%3,x3,c3/3%19-9,y3⟩] (by simp[dP,wq,e0]) Rp
 ·refine bS 1 ?_
  refine aa hh Rp [aI "int.__mod__" [.int (c0) u0,.int 3 (t+3)] (1)] 66 (dA 0x1860461871861861870471c7042186046186208) (dM 63) (.compStart (fe x) 0 (.ref (N+2)) (.ref (N+3)) (dC x F cb (N+4))) [(N+4,oD #[] 0),(N+3,oL #[] 0),(N+2,oI "list_iterator" #[.ref (N+1),.int 0 0]),(N+1,oL #[.int (c1) u1,.int (c2) u2,.int (c3) u3,.int (c4) u4] 0),(N+0,oI "slice" #[.int 1 (t+0),.int 5 (t+5),.none])] [] 5 6 ?_ (aC (aG (by decide) (by rw[Int.fmod_eq_emod_of_nonneg _ (by decide)];exact DV e0)) aN)
  intro eN h6 N6 t6 Rp j4
  refine bP (by rfl') Rp 2 rfl ?_
  refine vh x A hh _ F cb _ _ _ _ _ _ _ _ 0 c1 _ _ u1 (by rfl) h1 rfl rfl (by simp) _ _ _ _ _ _ _ Rp fun ju y7 wu qG pC x1 y1 xQ Rp=>?_
  refine lg x A hh _ F cb _ _ _ _ _ _ _ _ 1 c2 _ _ u2 (by rfl) h2 rfl rfl (by simp) pC _ _ _ _ _ _ _ _ _ Rp fun li y6 wt qF pB x2 y2 xP Rp=>?_
  refine lg x A hh _ F cb _ _ _ _ _ _ _ _ 2 c3 _ _ u3 (by rfl) h3 rfl rfl (by simp) pB _ _ _ _ _ _ _ _ _ Rp fun pZ y0 wr qE rr x3 y3 xO Rp=>?_
  refine lg x A hh _ F cb _ _ _ _ _ _ _ _ 3 c4 _ _ u4 (by rfl) h4 rfl rfl (by simp) rr _ _ _ _ _ _ _ _ _ Rp fun B4 CJ An uZ wN x4 y4 BD Rp=>?_
  refine af ?_
  refine ab hh Rp [] 27 (dA 0x6108248208048) (dM 4) (Fin.done Flow.next) [] [.k,.k,.d,.d,.k,.k,.k,.k,.d] 2 0 ?_
  intro ie h7 N7 t7 Rp
  show wpAny ..
  refine ab hh Rp [] 24 (dA 0x218628e) [] Flow.next [] [.d,.k,.k,.k,.k,.k,.k,.k,.u (dU [] [En x.B bu (t7+0) (.ref (N+3))] 5)] 0 1 ?_
  intro iG h8 N8 t8 Rp
  refine bS 1 ?_
  refine ab hh Rp [] 21 (dA 0x28e) (dM 3) Flow.next [(N8+0,oL #[] 0)] [.k,.k,.k,.k,.k,.k,.k,.u (dU [] [En x.B bv (t8+0) (.ref (N8+0))] 6)] 1 1 ?_
  intro iM h9 N9 t9 Rp
  exact K _ _ _ _ _ _ _ _ [⟨qG,c1%3,x1,c1/3%19-9,y1⟩,⟨qF,c2%3,x2,c2/3%19-9,y2⟩,⟨qE,c3%3,x3,c3/3%19-9,y3⟩,⟨uZ,c4%3,x4,c4/3%19-9,y4⟩] (by simp[dP,wq,e0]) Rp
 ·refine bS 1 ?_
  refine aa hh Rp [aI "int.__mod__" [.int (c0) u0,.int 3 (t+3)] (2)] 66 (dA 0x1860461871861861870471c7042186046186208) (dM 63) (.compStart (fe x) 0 (.ref (N+2)) (.ref (N+3)) (dC x F cb (N+4))) [(N+4,oD #[] 0),(N+3,oL #[] 0),(N+2,oI "list_iterator" #[.ref (N+1),.int 0 0]),(N+1,oL #[.int (c1) u1,.int (c2) u2,.int (c3) u3,.int (c4) u4,.int (c5) u5] 0),(N+0,oI "slice" #[.int 1 (t+0),.int 6 (t+5),.none])] [] 5 6 ?_ (aC (aG (by decide) (by rw[Int.fmod_eq_emod_of_nonneg _ (by decide)];exact DU e0)) aN)
  intro eN h6 N6 t6 Rp j4
  refine bP (by rfl') Rp 2 rfl ?_
  refine vh x A hh _ F cb _ _ _ _ _ _ _ _ 0 c1 _ _ u1 (by rfl) h1 rfl rfl (by simp) _ _ _ _ _ _ _ Rp fun ju y7 wu qG pC x1 y1 xQ Rp=>?_
  refine lg x A hh _ F cb _ _ _ _ _ _ _ _ 1 c2 _ _ u2 (by rfl) h2 rfl rfl (by simp) pC _ _ _ _ _ _ _ _ _ Rp fun li y6 wt qF pB x2 y2 xP Rp=>?_
  refine lg x A hh _ F cb _ _ _ _ _ _ _ _ 2 c3 _ _ u3 (by rfl) h3 rfl rfl (by simp) pB _ _ _ _ _ _ _ _ _ Rp fun pZ y0 wr qE rr x3 y3 xO Rp=>?_
  refine lg x A hh _ F cb _ _ _ _ _ _ _ _ 3 c4 _ _ u4 (by rfl) h4 rfl rfl (by simp) rr _ _ _ _ _ _ _ _ _ Rp fun B4 CJ An uZ wN x4 y4 BD Rp=>?_
  refine lg x A hh _ F cb _ _ _ _ _ _ _ _ 4 c5 _ _ u5 (by rfl) h5 rfl rfl (by simp) wN _ _ _ _ _ _ _ _ _ Rp fun hw5 Nw5 tw5 CD qq5 x5 y5 nw5 Rp=>?_
  refine af ?_
  refine ab hh Rp [] 27 (dA 0x6108248208048) (dM 4) (Fin.done Flow.next) [] [.k,.k,.d,.d,.k,.k,.k,.k,.k,.d] 2 0 ?_
  intro ie h7 N7 t7 Rp
  show wpAny ..
  refine ab hh Rp [] 24 (dA 0x21862cf) [] Flow.next [] [.d,.k,.k,.k,.k,.k,.k,.k,.k,.u (dU [] [En x.B bu (t7+0) (.ref (N+3))] 5)] 0 1 ?_
  intro iG h8 N8 t8 Rp
  refine bS 1 ?_
  refine ab hh Rp [] 21 (dA 0x2cf) (dM 3) Flow.next [(N8+0,oL #[] 0)] [.k,.k,.k,.k,.k,.k,.k,.k,.u (dU [] [En x.B bv (t8+0) (.ref (N8+0))] 6)] 1 1 ?_
  intro iM h9 N9 t9 Rp
  exact K _ _ _ _ _ _ _ _ [⟨qG,c1%3,x1,c1/3%19-9,y1⟩,⟨qF,c2%3,x2,c2/3%19-9,y2⟩,⟨qE,c3%3,x3,c3/3%19-9,y3⟩,⟨uZ,c4%3,x4,c4/3%19-9,y4⟩,⟨CD,c5%3,x5,c5/3%19-9,y5⟩] (by simp[dP,wq,e0]) Rp
noncomputable def n5(x:W2):Stmt:=ah x.B 287 5
noncomputable def gI(x:W2):Expr:=me ((kP (ah x.B 287 5)).headD default)
noncomputable def eC(x:W2)(F cb C:Addr):Env:=fc (au x F cb) (gI x) C [(pI,cb)]
theorem nR(x:W2)(A:Around)(hh:A.handled=none)(hA:A.depth<900)(R:Result→Shared→Prop)(k k' S:Int)(sb:UInt64)(hs:fl S=sb)(aO:0≤k)(hk:k<2^21)(rT:k%2^20=k')(hS:bg S)
 (ta tb tc:Nat) (N t:Nat) (h:Heap) (gl d os) (rest:ae) (Rp:Rep x.B N h rest 0)
 (K:∀h' N' t' a r g b,b7 k' S r g b→Rep x.B N' h' ((a,cq r g b)::rest) 0→R (.ok (.ret (.ref a))) ⟨h',gl,d,t',os⟩):
 codeAny (MB x.B) A (.call (.ref 101) ⟨[.float (fl (16*k)) ta,.float sb tb,.int 1 tc],[]⟩) R ⟨h,gl,d,t,os⟩:=by
 subst hs
 exact p4 x A hh hA R k k' S aO hk rT hS ta tb tc N t h gl d os rest Rp K
theorem wO{a b c d e f g:Addr×Obj}{r:ae}:(a::b::c::d::e::f::g::r).Perm (e::g::f::a::b::c::d::r):=
 (List.perm_middle (l₁:=[a,b,c,d])).trans (.cons _ ((List.perm_middle (l₁:=[a,b,c,d,f])).trans (.cons _ (List.perm_middle (l₁:=[a,b,c,d])))))
theorem ec(x:W2)(A:Around)(hh:A.handled=none)(hA:A.depth<320)(R:Result→Shared→Prop)(F cb C cD it d5:Addr)(bs:Int)(v3 w0 w1 w2 w3:Nat)(h0:0≤bs)(h8:bs<8)
 (N t:Nat) (h:Heap) (gl d os) (rest:ae)
 (Rp:Rep x.B N h ((C,⟨.type "dict",none,.dict #[] 0,#[]⟩)::(cD,an #[] 0)::(it,ki d5 0)::(d5,⟨.type "tuple",none,.seq #[.int 0 w0,.int 0 w1,.int 1 w2,.int 1 w3] 0,#[]⟩)::(cb,iL (some (.int bs v3)))::rest) 0)
 (K:∀h' N' t' q0 hv hu n cs,Ends ⟨bs+1,bs+1,bs,bs,2^24,2^24,2^23,2^23⟩ cD n cs→Rep x.B N' h' ((C,⟨.type "dict",none,.dict #[En x.B pH q0 (.int hv hu)] 1,#[]⟩)::(cb,iL (some (.int bs v3)))::(cs++rest)) 0→R (.ok .next) ⟨h',gl,d,t',os⟩):
 codeAny (MB x.B) A (.compLoop (gI x) 0 (.ref it) (.ref cD) (eC x F cb C)) R ⟨h,gl,d,t,os⟩:=by
 dsimp only[iL] at Rp
 refine af ?_
 refine aa hh Rp [aI "int.__pow__" [.int 2 (t+4),.int 20 (t+5)] (1048576),aF "int.__truediv__" [.int (bs+1-0) (t+3),.int 1048576 (t+6)] (16*(bs+1))] 69 (dA 0x1041183081181281086108248208048) [] (cR 101 [.float (fl (16*(bs+1))) (t+7),.float 4607182418800017408 (t+11),.int 1 (t+12)]) [] [.u fun _=>oD #[En x.B pH (t+0) (.int 0 w0)] 1,.k,.u fun _=>oI "tuple_iterator" #[.ref d5,.int 1 0]] 0 13 ?_ (aC (aS (by decide) (by decide) (by decide) (by decide)) (aC (df (by decide) (by exact DT h0 h8) (by exact DS)) aN))
 intro bT h1 N1 t1 Rp eE
 refine nR x (A.under _) hh (by show A.depth+0<900;exact zt hA) _ (bs+1) (bs+1) (2^24) _ (by rfl') (by exact zs h0) (by exact DR h8) (by exact DQ h0 h8) (.inl rfl) _ _ _ _ _ _ _ _ _ _ Rp fun he1 Ne1 te1 Af r1 g1 b1 gw Rp=>?_
 refine ab hh Rp [] 19 (dA 0x8108201) [] (Fin.again (.compLoop (gI x) 0 (.ref it) (.ref cD) (eC x F cb C))) [] [.k,.k,.u fun _=>oL #[.ref Af] 1] 0 0 ?_
 intro bW h2 N2 t2 Rp
 refine⟨rfl,?_⟩
 refine af ?_
 refine aa hh Rp [aI "int.__pow__" [.int 2 (t2+4),.int 20 (t2+5)] (1048576),aF "int.__truediv__" [.int (bs+1-0) (t2+3),.int 1048576 (t2+6)] (16*(bs+1))] 69 (dA 0x10411c30811c12c10c7149289249049) [] (cR 101 [.float (fl (16*(bs+1))) (t2+7),.float 4607182418800017408 (t2+11),.int 1 (t2+12)]) [] [.k,.u (dU [(0,.int 0 w1)] [] 1),.k,.u fun _=>oI "tuple_iterator" #[.ref d5,.int 2 0]] 0 13 ?_ (aC (aS (by decide) (by decide) (by decide) (by decide)) (aC (df (by decide) (by exact DT h0 h8) (by exact DS)) aN))
 intro cC h3 N3 t3 Rp eD
 refine nR x (A.under _) hh (by show A.depth+0<900;exact zt hA) _ (bs+1) (bs+1) (2^24) _ (by rfl') (by exact zs h0) (by exact DR h8) (by exact DQ h0 h8) (.inl rfl) _ _ _ _ _ _ _ _ _ _ Rp fun he2 Ne2 te2 CF r2 g2 b2 qZ Rp=>?_
 refine ab hh Rp [] 19 (dA 0x9149241) [] (Fin.again (.compLoop (gI x) 0 (.ref it) (.ref cD) (eC x F cb C))) [] [.k,.k,.k,.u fun _=>oL #[.ref Af,.ref CF] 2] 0 0 ?_
 intro db h4 N4 t4 Rp
 refine⟨rfl,?_⟩
 refine af ?_
 refine aa hh Rp [aI "int.__pow__" [.int 2 (t4+4),.int 20 (t4+5)] (1048576),aF "int.__truediv__" [.int (bs+1-1) (t4+3),.int 1048576 (t4+6)] (16*bs)] 69 (dA 0x104120308120130110818a2ca28a04a) [] (cR 101 [.float (fl (16*bs)) (t4+7),.float 4602678819172646912 (t4+11),.int 1 (t4+12)]) [] [.k,.k,.u (dU [(0,.int 1 w2)] [] 1),.k,.u fun _=>oI "tuple_iterator" #[.ref d5,.int 3 0]] 0 13 ?_ (aC (aS (by decide) (by decide) (by decide) (by decide)) (aC (df (by decide) (by exact DP h0 h8) (by exact DO)) aN))
 intro dv h5 N5 t5 Rp mU
 refine nR x (A.under _) hh (by show A.depth+0<900;exact zt hA) _ bs bs (2^23) _ (by rfl') (by exact fn h0) (by exact DN h8) (by exact DM h0 h8) (.inr rfl) _ _ _ _ _ _ _ _ _ _ Rp fun he3 Ne3 te3 GA r3 g3 b3 Cj Rp=>?_
 refine ab hh Rp [] 19 (dA 0xa18a281) [] (Fin.again (.compLoop (gI x) 0 (.ref it) (.ref cD) (eC x F cb C))) [] [.k,.k,.k,.k,.u fun _=>oL #[.ref Af,.ref CF,.ref GA] 3] 0 0 ?_
 intro eN h6 N6 t6 Rp
 refine⟨rfl,?_⟩
 refine af ?_
 refine aa hh Rp [aI "int.__pow__" [.int 2 (t6+4),.int 20 (t6+5)] (1048576),aF "int.__truediv__" [.int (bs+1-1) (t6+3),.int 1048576 (t6+6)] (16*bs)] 69 (dA 0x10412430812413411491cb30b2cb04b) [] (cR 101 [.float (fl (16*bs)) (t6+7),.float 4602678819172646912 (t6+11),.int 1 (t6+12)]) [] [.k,.k,.k,.u (dU [(0,.int 1 w3)] [] 1),.k,.u fun _=>oI "tuple_iterator" #[.ref d5,.int 4 0]] 0 13 ?_ (aC (aS (by decide) (by decide) (by decide) (by decide)) (aC (df (by decide) (by exact DP h0 h8) (by exact DO)) aN))
 intro ie h7 N7 t7 Rp sT
 refine nR x (A.under _) hh (by show A.depth+0<900;exact zt hA) _ bs bs (2^23) _ (by rfl') (by exact fn h0) (by exact DN h8) (by exact DM h0 h8) (.inr rfl) _ _ _ _ _ _ _ _ _ _ Rp fun he4 Ne4 te4 ae4 r4 g4 b4 hc4 Rp=>?_
 refine ab hh Rp [] 19 (dA 0xb1cb2c1) [] (Fin.again (.compLoop (gI x) 0 (.ref it) (.ref cD) (eC x F cb C))) [] [.k,.k,.k,.k,.k,.u fun _=>oL #[.ref Af,.ref CF,.ref GA,.ref ae4] 4] 0 0 ?_
 intro iM h9 N9 t9 Rp
 refine⟨rfl,?_⟩
 refine af ?_
 refine ab hh Rp [] 27 (dA 0x620c34c30c04c) (dM 4) (Fin.done Flow.next) [] [.k,.k,.k,.k,.k,.k,.d,.d] 2 0 ?_
 intro iN lX mo fh Rp
 exact K _ _ _ _ _ _ _ _ ⟨_,_,_,_,_,_,_,_,_,_,_,_,_,_,_,_,gw,qZ,Cj,hc4,rfl⟩ (Rp.perm (((List.reverse_perm [_,_,_,_]).append_right _).trans wO))
noncomputable abbrev qo(x:W2)(ks kc:Nat)(cl:Addr)(k1:Nat)(sg:Int)(v1 k2:Nat)(sd:Int)(v2 k3:Nat)(wd:Addr)(k4:Nat)(td:Addr)(k5:Nat)(rn:Addr)(k6:Nat)(el:Addr)(k7:Nat)(CN:Int)(v7 kd:Nat)(D:Int)(ud kp:Nat)(P:Int)(up:Nat)(l:List DictEntry)(n:Nat)(sl:Array (Option Value)):Obj:=
 iC (List.toArray (En x.B aq ks (.ref 288)::En x.B aJ kc (.ref cl)::En x.B aA kp (.int P up)::En x.B bF kd (.int D ud)::En x.B bw k1 (.int sg v1)::En x.B bz k2 (.int sd v2)::En x.B bu k3 (.ref wd)::En x.B bv k4 (.ref td)::En x.B cP k5 (.ref rn)::En x.B bi k6 (.ref el)::En x.B bl k7 (.int CN v7)::l)) n sl
noncomputable abbrev Ad(x:W2)(ks kc:Nat)(cl:Addr)(k1:Nat)(sg:Int)(v1 k2:Nat)(sd:Int)(v2 k3:Nat)(wd:Addr)(k4:Nat)(td:Addr)(k5:Nat)(rn:Addr)(k6:Nat)(el:Addr)(k7:Nat)(CN:Int)(v7 kp:Nat)(P:Int)(up:Nat)(l:List DictEntry)(n:Nat)(sl:Array (Option Value)):Obj:=
 iC (List.toArray (En x.B aq ks (.ref 288)::En x.B aJ kc (.ref cl)::En x.B bw k1 (.int sg v1)::En x.B bz k2 (.int sd v2)::En x.B bu k3 (.ref wd)::En x.B bv k4 (.ref td)::En x.B cP k5 (.ref rn)::En x.B bi k6 (.ref el)::En x.B aA kp (.int P up)::En x.B bl k7 (.int CN v7)::l)) n sl
noncomputable abbrev eQ(bb:Bool)(x:W2)(ks kc:Nat)(cl:Addr)(k1:Nat)(sg:Int)(v1 k2:Nat)(sd:Int)(v2 k3:Nat)(wd:Addr)(k4:Nat)(td:Addr)(k5:Nat)(rn:Addr)(k6:Nat)(el:Addr)(k7:Nat)(CN:Int)(v7 kd:Nat)(D:Int)(ud kp:Nat)(P:Int)(up:Nat)(l:List DictEntry)(n:Nat)(sl:Array (Option Value)):Obj:=cond bb (qo x ks kc cl k1 sg v1 k2 sd v2 k3 wd k4 td k5 rn k6 el k7 CN v7 kd D ud kp P up l n sl) (Ad x ks kc cl k1 sg v1 k2 sd v2 k3 wd k4 td k5 rn k6 el k7 CN v7 kp P up l n sl)
noncomputable abbrev fY(x:W2)(k8:Nat)(b:Addr)(k9 v9 bB:Nat)(ll:Addr)(bU:Nat)(pc:Addr)(bV:Nat)(o:Addr)(l:List DictEntry):List DictEntry:=
 En x.B aM k8 (.ref b)::En x.B bH k9 (.int 0 v9)::En x.B br bB (.ref ll)::En x.B cr bU (.ref pc)::En x.B cS bV (.ref o)::l
noncomputable def j6(x:W2):Stmt:=((kP (ah x.B 287 5)).drop 1).headD default
theorem BP(x:W2)(A:Around)(hh:A.handled=none)(hA:A.depth<320)(R:Result→Shared→Prop)(F cb it a:Addr)(ks kc k1 k2 k3 k4 k5 k6 v1 v2:Nat)(sg sd:Int)(cl wd td rn el:Addr)(kp kd up ud:Nat)(P D:Int)(items:Array Value)(nw j:Nat)(p q:Int)(u v:Nat)(hj:items[j]? =some (.ref a))(iK:0≤p)(hp:p≤2)(hq:-(2^37)≤q)(ug:q≤2^37)(c:C4)(hc:c.Ok)(ne:Nat)(cs:ae)(E:Ends c el ne cs)
 (N t:Nat) (h:Heap) (gl d os) (rest:ae)
 (Rp:Rep x.B N h ((it,aD rn (j:Int))::(rn,an items nw)::(F,bO [En x.B aq ks (.ref 288),En x.B aJ kc (.ref cl),En x.B aA kp (.int P up),En x.B bF kd (.int D ud),En x.B bw k1 (.int sg v1),En x.B bz k2 (.int sd v2),En x.B bu k3 (.ref wd),En x.B bv k4 (.ref td),En x.B cP k5 (.ref rn),En x.B bi k6 (.ref el)] 10)::(a,jl p u q v)::(cs++rest)) 0)
 (K:∀h' N' t' kp up P k7 v7 CN be,Ends (c.tw p q) el ne be→Rep x.B N' h' ((it,aD rn ((j+1:Nat):Int))::(rn,an items nw)::(F,bO [En x.B aq ks (.ref 288),En x.B aJ kc (.ref cl),En x.B aA kp (.int P up),En x.B bF kd (.int D ud),En x.B bw k1 (.int sg v1),En x.B bz k2 (.int sd v2),En x.B bu k3 (.ref wd),En x.B bv k4 (.ref td),En x.B cP k5 (.ref rn),En x.B bi k6 (.ref el),En x.B bl k7 (.int CN v7)] 11)::(a,jl p u q v)::(be++rest)) 0→codeAny (MB x.B) A (ai (j6 x) (.ref it) (au x F cb)) R ⟨h',gl,d,t',os⟩):
 codeAny (MB x.B) A (ai (j6 x) (.ref it) (au x F cb)) R ⟨h,gl,d,t,os⟩:=by
 dsimp only[bO] at Rp
 refine af ?_
 refine aa hh Rp [] 13 (dA 0x6) [] (cB "list_iterator.__next__" [.ref it]) [] [] 0 0 ?_
 intro bT h1 N1 t1 Rp eE
 refine b6 Rp 0 1 rfl rfl hj rfl fun gH Rp=>?_
 try dsimp only[bm] at Rp
 refine aa hh Rp [] 83 (dA 0x12cb2c11cb1cb18218a18618118218a18618118218a186181186241249246) (dM 8) (cR 277 [.ref el,.int (p) u,.int (q) v]) [] [.k,.k,.u (dU [(2,.int (p) u)] [En x.B bl (t1+1) (.int (q) v)] 11)] 3 2 ?_
 intro bW h2 N2 t2 Rp dK
 refine gL x (A.under _) hh (by show A.depth+0<440;exact zr hA) _ c hc p q iK hp hq ug el ne cs E _ _ _ _ _ _ _ _ [_,_,_,_] rest Rp fun h' N' t' be E' Rp=>?_
 have Rp:Rep x.B N' h' (_::_::_::_::(be++rest)) 0:=Rp
 refine ab hh Rp [] 19 (dA 0x108) [] (Fin.again (ai (j6 x) (.ref it) (au x F cb))) [] [.k,.k,.u (dU [] [] 11)] 0 1 ?_
 intro cC h3 N3 t3 Rp
 exact⟨rfl,K _ _ _ _ _ _ _ _ _ _ E' Rp⟩
theorem BN(x:W2)(A:Around)(hh:A.handled=none)(hA:A.depth<320)(R:Result→Shared→Prop)(F cb it a:Addr)(ks kc k1 k2 k3 k4 k5 k6 v1 v2:Nat)(sg sd:Int)(cl wd td rn el:Addr)(kp kd up ud:Nat)(P D:Int)(k7 v7:Nat)(CN:Int)(items:Array Value)(nw j:Nat)(p q:Int)(u v:Nat)(hj:items[j]? =some (.ref a))(iK:0≤p)(hp:p≤2)(hq:-(2^37)≤q)(ug:q≤2^37)(c:C4)(hc:c.Ok)(ne:Nat)(cs:ae)(E:Ends c el ne cs)
 (N t:Nat) (h:Heap) (gl d os) (rest:ae)
 (Rp:Rep x.B N h ((it,aD rn (j:Int))::(rn,an items nw)::(F,bO [En x.B aq ks (.ref 288),En x.B aJ kc (.ref cl),En x.B aA kp (.int P up),En x.B bF kd (.int D ud),En x.B bw k1 (.int sg v1),En x.B bz k2 (.int sd v2),En x.B bu k3 (.ref wd),En x.B bv k4 (.ref td),En x.B cP k5 (.ref rn),En x.B bi k6 (.ref el),En x.B bl k7 (.int CN v7)] 11)::(a,jl p u q v)::(cs++rest)) 0)
 (K:∀h' N' t' kp up P k7 v7 CN be,Ends (c.tw p q) el ne be→Rep x.B N' h' ((it,aD rn ((j+1:Nat):Int))::(rn,an items nw)::(F,bO [En x.B aq ks (.ref 288),En x.B aJ kc (.ref cl),En x.B aA kp (.int P up),En x.B bF kd (.int D ud),En x.B bw k1 (.int sg v1),En x.B bz k2 (.int sd v2),En x.B bu k3 (.ref wd),En x.B bv k4 (.ref td),En x.B cP k5 (.ref rn),En x.B bi k6 (.ref el),En x.B bl k7 (.int CN v7)] 11)::(a,jl p u q v)::(be++rest)) 0→codeAny (MB x.B) A (ai (j6 x) (.ref it) (au x F cb)) R ⟨h',gl,d,t',os⟩):
 codeAny (MB x.B) A (ai (j6 x) (.ref it) (au x F cb)) R ⟨h,gl,d,t,os⟩:=by
 dsimp only[bO] at Rp
 refine af ?_
 refine aa hh Rp [] 13 (dA 0x6) [] (cB "list_iterator.__next__" [.ref it]) [] [] 0 0 ?_
 intro bT h1 N1 t1 Rp eE
 refine b6 Rp 0 1 rfl rfl hj rfl fun gH Rp=>?_
 try dsimp only[bm] at Rp
 refine aa hh Rp [] 83 (dA 0x12cb2c11cb1cb18218a18618118218a18618118218a186181186241249246) (dM 8) (cR 277 [.ref el,.int (p) u,.int (q) v]) [] [.k,.k,.u (dU [(2,.int (p) u),(10,.int (q) v)] [] 11)] 3 2 ?_
 intro bW h2 N2 t2 Rp dK
 refine gL x (A.under _) hh (by show A.depth+0<440;exact zr hA) _ c hc p q iK hp hq ug el ne cs E _ _ _ _ _ _ _ _ [_,_,_,_] rest Rp fun h' N' t' be E' Rp=>?_
 have Rp:Rep x.B N' h' (_::_::_::_::(be++rest)) 0:=Rp
 refine ab hh Rp [] 19 (dA 0x108) [] (Fin.again (ai (j6 x) (.ref it) (au x F cb))) [] [.k,.k,.u (dU [] [] 11)] 0 1 ?_
 intro cC h3 N3 t3 Rp
 exact⟨rfl,K _ _ _ _ _ _ _ _ _ _ E' Rp⟩
theorem BQ(x:W2)(A:Around)(hh:A.handled=none)(hA:A.depth<320)(R:Result→Shared→Prop)(F cb it a:Addr)(ks kc k1 k2 k3 k4 k5 k6 v1 v2:Nat)(sg sd:Int)(cl wd td rn el:Addr)(items:Array Value)(nw j:Nat)(p q:Int)(u v:Nat)(hj:items[j]? =some (.ref a))(iK:0≤p)(hp:p≤2)(hq:-(2^37)≤q)(ug:q≤2^37)(c:C4)(hc:c.Ok)(ne:Nat)(cs:ae)(E:Ends c el ne cs)
 (N t:Nat) (h:Heap) (gl d os) (rest:ae)
 (Rp:Rep x.B N h ((it,aD rn (j:Int))::(rn,an items nw)::(F,bO [En x.B aq ks (.ref 288),En x.B aJ kc (.ref cl),En x.B bw k1 (.int sg v1),En x.B bz k2 (.int sd v2),En x.B bu k3 (.ref wd),En x.B bv k4 (.ref td),En x.B cP k5 (.ref rn),En x.B bi k6 (.ref el)] 8)::(a,jl p u q v)::(cs++rest)) 0)
 (K:∀h' N' t' kp up P k7 v7 CN be,Ends (c.tw p q) el ne be→Rep x.B N' h' ((it,aD rn ((j+1:Nat):Int))::(rn,an items nw)::(F,bO [En x.B aq ks (.ref 288),En x.B aJ kc (.ref cl),En x.B bw k1 (.int sg v1),En x.B bz k2 (.int sd v2),En x.B bu k3 (.ref wd),En x.B bv k4 (.ref td),En x.B cP k5 (.ref rn),En x.B bi k6 (.ref el),En x.B aA kp (.int P up),En x.B bl k7 (.int CN v7)] 10)::(a,jl p u q v)::(be++rest)) 0→codeAny (MB x.B) A (ai (j6 x) (.ref it) (au x F cb)) R ⟨h',gl,d,t',os⟩):
 codeAny (MB x.B) A (ai (j6 x) (.ref it) (au x F cb)) R ⟨h,gl,d,t,os⟩:=by
 dsimp only[bO] at Rp
 refine af ?_
 refine aa hh Rp [] 13 (dA 0x6) [] (cB "list_iterator.__next__" [.ref it]) [] [] 0 0 ?_
 intro bT h1 N1 t1 Rp eE
 refine b6 Rp 0 1 rfl rfl hj rfl fun gH Rp=>?_
 try dsimp only[bm] at Rp
 refine aa hh Rp [] 83 (dA 0x12cb2c11cb1cb18218a18618118218a18618118218a186181186241249246) (dM 8) (cR 277 [.ref el,.int (p) u,.int (q) v]) [] [.k,.k,.u (dU [] [En x.B aA (t1+0) (.int (p) u),En x.B bl (t1+1) (.int (q) v)] 10)] 3 2 ?_
 intro bW h2 N2 t2 Rp dK
 refine gL x (A.under _) hh (by show A.depth+0<440;exact zr hA) _ c hc p q iK hp hq ug el ne cs E _ _ _ _ _ _ _ _ [_,_,_,_] rest Rp fun h' N' t' be E' Rp=>?_
 have Rp:Rep x.B N' h' (_::_::_::_::(be++rest)) 0:=Rp
 refine ab hh Rp [] 19 (dA 0x108) [] (Fin.again (ai (j6 x) (.ref it) (au x F cb))) [] [.k,.k,.u (dU [] [] 10)] 0 1 ?_
 intro cC h3 N3 t3 Rp
 exact⟨rfl,K _ _ _ _ _ _ _ _ _ _ E' Rp⟩
theorem BO(x:W2)(A:Around)(hh:A.handled=none)(hA:A.depth<320)(R:Result→Shared→Prop)(F cb it a:Addr)(ks kc k1 k2 k3 k4 k5 k6 v1 v2:Nat)(sg sd:Int)(cl wd td rn el:Addr)(kp up k7 v7:Nat)(P CN:Int)(items:Array Value)(nw j:Nat)(p q:Int)(u v:Nat)(hj:items[j]? =some (.ref a))(iK:0≤p)(hp:p≤2)(hq:-(2^37)≤q)(ug:q≤2^37)(c:C4)(hc:c.Ok)(ne:Nat)(cs:ae)(E:Ends c el ne cs)
 (N t:Nat) (h:Heap) (gl d os) (rest:ae)
 (Rp:Rep x.B N h ((it,aD rn (j:Int))::(rn,an items nw)::(F,bO [En x.B aq ks (.ref 288),En x.B aJ kc (.ref cl),En x.B bw k1 (.int sg v1),En x.B bz k2 (.int sd v2),En x.B bu k3 (.ref wd),En x.B bv k4 (.ref td),En x.B cP k5 (.ref rn),En x.B bi k6 (.ref el),En x.B aA kp (.int P up),En x.B bl k7 (.int CN v7)] 10)::(a,jl p u q v)::(cs++rest)) 0)
 (K:∀h' N' t' kp up P k7 v7 CN be,Ends (c.tw p q) el ne be→Rep x.B N' h' ((it,aD rn ((j+1:Nat):Int))::(rn,an items nw)::(F,bO [En x.B aq ks (.ref 288),En x.B aJ kc (.ref cl),En x.B bw k1 (.int sg v1),En x.B bz k2 (.int sd v2),En x.B bu k3 (.ref wd),En x.B bv k4 (.ref td),En x.B cP k5 (.ref rn),En x.B bi k6 (.ref el),En x.B aA kp (.int P up),En x.B bl k7 (.int CN v7)] 10)::(a,jl p u q v)::(be++rest)) 0→codeAny (MB x.B) A (ai (j6 x) (.ref it) (au x F cb)) R ⟨h',gl,d,t',os⟩):
 codeAny (MB x.B) A (ai (j6 x) (.ref it) (au x F cb)) R ⟨h,gl,d,t,os⟩:=by
 dsimp only[bO] at Rp
 refine af ?_
 refine aa hh Rp [] 13 (dA 0x6) [] (cB "list_iterator.__next__" [.ref it]) [] [] 0 0 ?_
 intro bT h1 N1 t1 Rp eE
 refine b6 Rp 0 1 rfl rfl hj rfl fun gH Rp=>?_
 try dsimp only[bm] at Rp
 refine aa hh Rp [] 83 (dA 0x12cb2c11cb1cb18218a18618118218a18618118218a186181186241249246) (dM 8) (cR 277 [.ref el,.int (p) u,.int (q) v]) [] [.k,.k,.u (dU [(8,.int (p) u),(9,.int (q) v)] [] 10)] 3 2 ?_
 intro bW h2 N2 t2 Rp dK
 refine gL x (A.under _) hh (by show A.depth+0<440;exact zr hA) _ c hc p q iK hp hq ug el ne cs E _ _ _ _ _ _ _ _ [_,_,_,_] rest Rp fun h' N' t' be E' Rp=>?_
 have Rp:Rep x.B N' h' (_::_::_::_::(be++rest)) 0:=Rp
 refine ab hh Rp [] 19 (dA 0x108) [] (Fin.again (ai (j6 x) (.ref it) (au x F cb))) [] [.k,.k,.u (dU [] [] 10)] 0 1 ?_
 intro cC h3 N3 t3 Rp
 exact⟨rfl,K _ _ _ _ _ _ _ _ _ _ E' Rp⟩
theorem Rep.mid{B:aQ}{N m:Nat}{h:Heap}{hd T cs rest:ae}(Rp:Rep B N h (hd++(T++(cs++rest))) m):Rep B N h (hd++(cs++(T++rest))) m:=Rp.perm (by
 refine List.Perm.append_left _ ?_
 rw[←List.append_assoc,←List.append_assoc]
 exact List.Perm.append_right _ List.perm_append_comm)
theorem Rep.back3{B:aQ}{N m:Nat}{h:Heap}{hd T cs rest:ae}{w:Addr×Obj}(Rp:Rep B N h (hd++(w::(cs++(T++rest)))) m):Rep B N h (hd++(T++(cs++(w::rest)))) m:=Rp.perm (by
 refine List.Perm.append_left _ ?_
 have e:(w::(cs++(T++rest))).Perm (w::(T++(cs++rest))):=.cons _ (by
  rw[←List.append_assoc,←List.append_assoc]
  exact List.Perm.append_right _ List.perm_append_comm)
 refine e.trans ?_
 rw[←List.append_assoc,←List.append_assoc]
 exact List.perm_middle.symm)
noncomputable def C4.run(c:C4)(l:List (Int×Int)):C4:=l.foldl (fun c w=>c.tw w.1 w.2) c
theorem xY(x:W2)(A:Around)(hh:A.handled=none)(hA:A.depth<320)(R:Result→Shared→Prop)(F cb it:Addr)(ks kc k1 k2 k3 k4 k5 k6 v1 v2:Nat)(sg sd:Int)(cl wd td rn el:Addr)(kd ud:Nat)(D:Int)(items:Array Value)(nw ne:Nat)(gl d os):∀(bQ:List Wd) (j:Nat) (hi:items.toList.drop j=bQ.map fun w=>Value.ref w.a) (fb:∀w∈bQ,0≤w.p∧w.p≤2∧-(2^37)≤w.q∧w.q≤2^37) (c:C4) (hc:c.Ok) (cs:ae) (E:Ends c el ne cs) (kp up k7 v7:Nat) (P CN:Int)
 (N t:Nat) (h:Heap) (rest:ae)
 (Rp:Rep x.B N h ((it,aD rn (j:Int))::(rn,an items nw)::(F,bO [En x.B aq ks (.ref 288),En x.B aJ kc (.ref cl),En x.B aA kp (.int P up),En x.B bF kd (.int D ud),En x.B bw k1 (.int sg v1),En x.B bz k2 (.int sd v2),En x.B bu k3 (.ref wd),En x.B bv k4 (.ref td),En x.B cP k5 (.ref rn),En x.B bi k6 (.ref el),En x.B bl k7 (.int CN v7)] 11)::(bQ.map aZ++(cs++rest))) 0)
 (K:∀h' N' t' kp up P k7 v7 CN be,Ends (c.run (bQ.map fun w=>(w.p,w.q))) el ne be→(c.run (bQ.map fun w=>(w.p,w.q))).Ok→Rep x.B N' h' ((rn,an items nw)::(F,bO [En x.B aq ks (.ref 288),En x.B aJ kc (.ref cl),En x.B aA kp (.int P up),En x.B bF kd (.int D ud),En x.B bw k1 (.int sg v1),En x.B bz k2 (.int sd v2),En x.B bu k3 (.ref wd),En x.B bv k4 (.ref td),En x.B cP k5 (.ref rn),En x.B bi k6 (.ref el),En x.B bl k7 (.int CN v7)] 11)::(be++(bQ.reverse.map aZ++rest))) 0→R (.ok .next) ⟨h',gl,d,t',os⟩),
 codeAny (MB x.B) A (ai (j6 x) (.ref it) (au x F cb)) R ⟨h,gl,d,t,os⟩:=by
 intro bQ
 induction bQ with
 |nil=>
  intro j hi fb c hc cs E kp up k7 v7 P CN N t h rest Rp K
  have he:items[j]? =none:=by
   rw[Array.getElem?_eq_none_iff,←Array.length_toList]
   exact List.drop_eq_nil_iff.mp hi
  have Rp:Rep x.B N h (_::_::_::(cs++rest)) 0:=Rp
  dsimp only[bO] at Rp
  refine af ?_
  refine aa hh Rp [] 13 (dA 0x6) [] (cB "list_iterator.__next__" [.ref it]) [] [] 0 0 ?_
  intro bT h1 N1 t1 Rp eE
  refine mS hh Rp 0 1 rfl rfl he rfl fun gH jG yQ l9 Rp=>?_
  try dsimp only[bm] at Rp
  refine ab hh Rp [] 12 (dA 0x6) [] (Fin.again (.block [] (au x F cb))) [] [.d,.d,.d] 0 0 ?_
  intro bW h2 N2 t2 Rp
  refine⟨rfl,?_⟩
  refine aX hh Rp [] 11 (dA 0x0) [] (.ok .next) [] [] 0 0 ?_
  intro cC h3 N3 t3 Rp
  exact K _ _ _ _ _ _ _ _ _ _ E hc Rp
 |cons w bQ ih=>
  intro j hi fb c hc cs E kp up k7 v7 P CN N t h rest Rp K
  have hj:items[j]? =some (.ref w.a):=by
   rw[←Array.getElem?_toList]
   have:=congrArg (·[0]?) hi
   simpa using this
  have oV:items.toList.drop (j+1)=bQ.map fun w=>Value.ref w.a:=by
   rw[←List.drop_drop,hi];rfl
  have hw:=fb w (.head _)
  refine BN x A hh hA R F cb it w.a ks kc k1 k2 k3 k4 k5 k6 v1 v2 sg sd cl wd td rn el kp kd up ud P D k7 v7 CN items nw j w.p w.q w.u w.v hj hw.1 hw.2.1 hw.2.2.1 hw.2.2.2 c hc ne cs E N t h gl d os (bQ.map aZ++rest) (Rp.mid (hd:=[_,_,_,_])) fun h' N' t' kp up P k7 v7 CN be E' Rp=>?_
  refine ih (j+1) oV (fun w' m=>fb w' (.tail _ m)) (c.tw w.p w.q) (hc.tw _ _) be E' kp up k7 v7 P CN N' t' h' (aZ w::rest) (Rp.back3 (hd:=[_,_,_])) fun h2 N2 t2 kp up P k7 v7 CN mc E2 H2 Rp=>?_
  refine K h2 N2 t2 kp up P k7 v7 CN mc E2 H2 ?_
  have e:(w::bQ).reverse.map aZ++rest=bQ.reverse.map aZ++aZ w::rest:=by simp
  rw[e]
  exact Rp
theorem BL(x:W2)(A:Around)(hh:A.handled=none)(hA:A.depth<320)(R:Result→Shared→Prop)(F cb it:Addr)(ks kc k1 k2 k3 k4 k5 k6 v1 v2:Nat)(sg sd:Int)(cl wd td rn el:Addr)(kp kd up ud:Nat)(P D:Int)(items:Array Value)(nw ne:Nat)(gl d os)(bQ:List Wd)(Ca:bQ≠[])(hi:items.toList=bQ.map fun w=>Value.ref w.a)(fb:∀w∈bQ,0≤w.p∧w.p≤2∧-(2^37)≤w.q∧w.q≤2^37)(c:C4)(hc:c.Ok)(cs:ae)(E:Ends c el ne cs)
 (N t:Nat) (h:Heap) (rest:ae)
 (Rp:Rep x.B N h ((it,aD rn ((0:Nat):Int))::(rn,an items nw)::(F,bO [En x.B aq ks (.ref 288),En x.B aJ kc (.ref cl),En x.B aA kp (.int P up),En x.B bF kd (.int D ud),En x.B bw k1 (.int sg v1),En x.B bz k2 (.int sd v2),En x.B bu k3 (.ref wd),En x.B bv k4 (.ref td),En x.B cP k5 (.ref rn),En x.B bi k6 (.ref el)] 10)::(bQ.map aZ++(cs++rest))) 0)
 (K:∀h' N' t' kp up P k7 v7 CN be,Ends (c.run (bQ.map fun w=>(w.p,w.q))) el ne be→(c.run (bQ.map fun w=>(w.p,w.q))).Ok→Rep x.B N' h' ((rn,an items nw)::(F,bO [En x.B aq ks (.ref 288),En x.B aJ kc (.ref cl),En x.B aA kp (.int P up),En x.B bF kd (.int D ud),En x.B bw k1 (.int sg v1),En x.B bz k2 (.int sd v2),En x.B bu k3 (.ref wd),En x.B bv k4 (.ref td),En x.B cP k5 (.ref rn),En x.B bi k6 (.ref el),En x.B bl k7 (.int CN v7)] 11)::(be++(bQ.reverse.map aZ++rest))) 0→R (.ok .next) ⟨h',gl,d,t',os⟩):
 codeAny (MB x.B) A (ai (j6 x) (.ref it) (au x F cb)) R ⟨h,gl,d,t,os⟩:=by
 cases bQ with
 |nil=>exact absurd rfl Ca
 |cons w bQ=>
  have hj:items[0]? =some (.ref w.a):=by
   rw[←Array.getElem?_toList,hi];rfl
  have oV:items.toList.drop (0+1)=bQ.map fun w=>Value.ref w.a:=by
   rw[hi];rfl
  have hw:=fb w (.head _)
  refine BP x A hh hA R F cb it w.a ks kc k1 k2 k3 k4 k5 k6 v1 v2 sg sd cl wd td rn el kp kd up ud P D items nw 0 w.p w.q w.u w.v hj hw.1 hw.2.1 hw.2.2.1 hw.2.2.2 c hc ne cs E N t h gl d os (bQ.map aZ++rest) (Rp.mid (hd:=[_,_,_,_])) fun h' N' t' kp up P k7 v7 CN be E' Rp=>?_
  refine xY x A hh hA R F cb it ks kc k1 k2 k3 k4 k5 k6 v1 v2 sg sd cl wd td rn el kd ud D items nw ne gl d os bQ 1 oV (fun w' m=>fb w' (.tail _ m)) (c.tw w.p w.q) (hc.tw _ _) be E' kp up k7 v7 P CN N' t' h' (aZ w::rest) (Rp.back3 (hd:=[_,_,_])) fun h2 N2 t2 kp up P k7 v7 CN mc E2 H2 Rp=>?_
  refine K h2 N2 t2 kp up P k7 v7 CN mc E2 H2 ?_
  have e:(w::bQ).reverse.map aZ++rest=bQ.reverse.map aZ++aZ w::rest:=by simp
  rw[e]
  exact Rp
theorem xZ(x:W2)(A:Around)(hh:A.handled=none)(hA:A.depth<320)(R:Result→Shared→Prop)(F cb it:Addr)(ks kc k1 k2 k3 k4 k5 k6 v1 v2:Nat)(sg sd:Int)(cl wd td rn el:Addr)(items:Array Value)(nw ne:Nat)(gl d os):∀(bQ:List Wd) (j:Nat) (hi:items.toList.drop j=bQ.map fun w=>Value.ref w.a) (fb:∀w∈bQ,0≤w.p∧w.p≤2∧-(2^37)≤w.q∧w.q≤2^37) (c:C4) (hc:c.Ok) (cs:ae) (E:Ends c el ne cs) (kp up k7 v7:Nat) (P CN:Int)
 (N t:Nat) (h:Heap) (rest:ae)
 (Rp:Rep x.B N h ((it,aD rn (j:Int))::(rn,an items nw)::(F,bO [En x.B aq ks (.ref 288),En x.B aJ kc (.ref cl),En x.B bw k1 (.int sg v1),En x.B bz k2 (.int sd v2),En x.B bu k3 (.ref wd),En x.B bv k4 (.ref td),En x.B cP k5 (.ref rn),En x.B bi k6 (.ref el),En x.B aA kp (.int P up),En x.B bl k7 (.int CN v7)] 10)::(bQ.map aZ++(cs++rest))) 0)
 (K:∀h' N' t' kp up P k7 v7 CN be,Ends (c.run (bQ.map fun w=>(w.p,w.q))) el ne be→(c.run (bQ.map fun w=>(w.p,w.q))).Ok→Rep x.B N' h' ((rn,an items nw)::(F,bO [En x.B aq ks (.ref 288),En x.B aJ kc (.ref cl),En x.B bw k1 (.int sg v1),En x.B bz k2 (.int sd v2),En x.B bu k3 (.ref wd),En x.B bv k4 (.ref td),En x.B cP k5 (.ref rn),En x.B bi k6 (.ref el),En x.B aA kp (.int P up),En x.B bl k7 (.int CN v7)] 10)::(be++(bQ.reverse.map aZ++rest))) 0→R (.ok .next) ⟨h',gl,d,t',os⟩),
 codeAny (MB x.B) A (ai (j6 x) (.ref it) (au x F cb)) R ⟨h,gl,d,t,os⟩:=by
 intro bQ
 induction bQ with
 |nil=>
  intro j hi fb c hc cs E kp up k7 v7 P CN N t h rest Rp K
  have he:items[j]? =none:=by
   rw[Array.getElem?_eq_none_iff,←Array.length_toList]
   exact List.drop_eq_nil_iff.mp hi
  have Rp:Rep x.B N h (_::_::_::(cs++rest)) 0:=Rp
  dsimp only[bO] at Rp
  refine af ?_
  refine aa hh Rp [] 13 (dA 0x6) [] (cB "list_iterator.__next__" [.ref it]) [] [] 0 0 ?_
  intro bT h1 N1 t1 Rp eE
  refine mS hh Rp 0 1 rfl rfl he rfl fun gH jG yQ l9 Rp=>?_
  try dsimp only[bm] at Rp
  refine ab hh Rp [] 12 (dA 0x6) [] (Fin.again (.block [] (au x F cb))) [] [.d,.d,.d] 0 0 ?_
  intro bW h2 N2 t2 Rp
  refine⟨rfl,?_⟩
  refine aX hh Rp [] 11 (dA 0x0) [] (.ok .next) [] [] 0 0 ?_
  intro cC h3 N3 t3 Rp
  exact K _ _ _ _ _ _ _ _ _ _ E hc Rp
 |cons w bQ ih=>
  intro j hi fb c hc cs E kp up k7 v7 P CN N t h rest Rp K
  have hj:items[j]? =some (.ref w.a):=by
   rw[←Array.getElem?_toList]
   have:=congrArg (·[0]?) hi
   simpa using this
  have oV:items.toList.drop (j+1)=bQ.map fun w=>Value.ref w.a:=by
   rw[←List.drop_drop,hi];rfl
  have hw:=fb w (.head _)
  refine BO x A hh hA R F cb it w.a ks kc k1 k2 k3 k4 k5 k6 v1 v2 sg sd cl wd td rn el kp up k7 v7 P CN items nw j w.p w.q w.u w.v hj hw.1 hw.2.1 hw.2.2.1 hw.2.2.2 c hc ne cs E N t h gl d os (bQ.map aZ++rest) (Rp.mid (hd:=[_,_,_,_])) fun h' N' t' kp up P k7 v7 CN be E' Rp=>?_
  refine ih (j+1) oV (fun w' m=>fb w' (.tail _ m)) (c.tw w.p w.q) (hc.tw _ _) be E' kp up k7 v7 P CN N' t' h' (aZ w::rest) (Rp.back3 (hd:=[_,_,_])) fun h2 N2 t2 kp up P k7 v7 CN mc E2 H2 Rp=>?_
  refine K h2 N2 t2 kp up P k7 v7 CN mc E2 H2 ?_
  have e:(w::bQ).reverse.map aZ++rest=bQ.reverse.map aZ++aZ w::rest:=by simp
  rw[e]
  exact Rp
theorem BM(x:W2)(A:Around)(hh:A.handled=none)(hA:A.depth<320)(R:Result→Shared→Prop)(F cb it:Addr)(ks kc k1 k2 k3 k4 k5 k6 v1 v2:Nat)(sg sd:Int)(cl wd td rn el:Addr)(items:Array Value)(nw ne:Nat)(gl d os)(bQ:List Wd)(Ca:bQ≠[])(hi:items.toList=bQ.map fun w=>Value.ref w.a)(fb:∀w∈bQ,0≤w.p∧w.p≤2∧-(2^37)≤w.q∧w.q≤2^37)(c:C4)(hc:c.Ok)(cs:ae)(E:Ends c el ne cs)
 (N t:Nat) (h:Heap) (rest:ae)
 (Rp:Rep x.B N h ((it,aD rn ((0:Nat):Int))::(rn,an items nw)::(F,bO [En x.B aq ks (.ref 288),En x.B aJ kc (.ref cl),En x.B bw k1 (.int sg v1),En x.B bz k2 (.int sd v2),En x.B bu k3 (.ref wd),En x.B bv k4 (.ref td),En x.B cP k5 (.ref rn),En x.B bi k6 (.ref el)] 8)::(bQ.map aZ++(cs++rest))) 0)
 (K:∀h' N' t' kp up P k7 v7 CN be,Ends (c.run (bQ.map fun w=>(w.p,w.q))) el ne be→(c.run (bQ.map fun w=>(w.p,w.q))).Ok→Rep x.B N' h' ((rn,an items nw)::(F,bO [En x.B aq ks (.ref 288),En x.B aJ kc (.ref cl),En x.B bw k1 (.int sg v1),En x.B bz k2 (.int sd v2),En x.B bu k3 (.ref wd),En x.B bv k4 (.ref td),En x.B cP k5 (.ref rn),En x.B bi k6 (.ref el),En x.B aA kp (.int P up),En x.B bl k7 (.int CN v7)] 10)::(be++(bQ.reverse.map aZ++rest))) 0→R (.ok .next) ⟨h',gl,d,t',os⟩):
 codeAny (MB x.B) A (ai (j6 x) (.ref it) (au x F cb)) R ⟨h,gl,d,t,os⟩:=by
 cases bQ with
 |nil=>exact absurd rfl Ca
 |cons w bQ=>
  have hj:items[0]? =some (.ref w.a):=by
   rw[←Array.getElem?_toList,hi];rfl
  have oV:items.toList.drop (0+1)=bQ.map fun w=>Value.ref w.a:=by
   rw[hi];rfl
  have hw:=fb w (.head _)
  refine BQ x A hh hA R F cb it w.a ks kc k1 k2 k3 k4 k5 k6 v1 v2 sg sd cl wd td rn el items nw 0 w.p w.q w.u w.v hj hw.1 hw.2.1 hw.2.2.1 hw.2.2.2 c hc ne cs E N t h gl d os (bQ.map aZ++rest) (Rp.mid (hd:=[_,_,_,_])) fun h' N' t' kp up P k7 v7 CN be E' Rp=>?_
  refine xZ x A hh hA R F cb it ks kc k1 k2 k3 k4 k5 k6 v1 v2 sg sd cl wd td rn el items nw ne gl d os bQ 1 oV (fun w' m=>fb w' (.tail _ m)) (c.tw w.p w.q) (hc.tw _ _) be E' kp up k7 v7 P CN N' t' h' (aZ w::rest) (Rp.back3 (hd:=[_,_,_])) fun h2 N2 t2 kp up P k7 v7 CN mc E2 H2 Rp=>?_
  refine K h2 N2 t2 kp up P k7 v7 CN mc E2 H2 ?_
  have e:(w::bQ).reverse.map aZ++rest=bQ.reverse.map aZ++aZ w::rest:=by simp
  rw[e]
  exact Rp
noncomputable def ss:ae→Nat→ae
 |[],_=>[]
 |_::l,0=>l
 |x::l,n+1=>x::ss l n
noncomputable def nF(tab:ae)(k:Nat):ae:=match nth tab k with
 |some p=>p::ss tab k
 |none=>tab
theorem ip:∀(tab:ae) (k:Nat),tab.Perm (nF tab k)
 |[],k=>by cases k<;>exact .refl _
 |x::l,0=>.refl _
 |x::l,k+1=>by
  have ih:=ip l k
  unfold nF at ih⊢
  show(x::l).Perm (match nth l k with|some p=>p::x::ss l k|none=>x::l)
  cases e:nth l k with
  |none=>exact .refl _
  |some p=>
   rw[e] at ih
   exact(ih.cons x).trans (.swap _ _ _)
theorem Rep.pull{B:aQ}{N m:Nat}{h:Heap}{tab:ae}(Rp:Rep B N h tab m)(k:Nat):Rep B N h (nF tab k) m:=Rp.perm (ip tab k)
theorem lI:∀(ws:List Value),3≤ws.length→ws.length≤5→slicePick ws.toArray none none (some (-1))=ws.reverse.toArray
 |[a,b,c],_,_=>by rfl'
 |[a,b,c,d],_,_=>by rfl'
 |[a,b,c,d,e],_,_=>by rfl'
 |_::_::_::_::_::_::_,_,h=>absurd h (by simp)
theorem Rep.rev3{B:aQ}{N m:Nat}{h:Heap}{hd a b c r:ae}(Rp:Rep B N h (hd++(a++(b++(c++r)))) m):Rep B N h (hd++(c++(b++(a++r)))) m:=Rp.perm (by
 refine List.Perm.append_left _ ?_
 have e1:(a++(b++(c++r))).Perm (a++(c++(b++r))):=List.Perm.append_left _ (by rw[←List.append_assoc,←List.append_assoc];exact List.Perm.append_right _ List.perm_append_comm)
 have e2:∀(p q s:ae),(p++(q++s)).Perm (q++(p++s)):=fun p q s=>by rw[←List.append_assoc,←List.append_assoc];exact List.Perm.append_right _ List.perm_append_comm
 exact e1.trans ((e2 a c _).trans (List.Perm.append_left _ (e2 a b r))))
theorem Rep.out3{B:aQ}{N m:Nat}{h:Heap}{hd a b c r:ae}(Rp:Rep B N h (hd++(a++(b++(c++r)))) m):Rep B N h (hd++(c++(a++(b++r)))) m:=Rp.perm (by
 refine List.Perm.append_left _ ?_
 have e2:∀(p q s:ae),(p++(q++s)).Perm (q++(p++s)):=fun p q s=>by rw[←List.append_assoc,←List.append_assoc];exact List.Perm.append_right _ List.perm_append_comm
 exact(List.Perm.append_left a (e2 b c _)).trans (e2 a c _))
noncomputable def iF(bs:Int):C4:=⟨bs+1,bs+1,bs,bs,2^24,2^24,2^23,2^23⟩
theorem jj{bs:Int}(h0:0≤bs)(h8:bs<8):(iF bs).Ok:=by
 refine⟨⟨?_,?_⟩,⟨?_,?_⟩,⟨?_,?_⟩,⟨?_,?_⟩,.inl rfl,.inl rfl,.inr rfl,.inr rfl⟩<;>(simp only[iF];omega)
noncomputable def wp(ws:List Wd):List (Int×Int):=ws.map fun w=>(w.p,w.q)
theorem fp(x:W2)(A:Around)(hh:A.handled=none)(hA:A.depth<380)(R:Result→Shared→Prop)(c:C4)(hc:c.Ok)(m0 m1:Int)(e0:fW (c.k0-c.k1)=m0)(e1:fW (c.k1-c.k2)=m1)(el:Addr)(n:Nat)(cs:ae)(E:Ends c el n cs)
 (N t:Nat) (h:Heap) (gl d os) (hd rest:ae) (Rp:Rep x.B N h (hd++(cs++rest)) 0)
 (K:∀h' N' t' a u v,Rep x.B N' h' ((a,an #[.int m0 u,.int m1 v] 2)::(hd++(cs++rest))) 0→R (.ok (.ret (.ref a))) ⟨h',gl,d,t',os⟩)
 :codeAny (MB x.B) A (.call (.ref 282) ⟨[.ref el],[]⟩) R ⟨h,gl,d,t,os⟩:=by
 subst e0 e1
 exact pG x A hh hA R c hc el n cs E N t h gl d os hd rest Rp K
theorem AG(x:W2)(A:Around)(hh:A.handled=none)(hA:A.depth<310)(Q:Flow→Shared→Prop)(F cb cl wd td:Addr)(sg sd bs:Int)(ks kc k1 k2 k3 k4 v1 v2 v3 nw:Nat)(kp kd up ud:Nat)(P D:Int)(h0:0≤bs)(m5:bs<8)(ws:List Wd)(hl:3≤ws.length)(mY:ws.length≤5)(fb:∀w∈ws,0≤w.p∧w.p≤2∧-(2^37)≤w.q∧w.q≤2^37)(rb:Obj)
 (N t:Nat) (h:Heap) (gl d os) (rest:ae)
 (Rp:Rep x.B N h ((td,an #[] 0)::(wd,fL ws nw)::(ws.reverse.map aZ++((cl,rb)::(cb,iL (some (.int bs v3)))::(F,bO [En x.B aq ks (.ref 288),En x.B aJ kc (.ref cl),En x.B aA kp (.int P up),En x.B bF kd (.int D ud),En x.B bw k1 (.int sg v1),En x.B bz k2 (.int sd v2),En x.B bu k3 (.ref wd),En x.B bv k4 (.ref td)] 8)::rest))) 0)
 (K:∀(h':Heap) (N' t':Nat) (fk:ae) (a b el:Addr) (ua va ub vb kd ud k5 k6 kp up k7 v7 ne nt:Nat) (m0 m1 n0 n1 P CN D:Int) (c0 c1:C4) (cs:ae),(iF bs).run (wp ws.reverse)=c0→(iF bs).run (wp ws)=c1→fW (c0.k0-c0.k1)=m0→fW (c0.k1-c0.k2)=m1→fW (c1.k0-c1.k1)=n0→fW (c1.k1-c1.k2)=n1→Ends c1 el ne cs→c1.Ok→Rep x.B N' h' ((td,an #[.ref a,.ref b] nt)::(a,an #[.int m0 ua,.int m1 va] 2)::(b,an #[.int n0 ub,.int n1 vb] 2)::(F,bO [En x.B aq ks (.ref 288),En x.B aJ kc (.ref cl),En x.B aA kp (.int P up),En x.B bF kd (.int D ud),En x.B bw k1 (.int sg v1),En x.B bz k2 (.int sd v2),En x.B bu k3 (.ref wd),En x.B bv k4 (.ref td),En x.B cP k5 (.ref wd),En x.B bi k6 (.ref el),En x.B bl k7 (.int CN v7)] 11)::(cl,rb)::(cs++fk)) 0→wpAny (MB x.B) A (aj (am (fdOf x.B 287) |>.drop 6) (au x F cb)) Q (fun _ _=>False) ⟨h',gl,d,t',os⟩):
 wpAny (MB x.B) A (aj (am (fdOf x.B 287) |>.drop 5) (au x F cb)) Q (fun _ _=>False) ⟨h,gl,d,t,os⟩:=by
 have Rp:Rep x.B N h ((td,an #[] 0)::(wd,fL ws nw)::(cl,rb)::(cb,iL (some (.int bs v3)))::(F,bO [En x.B aq ks (.ref 288),En x.B aJ kc (.ref cl),En x.B aA kp (.int P up),En x.B bF kd (.int D ud),En x.B bw k1 (.int sg v1),En x.B bz k2 (.int sd v2),En x.B bu k3 (.ref wd),En x.B bv k4 (.ref td)] 8)::(ws.reverse.map aZ++rest)) 0:=Rp.mid (hd:=[_,_]) (cs:=[_,_,_])
 dsimp only[bO,iL,fL] at Rp
 refine bS 1 ?_
 refine aa hh Rp [] 26 (dA 0x820804a) (dM 3) (cB "list.__getitem__" [.ref wd,.ref (N+0)]) [(N+0,oI "slice" #[.none,.none,.int (-1) (t+1)])] [] 1 2 ?_
 intro bT h1 N1 t1 Rp eE
 refine iW Rp 2 0 rfl rfl .none .none (.int _ _) (by simp) (by simp;exact DL mY) (lI _ (by simp;exact DK hl) (by simp;exact DJ mY)) fun gH jG a1 Rp=>?_
 refine aa hh Rp [] 25 (dA 0x18604618c) (dM 7) (ai (n5 x) (.ref (jG+1)) (au x F cb)) [(jG+1,oI "tuple_iterator" #[.ref (jG+0),.int 0 0]),(jG+0,oT #[.ref a1,.ref wd])] [.k,.d] 2 0 ?_
 intro bW h2 N2 t2 Rp dK
 refine af ?_
 refine aa hh Rp [] 49 (dA 0x618118624d0861c6186046) (dM 31) (.compStart (gI x) 0 (.ref (N2+1)) (.ref (N2+2)) (eC x F cb (N2+3))) [(N2+3,oD #[] 0),(N2+2,oL #[] 0),(N2+1,oI "tuple_iterator" #[.ref (N2+0),.int 0 0]),(N2+0,oT #[.int 0 (t2+1),.int 0 (t2+2),.int 1 (t2+3),.int 1 (t2+4)])] [.u fun _=>oI "tuple_iterator" #[.ref (jG+0),.int 1 0],.k,.k,.k,.k,.k,.k,.u (dU [] [En x.B cP (t2+0) (.ref a1)] 9)] 4 5 ?_
 intro cC h3 N3 t3 Rp eD
 refine eU (by rfl') Rp 2 rfl ?_
 refine ec x (A.under _) hh (by show A.depth+0<320;exact sH hA) _ F cb _ _ _ _ bs v3 _ _ _ _ h0 m5 _ _ _ _ _ _ _ (((((Rp.pull 10).pull 4).pull 4).pull 4).pull 4) fun h6 N6 t6 q0 hv hu n6 cs E Rp=>?_
 have Rp:Rep x.B N6 h6 (_::_::_::_::_::_::_::_::_::(cs++(ws.reverse.map aZ++rest))) 0:=Rp.mid (hd:=[_,_]) (T:=cs) (cs:=[_,_,_,_,_,_,_])
 show wpAny ..
 refine aa hh Rp [] 37 (dA 0x628128a38218628e) (dM 3) (ai (j6 x) (.ref (N6+0)) (au x F cb)) [(N6+0,oI "list_iterator" #[.ref a1,.int 0 0])] [.d,.k,.k,.k,.k,.k,.k,.k,.u (dU [] [En x.B bi (t6+0) (.ref (N2+2))] 10)] 1 1 ?_
 intro db h4 N4 t4 Rp gr
 have Rp:=Rep.rev3 (hd:=[_,_,_]) (a:=[_,_,_,_,_,_]) (b:=cs) (c:=ws.reverse.map aZ) (((Rp.pull 8).pull 5).pull 2)
 obtain⟨c0,sr⟩:∃c,(iF bs).run (wp ws.reverse)=c:=⟨_,rfl⟩
 refine BL x (A.under _) hh (by show A.depth+0<320;exact sH hA) _ F cb _ _ _ _ _ _ _ _ _ _ _ _ _ _ _ _ _ _ _ _ _ _ _ _ _ _ _ _ _ _ ws.reverse (by intro z;rw[List.reverse_eq_nil_iff] at z;rw[z] at hl;exact absurd hl (by decide)) (by simp) (fun w m=>fb w (List.mem_reverse.mp m)) (iF bs) (jj h0 m5) cs E _ _ _ _ Rp fun h7 N7 t7 kp up P k7 v7 CN cs E H1 Rp=>?_
 have E:Ends ((iF bs).run (wp ws.reverse)) _ _ cs:=E
 have H1:((iF bs).run (wp ws.reverse)).Ok:=H1
 rw[sr] at E H1
 rw[List.reverse_reverse] at Rp
 obtain⟨m0,sp⟩:∃m,fW (c0.k0-c0.k1)=m:=⟨_,rfl⟩
 obtain⟨m1,so⟩:∃m,fW (c0.k1-c0.k2)=m:=⟨_,rfl⟩
 show wpAny ..
 have Rp:Rep x.B N7 h7 (_::_::_::_::_::_::_::_::(cs++(ws.map aZ++rest))) 0:=Rp.out3 (hd:=[_,_]) (a:=cs) (b:=ws.map aZ) (c:=[_,_,_,_,_,_])
 dsimp only[bO,fL] at Rp
 refine aa hh Rp [] 26 (dA 0x4704b2cb2c7) [] (cR 282 [.ref (N2+2)]) [] [] 0 0 ?_
 intro dv h5 N5 t5 Rp mU
 refine fp x (A.under _) hh (by show A.depth+0<380;exact zq hA) _ _ H1 m0 m1 sp so _ _ cs E _ _ _ _ _ _ [_,_,_,_,_,_,_,_] _ Rp fun h8 N8 t8 a8 u8 w8 Rp=>?_
 have Rp:Rep x.B N8 h8 (_::_::_::_::_::_::_::_::_::(cs++(ws.map aZ++rest))) 0:=Rp
 show wpAny ..
 refine ab hh Rp [] 21 (dA 0xc20c301) [] (Fin.again (ai (n5 x) (.ref (jG+1)) (au x F cb))) [] [.k,.k,.k,.k,.k,.k,.u fun _=>oL #[.ref a8] 1] 0 0 ?_
 intro iM h9 N9 t9 Rp
 refine⟨rfl,?_⟩
 have Rp:Rep x.B N9 h9 (_::_::_::_::_::_::_::_::_::(ws.map aZ++(cs++rest))) 0:=Rp.mid (hd:=[_,_,_,_,_,_,_,_,_]) (T:=cs) (cs:=ws.map aZ)
 refine af ?_
 refine aa hh Rp [] 49 (dA 0x618118610818a2ca28a04a) (dM 31) (.compStart (gI x) 0 (.ref (N9+1)) (.ref (N9+2)) (eC x F cb (N9+3))) [(N9+3,oD #[] 0),(N9+2,oL #[] 0),(N9+1,oI "tuple_iterator" #[.ref (N9+0),.int 0 0]),(N9+0,oT #[.int 0 (t9+1),.int 0 (t9+2),.int 1 (t9+3),.int 1 (t9+4)])] [.k,.d,.u (dU [(8,.ref wd)] [] 11),.k,.u fun _=>oI "tuple_iterator" #[.ref (jG+0),.int 2 0]] 4 5 ?_
 intro iN lX mo fh Rp oj
 refine eU (by rfl') Rp 2 rfl ?_
 refine ec x (A.under _) hh (by show A.depth+0<320;exact sH hA) _ F cb _ _ _ _ bs v3 _ _ _ _ h0 m5 _ _ _ _ _ _ _ (((((Rp.pull 6).pull 4).pull 4).pull 4).pull 4) fun m7 lc lC q11 hv2 hu2 n11 mc E2 Rp=>?_
 have Rp:Rep x.B lc m7 (_::_::_::_::_::_::_::_::_::(mc++(ws.map aZ++(cs++rest)))) 0:=Rp.mid (hd:=[_,_]) (T:=mc) (cs:=[_,_,_,_,_,_,_])
 show wpAny ..
 refine aa hh Rp [] 37 (dA 0x634134d242186149) (dM 3) (ai (j6 x) (.ref (lc+0)) (au x F cb)) [(lc+0,oI "list_iterator" #[.ref wd,.int 0 0])] [.d,.k,.k,.u (dU [(9,.ref (N9+2))] [] 11)] 1 1 ?_
 intro mi q9 re lB Rp tT
 have Rp:=Rep.rev3 (hd:=[_,_,_]) (a:=[_,_,_,_,_,_]) (b:=mc) (c:=ws.map aZ) (((Rp.pull 3).pull 7).pull 2)
 obtain⟨c1,sq⟩:∃c,(iF bs).run (wp ws)=c:=⟨_,rfl⟩
 refine xY x (A.under _) hh (by show A.depth+0<320;exact sH hA) _ F cb _ _ _ _ _ _ _ _ _ _ _ _ _ _ _ _ _ _ _ _ _ _ _ _ _ _ _ ws 0 (by simp) fb (iF bs) (jj h0 m5) mc E2 _ _ _ _ _ _ _ _ _ _ Rp fun q8 rd sE kp up P k7 v7 CN oA E3 H3 Rp=>?_
 have E3:Ends ((iF bs).run (wp ws)) _ _ oA:=E3
 have H3:((iF bs).run (wp ws)).Ok:=H3
 rw[sq] at E3 H3
 obtain⟨n0,sn⟩:∃m,fW (c1.k0-c1.k1)=m:=⟨_,rfl⟩
 obtain⟨n1,l9⟩:∃m,fW (c1.k1-c1.k2)=m:=⟨_,rfl⟩
 show wpAny ..
 have Rp:Rep x.B rd q8 (_::_::_::_::_::_::_::_::(oA++(ws.reverse.map aZ++(cs++rest)))) 0:=Rp.out3 (hd:=[_,_]) (a:=oA) (b:=ws.reverse.map aZ) (c:=[_,_,_,_,_,_])
 dsimp only[bO,fL] at Rp
 refine aa hh Rp [] 26 (dA 0x4704c30c307) [] (cR 282 [.ref (N9+2)]) [] [] 0 0 ?_
 intro sy yo zb wB Rp kk14
 refine fp x (A.under _) hh (by show A.depth+0<380;exact zq hA) _ _ H3 n0 n1 sn l9 _ _ oA E3 _ _ _ _ _ _ [_,_,_,_,_,_,_,_] _ Rp fun wf wh ze CH u15 w15 Rp=>?_
 have Rp:Rep x.B wh wf (_::_::_::_::_::_::_::_::_::(oA++(ws.reverse.map aZ++(cs++rest)))) 0:=Rp
 show wpAny ..
 refine ab hh Rp [] 21 (dA 0xd24d341) [] (Fin.again (ai (n5 x) (.ref (jG+1)) (au x F cb))) [] [.k,.k,.k,.k,.k,.k,.k,.u fun _=>oL #[.ref a8,.ref CH] 2] 0 0 ?_
 intro sx Ab Ai zd Rp
 refine⟨rfl,?_⟩
 refine aX hh Rp [] 28 (dA 0x61cb30b2cb04b) (dM 4) (.ok .next) [] [.k,.k,.k,.k,.k,.u fun _=>oI "tuple_iterator" #[.none,.int 2 0]] 2 0 ?_
 intro sw Aa Ah zc Rp
 show wpAny ..
 refine ab hh Rp [] 11 (dA 0x0) [] Flow.next [] [.k,.d,.k,.d,.k,.d,.d] 0 0 ?_
 intro Tb18 h18 N18 t18 Rp
 exact K _ _ _ _ _ _ _ _ _ _ _ _ _ _ _ kp up k7 v7 _ _ m0 m1 n0 n1 P CN D c0 c1 oA sr sq sp so sn l9 E3 H3 ((Rp.pull 2).pull 3)
theorem AH(x:W2)(A:Around)(hh:A.handled=none)(hA:A.depth<310)(Q:Flow→Shared→Prop)(F cb cl wd td:Addr)(sg sd bs:Int)(ks kc k1 k2 k3 k4 v1 v2 v3 nw:Nat)(h0:0≤bs)(m5:bs<8)(ws:List Wd)(hl:3≤ws.length)(mY:ws.length≤5)(fb:∀w∈ws,0≤w.p∧w.p≤2∧-(2^37)≤w.q∧w.q≤2^37)(rb:Obj)
 (N t:Nat) (h:Heap) (gl d os) (rest:ae)
 (Rp:Rep x.B N h ((td,an #[] 0)::(wd,fL ws nw)::(ws.reverse.map aZ++((cl,rb)::(cb,iL (some (.int bs v3)))::(F,bO [En x.B aq ks (.ref 288),En x.B aJ kc (.ref cl),En x.B bw k1 (.int sg v1),En x.B bz k2 (.int sd v2),En x.B bu k3 (.ref wd),En x.B bv k4 (.ref td)] 6)::rest))) 0)
 (K:∀(h':Heap) (N' t':Nat) (fk:ae) (a b el:Addr) (ua va ub vb k5 k6 kp up k7 v7 ne nt:Nat) (m0 m1 n0 n1 P CN:Int) (c0 c1:C4) (cs:ae),(iF bs).run (wp ws.reverse)=c0→(iF bs).run (wp ws)=c1→fW (c0.k0-c0.k1)=m0→fW (c0.k1-c0.k2)=m1→fW (c1.k0-c1.k1)=n0→fW (c1.k1-c1.k2)=n1→Ends c1 el ne cs→c1.Ok→Rep x.B N' h' ((td,an #[.ref a,.ref b] nt)::(a,an #[.int m0 ua,.int m1 va] 2)::(b,an #[.int n0 ub,.int n1 vb] 2)::(F,bO [En x.B aq ks (.ref 288),En x.B aJ kc (.ref cl),En x.B bw k1 (.int sg v1),En x.B bz k2 (.int sd v2),En x.B bu k3 (.ref wd),En x.B bv k4 (.ref td),En x.B cP k5 (.ref wd),En x.B bi k6 (.ref el),En x.B aA kp (.int P up),En x.B bl k7 (.int CN v7)] 10)::(cl,rb)::(cs++fk)) 0→wpAny (MB x.B) A (aj (am (fdOf x.B 287) |>.drop 6) (au x F cb)) Q (fun _ _=>False) ⟨h',gl,d,t',os⟩):
 wpAny (MB x.B) A (aj (am (fdOf x.B 287) |>.drop 5) (au x F cb)) Q (fun _ _=>False) ⟨h,gl,d,t,os⟩:=by
 have Rp:Rep x.B N h ((td,an #[] 0)::(wd,fL ws nw)::(cl,rb)::(cb,iL (some (.int bs v3)))::(F,bO [En x.B aq ks (.ref 288),En x.B aJ kc (.ref cl),En x.B bw k1 (.int sg v1),En x.B bz k2 (.int sd v2),En x.B bu k3 (.ref wd),En x.B bv k4 (.ref td)] 6)::(ws.reverse.map aZ++rest)) 0:=Rp.mid (hd:=[_,_]) (cs:=[_,_,_])
 dsimp only[bO,iL,fL] at Rp
 refine bS 1 ?_
 refine aa hh Rp [] 26 (dA 0x820804a) (dM 3) (cB "list.__getitem__" [.ref wd,.ref (N+0)]) [(N+0,oI "slice" #[.none,.none,.int (-1) (t+1)])] [] 1 2 ?_
 intro bT h1 N1 t1 Rp eE
 refine iW Rp 2 0 rfl rfl .none .none (.int _ _) (by simp) (by simp;exact DL mY) (lI _ (by simp;exact DK hl) (by simp;exact DJ mY)) fun gH jG a1 Rp=>?_
 refine aa hh Rp [] 25 (dA 0x18604618c) (dM 7) (ai (n5 x) (.ref (jG+1)) (au x F cb)) [(jG+1,oI "tuple_iterator" #[.ref (jG+0),.int 0 0]),(jG+0,oT #[.ref a1,.ref wd])] [.k,.d] 2 0 ?_
 intro bW h2 N2 t2 Rp dK
 refine af ?_
 refine aa hh Rp [] 49 (dA 0x618118624d0861c6186046) (dM 31) (.compStart (gI x) 0 (.ref (N2+1)) (.ref (N2+2)) (eC x F cb (N2+3))) [(N2+3,oD #[] 0),(N2+2,oL #[] 0),(N2+1,oI "tuple_iterator" #[.ref (N2+0),.int 0 0]),(N2+0,oT #[.int 0 (t2+1),.int 0 (t2+2),.int 1 (t2+3),.int 1 (t2+4)])] [.u fun _=>oI "tuple_iterator" #[.ref (jG+0),.int 1 0],.k,.k,.k,.k,.k,.k,.u (dU [] [En x.B cP (t2+0) (.ref a1)] 7)] 4 5 ?_
 intro cC h3 N3 t3 Rp eD
 refine eU (by rfl') Rp 2 rfl ?_
 refine ec x (A.under _) hh (by show A.depth+0<320;exact sH hA) _ F cb _ _ _ _ bs v3 _ _ _ _ h0 m5 _ _ _ _ _ _ _ (((((Rp.pull 10).pull 4).pull 4).pull 4).pull 4) fun h6 N6 t6 q0 hv hu n6 cs E Rp=>?_
 have Rp:Rep x.B N6 h6 (_::_::_::_::_::_::_::_::_::(cs++(ws.reverse.map aZ++rest))) 0:=Rp.mid (hd:=[_,_]) (T:=cs) (cs:=[_,_,_,_,_,_,_])
 show wpAny ..
 refine aa hh Rp [] 37 (dA 0x628128a38218628e) (dM 3) (ai (j6 x) (.ref (N6+0)) (au x F cb)) [(N6+0,oI "list_iterator" #[.ref a1,.int 0 0])] [.d,.k,.k,.k,.k,.k,.k,.k,.u (dU [] [En x.B bi (t6+0) (.ref (N2+2))] 8)] 1 1 ?_
 intro db h4 N4 t4 Rp gr
 have Rp:=Rep.rev3 (hd:=[_,_,_]) (a:=[_,_,_,_,_,_]) (b:=cs) (c:=ws.reverse.map aZ) (((Rp.pull 8).pull 5).pull 2)
 obtain⟨c0,sr⟩:∃c,(iF bs).run (wp ws.reverse)=c:=⟨_,rfl⟩
 refine BM x (A.under _) hh (by show A.depth+0<320;exact sH hA) _ F cb _ _ _ _ _ _ _ _ _ _ _ _ _ _ _ _ _ _ _ _ _ _ _ _ ws.reverse (by intro z;rw[List.reverse_eq_nil_iff] at z;rw[z] at hl;exact absurd hl (by decide)) (by simp) (fun w m=>fb w (List.mem_reverse.mp m)) (iF bs) (jj h0 m5) cs E _ _ _ _ Rp fun h7 N7 t7 kp up P k7 v7 CN cs E H1 Rp=>?_
 have E:Ends ((iF bs).run (wp ws.reverse)) _ _ cs:=E
 have H1:((iF bs).run (wp ws.reverse)).Ok:=H1
 rw[sr] at E H1
 rw[List.reverse_reverse] at Rp
 obtain⟨m0,sp⟩:∃m,fW (c0.k0-c0.k1)=m:=⟨_,rfl⟩
 obtain⟨m1,so⟩:∃m,fW (c0.k1-c0.k2)=m:=⟨_,rfl⟩
 show wpAny ..
 have Rp:Rep x.B N7 h7 (_::_::_::_::_::_::_::_::(cs++(ws.map aZ++rest))) 0:=Rp.out3 (hd:=[_,_]) (a:=cs) (b:=ws.map aZ) (c:=[_,_,_,_,_,_])
 dsimp only[bO,fL] at Rp
 refine aa hh Rp [] 26 (dA 0x4704b2cb2c7) [] (cR 282 [.ref (N2+2)]) [] [] 0 0 ?_
 intro dv h5 N5 t5 Rp mU
 refine fp x (A.under _) hh (by show A.depth+0<380;exact zq hA) _ _ H1 m0 m1 sp so _ _ cs E _ _ _ _ _ _ [_,_,_,_,_,_,_,_] _ Rp fun h8 N8 t8 a8 u8 w8 Rp=>?_
 have Rp:Rep x.B N8 h8 (_::_::_::_::_::_::_::_::_::(cs++(ws.map aZ++rest))) 0:=Rp
 show wpAny ..
 refine ab hh Rp [] 21 (dA 0xc20c301) [] (Fin.again (ai (n5 x) (.ref (jG+1)) (au x F cb))) [] [.k,.k,.k,.k,.k,.k,.u fun _=>oL #[.ref a8] 1] 0 0 ?_
 intro iM h9 N9 t9 Rp
 refine⟨rfl,?_⟩
 have Rp:Rep x.B N9 h9 (_::_::_::_::_::_::_::_::_::(ws.map aZ++(cs++rest))) 0:=Rp.mid (hd:=[_,_,_,_,_,_,_,_,_]) (T:=cs) (cs:=ws.map aZ)
 refine af ?_
 refine aa hh Rp [] 49 (dA 0x618118610818a2ca28a04a) (dM 31) (.compStart (gI x) 0 (.ref (N9+1)) (.ref (N9+2)) (eC x F cb (N9+3))) [(N9+3,oD #[] 0),(N9+2,oL #[] 0),(N9+1,oI "tuple_iterator" #[.ref (N9+0),.int 0 0]),(N9+0,oT #[.int 0 (t9+1),.int 0 (t9+2),.int 1 (t9+3),.int 1 (t9+4)])] [.k,.d,.u (dU [(6,.ref wd)] [] 10),.k,.u fun _=>oI "tuple_iterator" #[.ref (jG+0),.int 2 0]] 4 5 ?_
 intro iN lX mo fh Rp oj
 refine eU (by rfl') Rp 2 rfl ?_
 refine ec x (A.under _) hh (by show A.depth+0<320;exact sH hA) _ F cb _ _ _ _ bs v3 _ _ _ _ h0 m5 _ _ _ _ _ _ _ (((((Rp.pull 6).pull 4).pull 4).pull 4).pull 4) fun m7 lc lC q11 hv2 hu2 n11 mc E2 Rp=>?_
 have Rp:Rep x.B lc m7 (_::_::_::_::_::_::_::_::_::(mc++(ws.map aZ++(cs++rest)))) 0:=Rp.mid (hd:=[_,_]) (T:=mc) (cs:=[_,_,_,_,_,_,_])
 show wpAny ..
 refine aa hh Rp [] 37 (dA 0x634134d242186149) (dM 3) (ai (j6 x) (.ref (lc+0)) (au x F cb)) [(lc+0,oI "list_iterator" #[.ref wd,.int 0 0])] [.d,.k,.k,.u (dU [(7,.ref (N9+2))] [] 10)] 1 1 ?_
 intro mi q9 re lB Rp tT
 have Rp:=Rep.rev3 (hd:=[_,_,_]) (a:=[_,_,_,_,_,_]) (b:=mc) (c:=ws.map aZ) (((Rp.pull 3).pull 7).pull 2)
 obtain⟨c1,sq⟩:∃c,(iF bs).run (wp ws)=c:=⟨_,rfl⟩
 refine xZ x (A.under _) hh (by show A.depth+0<320;exact sH hA) _ F cb _ _ _ _ _ _ _ _ _ _ _ _ _ _ _ _ _ _ _ _ _ _ _ _ ws 0 (by simp) fb (iF bs) (jj h0 m5) mc E2 _ _ _ _ _ _ _ _ _ _ Rp fun q8 rd sE kp up P k7 v7 CN oA E3 H3 Rp=>?_
 have E3:Ends ((iF bs).run (wp ws)) _ _ oA:=E3
 have H3:((iF bs).run (wp ws)).Ok:=H3
 rw[sq] at E3 H3
 obtain⟨n0,sn⟩:∃m,fW (c1.k0-c1.k1)=m:=⟨_,rfl⟩
 obtain⟨n1,l9⟩:∃m,fW (c1.k1-c1.k2)=m:=⟨_,rfl⟩
 show wpAny ..
 have Rp:Rep x.B rd q8 (_::_::_::_::_::_::_::_::(oA++(ws.reverse.map aZ++(cs++rest)))) 0:=Rp.out3 (hd:=[_,_]) (a:=oA) (b:=ws.reverse.map aZ) (c:=[_,_,_,_,_,_])
 dsimp only[bO,fL] at Rp
 refine aa hh Rp [] 26 (dA 0x4704c30c307) [] (cR 282 [.ref (N9+2)]) [] [] 0 0 ?_
 intro sy yo zb wB Rp kk14
 refine fp x (A.under _) hh (by show A.depth+0<380;exact zq hA) _ _ H3 n0 n1 sn l9 _ _ oA E3 _ _ _ _ _ _ [_,_,_,_,_,_,_,_] _ Rp fun wf wh ze CH u15 w15 Rp=>?_
 have Rp:Rep x.B wh wf (_::_::_::_::_::_::_::_::_::(oA++(ws.reverse.map aZ++(cs++rest)))) 0:=Rp
 show wpAny ..
 refine ab hh Rp [] 21 (dA 0xd24d341) [] (Fin.again (ai (n5 x) (.ref (jG+1)) (au x F cb))) [] [.k,.k,.k,.k,.k,.k,.k,.u fun _=>oL #[.ref a8,.ref CH] 2] 0 0 ?_
 intro sx Ab Ai zd Rp
 refine⟨rfl,?_⟩
 refine aX hh Rp [] 28 (dA 0x61cb30b2cb04b) (dM 4) (.ok .next) [] [.k,.k,.k,.k,.k,.u fun _=>oI "tuple_iterator" #[.none,.int 2 0]] 2 0 ?_
 intro sw Aa Ah zc Rp
 show wpAny ..
 refine ab hh Rp [] 11 (dA 0x0) [] Flow.next [] [.k,.d,.k,.d,.k,.d,.d] 0 0 ?_
 intro Tb18 h18 N18 t18 Rp
 exact K _ _ _ _ _ _ _ _ _ _ _ _ _ kp up k7 v7 _ _ m0 m1 n0 n1 P CN c0 c1 oA sr sq sp so sn l9 E3 H3 ((Rp.pull 2).pull 3)
theorem nO(x:W2)(A:Around)(hh:A.handled=none)(hA:A.depth<480)(R:Result→Shared→Prop)(a:Int)(uK:Env)(L:Addr)(gv:A.frames=some [uK])(hf:uK.frame=some L)
 (ta tb:Nat) (N t:Nat) (h:Heap) (gl d os) (rest:ae) (es:Array DictEntry) (n:Nat) (sl:Array (Option Value)) (Rp:Rep x.B N h ((L,iC es n sl)::rest) 0)
 (K:∀h' N' t' e u jS T ts,ts.size=11→ts[3]? =some .none→Rep x.B N' h' ((T,oY ts)::(e,nW u (.ref T))::(L,iC es n jS)::rest) 0→R (.error (.ref e)) ⟨h',gl,d,t',os⟩):
 codeAny (MB x.B) A (.call (.ref 80) ⟨[.int a ta,.int 0 tb],[]⟩) R ⟨h,gl,d,t,os⟩:=by
 refine uM hh Rp (by first|assumption|(simp only[Around.under,Code.weight,recursionLimit] at*;omega)) 22 [0,0,5,1,5,1] [] (am (fdOf x.B 80)) (envOf (fdOf x.B 80) 80 (N+0)) ((N+0,⟨.type "frame",none,.dict #[En x.B eI (t+0) (.int (a) ta),En x.B fT (t+1) (.int 0 tb)] 2,#[]⟩)::(L,⟨.type "frame",none,.dict es n,sl⟩)::rest) 1 2 (by rfl') fun h1 N1 t1 Rp=>?_
 refine seg_call hh Rp 25 [5,0,0,0] [true,true] (.call (.type "ZeroDivisionError") ⟨[],[]⟩) ((N+0,⟨.type "frame",none,.dict #[En x.B eI (t+0) (.int (a) ta),En x.B fT (t+1) (.int 0 tb)] 2,#[]⟩)::(L,⟨.type "frame",none,.dict es n,sl⟩)::rest) 0 1 (by rfl') fun h2 N2 t2 Rp=>?_
 refine af ?_
 refine aE hh Rp 11 [] [true,true] (Fin.again (.builtin "type.__call__" ⟨[.type "ZeroDivisionError"],[]⟩)) ((N+0,⟨.type "frame",none,.dict #[En x.B eI (t+0) (.int (a) ta),En x.B fT (t+1) (.int 0 tb)] 2,#[]⟩)::(L,⟨.type "frame",none,.dict es n,sl⟩)::rest) 0 0 (by rfl') fun h3 N3 t3 Rp=>?_
 refine⟨Code.quiet_builtin _ (by decide+kernel),af ?_⟩
 refine seg_call hh Rp 11 [] [true,true] (.call (.builtin "ZeroDivisionError.__new__") ⟨[.type "ZeroDivisionError"],[]⟩) ((N+0,⟨.type "frame",none,.dict #[En x.B eI (t+0) (.int (a) ta),En x.B fT (t+1) (.int 0 tb)] 2,#[]⟩)::(L,⟨.type "frame",none,.dict es n,sl⟩)::rest) 0 0 (by rfl') fun h4 N4 t4 Rp=>?_
 refine yH hh Rp fun hz Nz tz ez uz Rp=>?_
 refine aE hh Rp 23 [5,5,0,5,5,6,6,2] [true,true,true,true,true] (Fin.done (Flow.ret (.ref ez))) ((Nz+0,⟨.type "tuple",none,.seq #[] 0,#[]⟩)::(ez,⟨.type "ZeroDivisionError",none,.fields #[.ref (Nz+0),.none,.none,.none,.bool false,.none],#[]⟩)::(uz,⟨.type "tuple",none,.seq #[] 0,#[]⟩)::(N+0,⟨.type "frame",none,.dict #[En x.B eI (t+0) (.int (a) ta),En x.B fT (t+1) (.int 0 tb)] 2,#[]⟩)::(L,⟨.type "frame",none,.dict es n,sl⟩)::rest) 1 0 (by rfl') fun h5 N5 t5 Rp=>?_
 show wpAny ..
 refine kB hh Rp 19 [6,6,0,6] [false,true,false,true,true] (.ref ez) ((ez,⟨.type "ZeroDivisionError",none,.fields #[.ref (Nz+0),.none,.none,.none,.bool false,.none],#[]⟩)::(N+0,⟨.type "frame",none,.dict #[En x.B eI (t+0) (.int (a) ta),En x.B fT (t+1) (.int 0 tb)] 2,#[]⟩)::(L,⟨.type "frame",none,.dict es n,sl⟩)::rest) 0 0 (by rfl') fun h6 N6 t6 Rp=>?_
 have hk:(envOf (fdOf x.B 80) 80 (N+0)).scope.kind=.function:=by rfl'
 refine tR (L:=N+0) (L':=L) (env':=uK) (by unfold Around.under;dsimp only;rw[gv];rfl) (by rw[hk];decide) rfl hf (Rp.perm (List.perm_middle (l₁:=[_,_])).symm) fun h' N' jS T ts mW h3 Rp=>?_
 exact K _ _ _ _ _ _ _ _ mW h3 Rp
theorem uY{a b:Int}(ha:-(2^20)<a∧a<2^20)(hb:-(2^20)<b∧b<2^20):-(2^41)<a*b∧a*b<2^41:=by
 have h1:(a*b).natAbs≤2^20*2^20:=by
  rw[Int.natAbs_mul]
  exact Nat.mul_le_mul (by exact DI ha) (by exact DI hb)
 omega
theorem kI(x:W2)(A:Around)(hh:A.handled=none)(hA:A.depth<460)(R:Result→Shared→Prop)(a b q r:Int)(ha:-(2^58)<a)(m6:a<2^58)(hb:b≠0)(fv:-1073741824<b∧b<1073741824)(hq:a.fdiv b=q)(hr:a.fmod b=r)
 (ta tb:Nat) (N t:Nat) (h:Heap) (gl d os) (rest:ae) (Rp:Rep x.B N h rest 0)
 (K:∀h' N' t' a u v,Rep x.B N' h' ((a,⟨.type "tuple",none,.seq #[.int q u,.int r v] 0,#[]⟩)::rest) 0→R (.ok (.ret (.ref a))) ⟨h',gl,d,t',os⟩):
 codeAny (MB x.B) A (.call (.ref 80) ⟨[.int a ta,.int b tb],[]⟩) R ⟨h,gl,d,t,os⟩:=by
 rcases Int.lt_or_gt_of_ne hb with c|c
 ·exact tY x A hh hA R a b q r ha m6 c fv.1 hq hr ta tb N t h gl d os rest Rp K
 ·exact gu x A hh (by omega) R a b q r ha m6 c fv.2 hq hr ta tb N t h gl d os rest Rp K
theorem CQ(bb:Bool)(x:W2)(A:Around)(hh:A.handled=none)(hA:A.depth<310)(Q:Flow→Shared→Prop)(F cb a b:Addr)(ua va ub vb nt:Nat)(n0 m1 n1:Int)(ks kc kp up kd ud k1 v1 k2 v2 k3 k4 k5 k6 k7 v7:Nat)(P D sg sd CN:Int)(wd td el cl:Addr)
 (N t:Nat) (h:Heap) (gl d os) (rest:ae)
 (Rp:Rep x.B N h ((td,an #[.ref a,.ref b] nt)::(a,an #[.int n0 ua,.int m1 va] 2)::(b,an #[.int n0 ub,.int n1 vb] 2)::(F,eQ bb x ks kc cl k1 sg v1 k2 sd v2 k3 wd k4 td k5 wd k6 el k7 CN v7 kd D ud kp P up [] (cond bb 11 10) #[])::rest) 0)
 (K:∀h' N' t' k8,Rep x.B N' h' ((td,an #[.ref a,.ref b] nt)::(a,an #[.int n0 ua,.int m1 va] 2)::(b,an #[.int n0 ub,.int n1 vb] 2)::(F,eQ bb x ks kc cl k1 sg v1 k2 sd v2 k3 wd k4 td k5 wd k6 el k7 CN v7 kd D ud kp P up [En x.B aM k8 (.ref b)] (cond bb 12 11) #[])::rest) 0→wpAny (MB x.B) A (aj (am (fdOf x.B 287) |>.drop 7) (au x F cb)) Q (fun _ _=>False) ⟨h',gl,d,t',os⟩):
 wpAny (MB x.B) A (aj (am (fdOf x.B 287) |>.drop 6) (au x F cb)) Q (fun _ _=>False) ⟨h,gl,d,t,os⟩:=by
 let sb:=bb
 cases bb
 all_goals
  refine bS 1 ?_
  refine ab hh Rp [] 31 (dA 0x5246181186189) [] Flow.next [] [.k,.k,.k,.u (dU [] [En x.B aM (t+1) (.ref b)] (cond sb 12 11))] 0 2 ?_
  intro bT h1 N1 t1 Rp
  exact K _ _ _ _ Rp
theorem CP(bb:Bool)(x:W2)(A:Around)(hh:A.handled=none)(hA:A.depth<310)(Q:Flow→Shared→Prop)(F cb a b:Addr)(gv:A.frames=some [au x F cb])(ua va ub vb nt k8:Nat)(n0 m1 n1:Int)(ks kc kp up kd ud k1 v1 k2 v2 k3 k4 k5 k6 k7 v7:Nat)(P D sg sd CN:Int)(wd td el cl:Addr)(bn0:-(2^20)<n0∧n0<2^20)(bm1:-(2^20)<m1∧m1<2^20)(uX:-(2^20)<n1∧n1<2^20)(hr:(m1*n1-1).fmod n0=0)
 (N t:Nat) (h:Heap) (gl d os) (rest:ae)
 (Rp:Rep x.B N h ((td,an #[.ref a,.ref b] nt)::(a,an #[.int n0 ua,.int m1 va] 2)::(b,an #[.int n0 ub,.int n1 vb] 2)::(F,eQ bb x ks kc cl k1 sg v1 k2 sd v2 k3 wd k4 td k5 wd k6 el k7 CN v7 kd D ud kp P up [En x.B aM k8 (.ref b)] (cond bb 12 11) #[])::rest) 0)
 (K:∀h' N' t' k9 v9 sl,Rep x.B N' h' ((td,an #[.ref a,.ref b] nt)::(a,an #[.int n0 ua,.int m1 va] 2)::(b,an #[.int n0 ub,.int n1 vb] 2)::(F,eQ bb x ks kc cl k1 sg v1 k2 sd v2 k3 wd k4 td k5 wd k6 el k7 CN v7 kd D ud kp P up [En x.B aM k8 (.ref b),En x.B bH k9 (.int 0 v9)] (cond bb 13 12) sl)::rest) 0→wpAny (MB x.B) A (aj (am (fdOf x.B 287) |>.drop 8) (au x F cb)) Q (fun _ _=>False) ⟨h',gl,d,t',os⟩):
 wpAny (MB x.B) A (aj (am (fdOf x.B 287) |>.drop 7) (au x F cb)) Q (fun _ _=>False) ⟨h,gl,d,t,os⟩:=by
 let sb:=bb
 cases bb
 all_goals
  have bp:=uY bm1 uX
  obtain⟨p,hp⟩:∃p,m1*n1=p:=⟨_,rfl⟩
  rw[hp] at hr bp
  refine bS 1 ?_
  refine mF (s:=ah x.B 287 7) (L:=F) (by rfl') (by rfl') gv rfl ?_
  by_cases hz:n0=0
  ·subst hz
   have hr:p-1=0:=by rw[Int.fmod_zero] at hr;exact hr
   refine aa hh Rp [aI "int.__mul__" [.int (m1) va,.int (n1) vb] (p)] 72 (dA 0x482012082090422080482082411c70471c7186046186241) [] (cR 80 [.int (p-1) (t+5),.int 0 ub]) [] [] 0 7 ?_ (aC (cj (.inr (intBits_le_64 (by exact Ba uX) (by exact A9 uX))) (by exact lL hp)) aN)
   intro bT h1 N1 t1 Rp eE
   refine nO x A hh (by exact Hm hA) _ _ (au x F cb) F gv rfl _ _ _ _ _ _ _ _ _ _ _ _ (Rp.pull 3) fun h3 N3 t3 e3 u3 AM T3 s8 uf ui Rp=>?_
   show wpAny ..
   have Rp:Rep x.B N3 h3 (_::_::_::_::_::_::rest) 0:=Rp
   refine gZ hh Rp [] 11 (dA 0x0) [] (.ref e3) [] [] 0 0 ?_
   intro bW h2 N2 t2 Rp
   refine⟨e3,u3,T3,s8,_,_,_,_,_,_,_,_,_,_,rfl,uf,ui,Rp,rfl,fun h5 N5 t5 tA T5 As Rp=>?_,fun h5 N5 t5 tA Rp=>?_⟩
   ·refine dJ (some (.ref e3)) rfl Rp [] 14 (dA 0x41) [] (.type "ZeroDivisionError") [] [] 0 0 (by rfl') aN ?_
    intro db h4 N4 t4 Rp
    exact⟨rfl,_,_,_,Rp,rfl⟩
   ·refine dJ (some (.ref e3)) rfl Rp [aI "int.__mul__" [.int (m1) va,.int (n1) vb] (p)] 63 (dA 0x21810892412492460482012082071c11c71c6) [] Flow.next [] [.u (dU [] [En x.B bH (t5+6) (.int (p-1) (t5+5))] (cond sb 13 12))] 0 7 (by rfl') (aC (cj (.inr (intBits_le_64 (by exact Ba uX) (by exact A9 uX))) (by exact lL hp)) aN) ?_
    intro db h4 N4 t4 Rp
    dsimp only[db] at Rp;rw[hr] at Rp
    exact K _ _ _ _ _ _ (((Rp.pull 3).pull 3).pull 3)
  ·skip
   refine aa hh Rp [aI "int.__mul__" [.int (m1) va,.int (n1) vb] (p)] 72 (dA 0x482012082090422080482082411c70471c7186046186241) [] (cR 80 [.int (p-1) (t+5),.int (n0) ub]) [] [] 0 7 ?_ (aC (cj (.inr (intBits_le_64 (by exact Ba uX) (by exact A9 uX))) (by exact lL hp)) aN)
   intro bT h1 N1 t1 Rp eE
   refine kI x A hh (by exact Hl hA) _ _ _ _ _ (by exact Hk bp) (by exact Hj bp) hz (by exact Hi bn0) rfl hr _ _ _ _ _ _ _ _ _ Rp fun h3 N3 t3 a3 u3 v3 Rp=>?_
   show wpAny ..
   refine ab hh Rp [] 31 (dA 0x6281186046186) [] Flow.next [] [.d,.k,.k,.k,.u (dU [] [En x.B bH (t3+1) (.int 0 v3)] (cond sb 13 12))] 0 2 ?_
   intro bW h2 N2 t2 Rp
   exact K _ _ _ _ _ _ Rp
theorem CO(bb:Bool)(x:W2)(A:Around)(hh:A.handled=none)(hA:A.depth<310)(Q:Flow→Shared→Prop)(F cb a b:Addr)(ua va ub vb nt k8 k9 v9:Nat)(n0 m1 n1:Int)(ks kc kp up kd ud k1 v1 k2 v2 k3 k4 k5 k6 k7 v7:Nat)(P D sg sd CN:Int)(wd td el cl:Addr)(sl:Array (Option Value))
 (N t:Nat) (h:Heap) (gl d os) (rest:ae)
 (Rp:Rep x.B N h ((td,an #[.ref a,.ref b] nt)::(a,an #[.int n0 ua,.int m1 va] 2)::(b,an #[.int n0 ub,.int n1 vb] 2)::(F,eQ bb x ks kc cl k1 sg v1 k2 sd v2 k3 wd k4 td k5 wd k6 el k7 CN v7 kd D ud kp P up [En x.B aM k8 (.ref b),En x.B bH k9 (.int 0 v9)] (cond bb 13 12) sl)::rest) 0)
 (K:∀h' N' t',Rep x.B N' h' ((b,an #[.int n0 ub,.int n1 vb] 2)::(F,eQ bb x ks kc cl k1 sg v1 k2 sd v2 k3 wd k4 td k5 wd k6 el k7 CN v7 kd D ud kp P up [En x.B aM k8 (.ref b),En x.B bH k9 (.int 0 v9)] (cond bb 13 12) sl)::rest) 0→wpAny (MB x.B) A (aj (am (fdOf x.B 287) |>.drop 9) (au x F cb)) Q (fun _ _=>False) ⟨h',gl,d,t',os⟩):
 wpAny (MB x.B) A (aj (am (fdOf x.B 287) |>.drop 8) (au x F cb)) Q (fun _ _=>False) ⟨h,gl,d,t,os⟩:=by
 let sb:=bb
 cases bb
 all_goals
  refine bS 1 ?_
  refine ab hh Rp [aB "int.__ne__" [.int (n0) ua,.int (n0) ub] false] 59 (dA 0x490882012082090471c11c71c6181186189) [] Flow.next [] [.d,.d] 0 4 ?_ (aC (pU (decide_eq_false (by exact Hh))) aN)
  intro bT h1 N1 t1 Rp
  exact K _ _ _ Rp
noncomputable def iJ(x:W2):Expr:=me (ah x.B 287 9)
noncomputable def eJ(x:W2)(F cb C:Addr):Env:=fc (au x F cb) (iJ x) C []
noncomputable def jD(S:Int):List Nat:=if S=2^24 then[97] else[97,98]
theorem iu{Sh z:Int}{u v:Nat}(hS:bg Sh)(hz:(2^25-2*Sh)/2^24=z):∃w,(#[Value.str eI u,.str ir v]:Array Value)[z.toNat]? =some (.str (S (jD Sh)) w):=by
 rcases hS with rfl|rfl
 ·subst hz
  exact⟨u,rfl⟩
 ·subst hz
  exact⟨v,rfl⟩
theorem HC(x:W2)(A:Around)(hh:A.handled=none)(hA:A.depth<800)(R:Result→Shared→Prop)(F cb:Addr)(k Sh:Int)(hS:bg Sh)(aO:0≤k)(hk:k<2^20)(items vs:Array Value)(lS:vs.size<60)(n0 nv j:Nat)
 (a C cD it el:Addr) (r g b:Value) (hc:b7 k Sh r g b) (hj:items[j]? =some (.ref a))
 (N t:Nat) (h:Heap) (gl d os) (rest:ae)
 (Rp:Rep x.B N h ((C,⟨.type "dict",none,.dict #[] 0,#[]⟩)::(cD,an vs nv)::(it,aD el (j:Int))::(el,an items n0)::(a,cq r g b)::rest) 0)
 (K:∀h' N' t' q1 q2 q3 v1 v2 v3 u,Rep x.B N' h' ((C,⟨.type "dict",none,.dict #[En x.B c9 q1 v1,En x.B bJ q2 v2,En x.B ch q3 v3] 3,#[]⟩)::(cD,an (vs.push (.str (S (jD Sh)) u)) (nv+1))::(it,aD el ((j+1:Nat):Int))::(el,an items n0)::(a,cq r g b)::rest) 0→codeAny (MB x.B) A (.compLoop (iJ x) 0 (.ref it) (.ref cD) (eJ x F cb C)) R ⟨h',gl,d,t',os⟩):
 codeAny (MB x.B) A (.compLoop (iJ x) 0 (.ref it) (.ref cD) (eJ x F cb C)) R ⟨h,gl,d,t,os⟩:=by
 obtain⟨z,hz⟩:∃z,(2^25-2*Sh)/2^24=z:=⟨_,rfl⟩
 have aU:0<Sh∧Sh≤2^24∧0≤z∧z<2:=by subst hz;rcases hS with rfl|rfl<;>decide
 rcases hc.shape with⟨i,ti,fx,ux,fy,uy,rfl,rfl,rfl⟩|⟨i,ti,fx,ux,fy,uy,rfl,rfl,rfl⟩|⟨i,ti,fx,ux,fy,uy,rfl,rfl,rfl⟩
 ·refine af ?_
  refine aa hh Rp [] 13 (dA 0x8) [] (cB "list_iterator.__next__" [.ref it]) [] [] 0 0 ?_
  intro bT h1 N1 t1 Rp eE
  refine b6 Rp 2 3 rfl rfl hj rfl fun gH Rp=>?_
  try dsimp only[bm] at Rp
  refine aa hh Rp [] 108 (dA 0x128a28104114914914918218b18618118218b18618118218b18618118218b18618118628128a288) (dM 17) (cR 94 [.int (i) ti,.float (fx) ux,.float (fy) uy]) [(N1+3,oL #[.str eI (t1+3),.str ir (t1+4)] 0)] [.u fun _=>oD #[En x.B c9 (t1+0) (.int (i) ti),En x.B bJ (t1+1) (.float (fx) ux),En x.B ch (t1+2) (.float (fy) uy)] 3] 4 7 ?_
  intro bW h2 N2 t2 Rp dK
  refine ct x (A.under _) hh (by show A.depth+0<900;exact fB hA) _ k Sh aO hk hS _ _ _ hc _ _ _ _ _ _ _ Rp fun gw jn ap ac uc vc wc hw Rp=>?_
  refine aa hh Rp [aF "float.__rmul__" [.float (fl Sh) vc,.int 2 (t1+6)] (2*Sh),aF "float.__rsub__" [.float (fl (2*Sh)) (ap+1),.int 2 (t1+5)] ((33554432)- (2*Sh)),aI "float.__int__" [.float (fl (33554432-2*Sh)) (ap+2)] (z)] 55 (dA 0x1c71c1101043042041186046186) [] (cB "list.__getitem__" [.ref (N1+3),.int (z) (ap+3)]) [] [.d] 0 4 ?_ (aC (a9 rfl (by exact vG aU) (by unfold ag;decide) (by exact oP aU) (by exact vx aU) (by decide) (by exact vw)) (aC (ao rfl (by exact oP aU) (by unfold ag;decide) (by exact oO aU) (by exact vt)) (aC (aV rfl (by exact oO aU) (by exact vq aU) (by exact vp hz)) aN)))
  intro cC h3 N3 t3 Rp eD
  obtain⟨w,hx⟩:=iu (u:=t1+3) (v:=t1+4) hS hz
  refine g6 Rp 0 rfl aU.2.2.1 (by exact vo aU) hx ?_
  refine aa hh Rp [] 13 (dA 0x1) [] (cB "list.append" [.ref cD,.str (S (jD Sh)) w]) [] [.d] 0 0 ?_
  intro db h4 N4 t4 Rp gr
  refine bn Rp 1 rfl (by exact jt lS) rfl fun jw Rp=>?_
  try dsimp only[bm] at Rp
  refine ab hh Rp [] 11 (dA 0x0) [] (Fin.again (.compLoop (iJ x) 0 (.ref it) (.ref cD) (eJ x F cb C))) [] [] 0 0 ?_
  intro dv h5 N5 t5 Rp
  exact⟨rfl,K _ _ _ _ _ _ _ _ _ _ Rp⟩
 ·refine af ?_
  refine aa hh Rp [] 13 (dA 0x8) [] (cB "list_iterator.__next__" [.ref it]) [] [] 0 0 ?_
  intro bT h1 N1 t1 Rp eE
  refine b6 Rp 2 3 rfl rfl hj rfl fun gH Rp=>?_
  try dsimp only[bm] at Rp
  refine aa hh Rp [] 108 (dA 0x128a28104114914914918218b18618118218b18618118218b18618118218b18618118628128a288) (dM 17) (cR 94 [.float (fx) ux,.int (i) ti,.float (fy) uy]) [(N1+3,oL #[.str eI (t1+3),.str ir (t1+4)] 0)] [.u fun _=>oD #[En x.B c9 (t1+0) (.float (fx) ux),En x.B bJ (t1+1) (.int (i) ti),En x.B ch (t1+2) (.float (fy) uy)] 3] 4 7 ?_
  intro bW h2 N2 t2 Rp dK
  refine ct x (A.under _) hh (by show A.depth+0<900;exact fB hA) _ k Sh aO hk hS _ _ _ hc _ _ _ _ _ _ _ Rp fun gw jn ap ac uc vc wc hw Rp=>?_
  refine aa hh Rp [aF "float.__rmul__" [.float (fl Sh) vc,.int 2 (t1+6)] (2*Sh),aF "float.__rsub__" [.float (fl (2*Sh)) (ap+1),.int 2 (t1+5)] ((33554432)- (2*Sh)),aI "float.__int__" [.float (fl (33554432-2*Sh)) (ap+2)] (z)] 55 (dA 0x1c71c1101043042041186046186) [] (cB "list.__getitem__" [.ref (N1+3),.int (z) (ap+3)]) [] [.d] 0 4 ?_ (aC (a9 rfl (by exact vG aU) (by unfold ag;decide) (by exact oP aU) (by exact vx aU) (by decide) (by exact vw)) (aC (ao rfl (by exact oP aU) (by unfold ag;decide) (by exact oO aU) (by exact vt)) (aC (aV rfl (by exact oO aU) (by exact vq aU) (by exact vp hz)) aN)))
  intro cC h3 N3 t3 Rp eD
  obtain⟨w,hx⟩:=iu (u:=t1+3) (v:=t1+4) hS hz
  refine g6 Rp 0 rfl aU.2.2.1 (by exact vo aU) hx ?_
  refine aa hh Rp [] 13 (dA 0x1) [] (cB "list.append" [.ref cD,.str (S (jD Sh)) w]) [] [.d] 0 0 ?_
  intro db h4 N4 t4 Rp gr
  refine bn Rp 1 rfl (by exact jt lS) rfl fun jw Rp=>?_
  try dsimp only[bm] at Rp
  refine ab hh Rp [] 11 (dA 0x0) [] (Fin.again (.compLoop (iJ x) 0 (.ref it) (.ref cD) (eJ x F cb C))) [] [] 0 0 ?_
  intro dv h5 N5 t5 Rp
  exact⟨rfl,K _ _ _ _ _ _ _ _ _ _ Rp⟩
 ·refine af ?_
  refine aa hh Rp [] 13 (dA 0x8) [] (cB "list_iterator.__next__" [.ref it]) [] [] 0 0 ?_
  intro bT h1 N1 t1 Rp eE
  refine b6 Rp 2 3 rfl rfl hj rfl fun gH Rp=>?_
  try dsimp only[bm] at Rp
  refine aa hh Rp [] 108 (dA 0x128a28104114914914918218b18618118218b18618118218b18618118218b18618118628128a288) (dM 17) (cR 94 [.float (fx) ux,.float (fy) uy,.int (i) ti]) [(N1+3,oL #[.str eI (t1+3),.str ir (t1+4)] 0)] [.u fun _=>oD #[En x.B c9 (t1+0) (.float (fx) ux),En x.B bJ (t1+1) (.float (fy) uy),En x.B ch (t1+2) (.int (i) ti)] 3] 4 7 ?_
  intro bW h2 N2 t2 Rp dK
  refine ct x (A.under _) hh (by show A.depth+0<900;exact fB hA) _ k Sh aO hk hS _ _ _ hc _ _ _ _ _ _ _ Rp fun gw jn ap ac uc vc wc hw Rp=>?_
  refine aa hh Rp [aF "float.__rmul__" [.float (fl Sh) vc,.int 2 (t1+6)] (2*Sh),aF "float.__rsub__" [.float (fl (2*Sh)) (ap+1),.int 2 (t1+5)] ((33554432)- (2*Sh)),aI "float.__int__" [.float (fl (33554432-2*Sh)) (ap+2)] (z)] 55 (dA 0x1c71c1101043042041186046186) [] (cB "list.__getitem__" [.ref (N1+3),.int (z) (ap+3)]) [] [.d] 0 4 ?_ (aC (a9 rfl (by exact vG aU) (by unfold ag;decide) (by exact oP aU) (by exact vx aU) (by decide) (by exact vw)) (aC (ao rfl (by exact oP aU) (by unfold ag;decide) (by exact oO aU) (by exact vt)) (aC (aV rfl (by exact oO aU) (by exact vq aU) (by exact vp hz)) aN)))
  intro cC h3 N3 t3 Rp eD
  obtain⟨w,hx⟩:=iu (u:=t1+3) (v:=t1+4) hS hz
  refine g6 Rp 0 rfl aU.2.2.1 (by exact vo aU) hx ?_
  refine aa hh Rp [] 13 (dA 0x1) [] (cB "list.append" [.ref cD,.str (S (jD Sh)) w]) [] [.d] 0 0 ?_
  intro db h4 N4 t4 Rp gr
  refine bn Rp 1 rfl (by exact jt lS) rfl fun jw Rp=>?_
  try dsimp only[bm] at Rp
  refine ab hh Rp [] 11 (dA 0x0) [] (Fin.again (.compLoop (iJ x) 0 (.ref it) (.ref cD) (eJ x F cb C))) [] [] 0 0 ?_
  intro dv h5 N5 t5 Rp
  exact⟨rfl,K _ _ _ _ _ _ _ _ _ _ Rp⟩
theorem BJ(x:W2)(A:Around)(hh:A.handled=none)(hA:A.depth<800)(R:Result→Shared→Prop)(F cb:Addr)(k Sh:Int)(hS:bg Sh)(aO:0≤k)(hk:k<2^20)(items vs:Array Value)(lS:vs.size<60)(n0 nv j:Nat)
 (a C cD it el:Addr) (r g b:Value) (hc:b7 k Sh r g b) (hj:items[j]? =some (.ref a)) (q1 q2 q3:Nat) (v1 v2 v3:Value)
 (N t:Nat) (h:Heap) (gl d os) (rest:ae)
 (Rp:Rep x.B N h ((C,⟨.type "dict",none,.dict #[En x.B c9 q1 v1,En x.B bJ q2 v2,En x.B ch q3 v3] 3,#[]⟩)::(cD,an vs nv)::(it,aD el (j:Int))::(el,an items n0)::(a,cq r g b)::rest) 0)
 (K:∀h' N' t' q1 q2 q3 v1 v2 v3 u,Rep x.B N' h' ((C,⟨.type "dict",none,.dict #[En x.B c9 q1 v1,En x.B bJ q2 v2,En x.B ch q3 v3] 3,#[]⟩)::(cD,an (vs.push (.str (S (jD Sh)) u)) (nv+1))::(it,aD el ((j+1:Nat):Int))::(el,an items n0)::(a,cq r g b)::rest) 0→codeAny (MB x.B) A (.compLoop (iJ x) 0 (.ref it) (.ref cD) (eJ x F cb C)) R ⟨h',gl,d,t',os⟩):
 codeAny (MB x.B) A (.compLoop (iJ x) 0 (.ref it) (.ref cD) (eJ x F cb C)) R ⟨h,gl,d,t,os⟩:=by
 obtain⟨z,hz⟩:∃z,(2^25-2*Sh)/2^24=z:=⟨_,rfl⟩
 have aU:0<Sh∧Sh≤2^24∧0≤z∧z<2:=by subst hz;rcases hS with rfl|rfl<;>decide
 rcases hc.shape with⟨i,ti,fx,ux,fy,uy,rfl,rfl,rfl⟩|⟨i,ti,fx,ux,fy,uy,rfl,rfl,rfl⟩|⟨i,ti,fx,ux,fy,uy,rfl,rfl,rfl⟩
 ·refine af ?_
  refine aa hh Rp [] 13 (dA 0x8) [] (cB "list_iterator.__next__" [.ref it]) [] [] 0 0 ?_
  intro bT h1 N1 t1 Rp eE
  refine b6 Rp 2 3 rfl rfl hj rfl fun gH Rp=>?_
  try dsimp only[bm] at Rp
  refine aa hh Rp [] 108 (dA 0x128a28104114914914918218b18618118218b18618118218b18618118218b18618118628128a288) (dM 17) (cR 94 [.int (i) ti,.float (fx) ux,.float (fy) uy]) [(N1+3,oL #[.str eI (t1+3),.str ir (t1+4)] 0)] [.u (dU [(0,.int (i) ti),(1,.float (fx) ux),(2,.float (fy) uy)] [] 3)] 4 7 ?_
  intro bW h2 N2 t2 Rp dK
  refine ct x (A.under _) hh (by show A.depth+0<900;exact fB hA) _ k Sh aO hk hS _ _ _ hc _ _ _ _ _ _ _ Rp fun gw jn ap ac uc vc wc hw Rp=>?_
  refine aa hh Rp [aF "float.__rmul__" [.float (fl Sh) vc,.int 2 (t1+6)] (2*Sh),aF "float.__rsub__" [.float (fl (2*Sh)) (ap+1),.int 2 (t1+5)] ((33554432)- (2*Sh)),aI "float.__int__" [.float (fl (33554432-2*Sh)) (ap+2)] (z)] 55 (dA 0x1c71c1101043042041186046186) [] (cB "list.__getitem__" [.ref (N1+3),.int (z) (ap+3)]) [] [.d] 0 4 ?_ (aC (a9 rfl (by exact vG aU) (by unfold ag;decide) (by exact oP aU) (by exact vx aU) (by decide) (by exact vw)) (aC (ao rfl (by exact oP aU) (by unfold ag;decide) (by exact oO aU) (by exact vt)) (aC (aV rfl (by exact oO aU) (by exact vq aU) (by exact vp hz)) aN)))
  intro cC h3 N3 t3 Rp eD
  obtain⟨w,hx⟩:=iu (u:=t1+3) (v:=t1+4) hS hz
  refine g6 Rp 0 rfl aU.2.2.1 (by exact vo aU) hx ?_
  refine aa hh Rp [] 13 (dA 0x1) [] (cB "list.append" [.ref cD,.str (S (jD Sh)) w]) [] [.d] 0 0 ?_
  intro db h4 N4 t4 Rp gr
  refine bn Rp 1 rfl (by exact jt lS) rfl fun jw Rp=>?_
  try dsimp only[bm] at Rp
  refine ab hh Rp [] 11 (dA 0x0) [] (Fin.again (.compLoop (iJ x) 0 (.ref it) (.ref cD) (eJ x F cb C))) [] [] 0 0 ?_
  intro dv h5 N5 t5 Rp
  exact⟨rfl,K _ _ _ _ _ _ _ _ _ _ Rp⟩
 ·refine af ?_
  refine aa hh Rp [] 13 (dA 0x8) [] (cB "list_iterator.__next__" [.ref it]) [] [] 0 0 ?_
  intro bT h1 N1 t1 Rp eE
  refine b6 Rp 2 3 rfl rfl hj rfl fun gH Rp=>?_
  try dsimp only[bm] at Rp
  refine aa hh Rp [] 108 (dA 0x128a28104114914914918218b18618118218b18618118218b18618118218b18618118628128a288) (dM 17) (cR 94 [.float (fx) ux,.int (i) ti,.float (fy) uy]) [(N1+3,oL #[.str eI (t1+3),.str ir (t1+4)] 0)] [.u (dU [(0,.float (fx) ux),(1,.int (i) ti),(2,.float (fy) uy)] [] 3)] 4 7 ?_
  intro bW h2 N2 t2 Rp dK
  refine ct x (A.under _) hh (by show A.depth+0<900;exact fB hA) _ k Sh aO hk hS _ _ _ hc _ _ _ _ _ _ _ Rp fun gw jn ap ac uc vc wc hw Rp=>?_
  refine aa hh Rp [aF "float.__rmul__" [.float (fl Sh) vc,.int 2 (t1+6)] (2*Sh),aF "float.__rsub__" [.float (fl (2*Sh)) (ap+1),.int 2 (t1+5)] ((33554432)- (2*Sh)),aI "float.__int__" [.float (fl (33554432-2*Sh)) (ap+2)] (z)] 55 (dA 0x1c71c1101043042041186046186) [] (cB "list.__getitem__" [.ref (N1+3),.int (z) (ap+3)]) [] [.d] 0 4 ?_ (aC (a9 rfl (by exact vG aU) (by unfold ag;decide) (by exact oP aU) (by exact vx aU) (by decide) (by exact vw)) (aC (ao rfl (by exact oP aU) (by unfold ag;decide) (by exact oO aU) (by exact vt)) (aC (aV rfl (by exact oO aU) (by exact vq aU) (by exact vp hz)) aN)))
  intro cC h3 N3 t3 Rp eD
  obtain⟨w,hx⟩:=iu (u:=t1+3) (v:=t1+4) hS hz
  refine g6 Rp 0 rfl aU.2.2.1 (by exact vo aU) hx ?_
  refine aa hh Rp [] 13 (dA 0x1) [] (cB "list.append" [.ref cD,.str (S (jD Sh)) w]) [] [.d] 0 0 ?_
  intro db h4 N4 t4 Rp gr
  refine bn Rp 1 rfl (by exact jt lS) rfl fun jw Rp=>?_
  try dsimp only[bm] at Rp
  refine ab hh Rp [] 11 (dA 0x0) [] (Fin.again (.compLoop (iJ x) 0 (.ref it) (.ref cD) (eJ x F cb C))) [] [] 0 0 ?_
  intro dv h5 N5 t5 Rp
  exact⟨rfl,K _ _ _ _ _ _ _ _ _ _ Rp⟩
 ·refine af ?_
  refine aa hh Rp [] 13 (dA 0x8) [] (cB "list_iterator.__next__" [.ref it]) [] [] 0 0 ?_
  intro bT h1 N1 t1 Rp eE
  refine b6 Rp 2 3 rfl rfl hj rfl fun gH Rp=>?_
  try dsimp only[bm] at Rp
  refine aa hh Rp [] 108 (dA 0x128a28104114914914918218b18618118218b18618118218b18618118218b18618118628128a288) (dM 17) (cR 94 [.float (fx) ux,.float (fy) uy,.int (i) ti]) [(N1+3,oL #[.str eI (t1+3),.str ir (t1+4)] 0)] [.u (dU [(0,.float (fx) ux),(1,.float (fy) uy),(2,.int (i) ti)] [] 3)] 4 7 ?_
  intro bW h2 N2 t2 Rp dK
  refine ct x (A.under _) hh (by show A.depth+0<900;exact fB hA) _ k Sh aO hk hS _ _ _ hc _ _ _ _ _ _ _ Rp fun gw jn ap ac uc vc wc hw Rp=>?_
  refine aa hh Rp [aF "float.__rmul__" [.float (fl Sh) vc,.int 2 (t1+6)] (2*Sh),aF "float.__rsub__" [.float (fl (2*Sh)) (ap+1),.int 2 (t1+5)] ((33554432)- (2*Sh)),aI "float.__int__" [.float (fl (33554432-2*Sh)) (ap+2)] (z)] 55 (dA 0x1c71c1101043042041186046186) [] (cB "list.__getitem__" [.ref (N1+3),.int (z) (ap+3)]) [] [.d] 0 4 ?_ (aC (a9 rfl (by exact vG aU) (by unfold ag;decide) (by exact oP aU) (by exact vx aU) (by decide) (by exact vw)) (aC (ao rfl (by exact oP aU) (by unfold ag;decide) (by exact oO aU) (by exact vt)) (aC (aV rfl (by exact oO aU) (by exact vq aU) (by exact vp hz)) aN)))
  intro cC h3 N3 t3 Rp eD
  obtain⟨w,hx⟩:=iu (u:=t1+3) (v:=t1+4) hS hz
  refine g6 Rp 0 rfl aU.2.2.1 (by exact vo aU) hx ?_
  refine aa hh Rp [] 13 (dA 0x1) [] (cB "list.append" [.ref cD,.str (S (jD Sh)) w]) [] [.d] 0 0 ?_
  intro db h4 N4 t4 Rp gr
  refine bn Rp 1 rfl (by exact jt lS) rfl fun jw Rp=>?_
  try dsimp only[bm] at Rp
  refine ab hh Rp [] 11 (dA 0x0) [] (Fin.again (.compLoop (iJ x) 0 (.ref it) (.ref cD) (eJ x F cb C))) [] [] 0 0 ?_
  intro dv h5 N5 t5 Rp
  exact⟨rfl,K _ _ _ _ _ _ _ _ _ _ Rp⟩
noncomputable def tX(p:Addr×Obj)(n:Nat)(l:ae):ae:=match n with
 |0=>p::l
 |n+1=>match l with
  |[]=>[p]
  |x::l=>x::tX p n l
termination_by structural n
theorem j5(p:Addr×Obj):∀(n:Nat) (l:ae),(p::l).Perm (tX p n l)
 |0,_=>.refl _
 |_+1,[]=>.refl _
 |n+1,x::l=>(List.Perm.swap _ _ _).trans (.cons _ (j5 p n l))
noncomputable def tM(tab:ae)(i j:Nat):ae:=match nth tab i with
 |some p=>tX p j (ss tab i)
 |none=>tab
theorem pK(tab:ae)(i j:Nat):tab.Perm (tM tab i j):=by
 have h:=ip tab i
 unfold nF at h
 unfold tM
 cases e:nth tab i with
 |none=>exact .refl _
 |some p=>rw[e] at h;exact h.trans (j5 ..)
theorem Rep.mov{B:aQ}{N m:Nat}{h:Heap}{tab:ae}(Rp:Rep B N h tab m)(i j:Nat):Rep B N h (tM tab i j) m:=Rp.perm (pK tab i j)
theorem CM(bb:Bool)(x:W2)(A:Around)(hh:A.handled=none)(hA:A.depth<310)(Q:Flow→Shared→Prop)(F cb b:Addr)(k8 k9 v9:Nat)(bo rb:Obj)(ks kc kp up kd ud k1 v1 k2 v2 k3 k4 k5 k6 k7 v7:Nat)(P D sg sd CN:Int)(wd td el cl:Addr)(sl:Array (Option Value))(c:C4)(hc:c.Ok)(ne:Nat)(cs:ae)(E:Ends c el ne cs)
 (N t:Nat) (h:Heap) (gl d os) (rest:ae)
 (Rp:Rep x.B N h ((b,bo)::(F,eQ bb x ks kc cl k1 sg v1 k2 sd v2 k3 wd k4 td k5 wd k6 el k7 CN v7 kd D ud kp P up [En x.B aM k8 (.ref b),En x.B bH k9 (.int 0 v9)] (cond bb 13 12) sl)::(cl,rb)::(cs++rest)) 0)
 (K:∀h' N' t' bB ll w0 w1 w2 w3,Rep x.B N' h' ((ll,an #[.str (S (jD c.S0)) w0,.str (S (jD c.S1)) w1,.str (S (jD c.S2)) w2,.str (S (jD c.S3)) w3] 4)::(b,bo)::(F,eQ bb x ks kc cl k1 sg v1 k2 sd v2 k3 wd k4 td k5 wd k6 el k7 CN v7 kd D ud kp P up [En x.B aM k8 (.ref b),En x.B bH k9 (.int 0 v9),En x.B br bB (.ref ll)] (cond bb 14 13) sl)::(cl,rb)::(cs++rest)) 0→wpAny (MB x.B) A (aj (am (fdOf x.B 287) |>.drop 10) (au x F cb)) Q (fun _ _=>False) ⟨h',gl,d,t',os⟩):
 wpAny (MB x.B) A (aj (am (fdOf x.B 287) |>.drop 9) (au x F cb)) Q (fun _ _=>False) ⟨h,gl,d,t,os⟩:=by
 let sb:=bb
 cases bb
 all_goals
  have E0:=E
  obtain⟨a0,a1,a2,a3,r0,g0,b0,r1,g1,b1,r2,g2,b2,r3,g3,b3,e0,e1,e2,e3,rfl⟩:=E
  have Rp:Rep x.B N h (_::_::_::_::_::_::_::_::rest) 0:=Rp
  refine bS 1 ?_
  refine aa hh Rp [] 27 (dA 0x189049247) (dM 15) (.compStart (iJ x) 0 (.ref (N+0)) (.ref (N+1)) (eJ x F cb (N+2))) [(N+2,oD #[] 0),(N+1,oL #[] 0),(N+0,oI "list_iterator" #[.ref el,.int 0 0])] [] 3 0 ?_
  intro bT h1 N1 t1 Rp eE
  refine bP (by rfl') Rp 2 rfl ?_
  have Rp:Rep x.B _ _ (_::_::_::_::_::_::_::_::_::_::_::rest) 0:=((Rp.mov 5 10).mov 4 9).mov 3 8
  refine HC x A hh (by exact z4 hA) _ F cb c.k0 c.S0 hc.S0 hc.k0.1 hc.k0.2 _ _ (by simp) _ _ 0 a0 _ _ _ _ _ _ _ e0 (by rfl) _ _ _ _ _ _ _ Rp fun yc Nx1 tx1 q1 q2 q3 x1 x2 x3 w1 Rp=>?_
  have Rp:Rep x.B _ _ (_::_::_::_::_::_::_::_::_::_::_::rest) 0:=Rp.mov 5 4
  refine BJ x A hh (by exact z4 hA) _ F cb c.k1 c.S1 hc.S1 hc.k1.1 hc.k1.2 _ _ (by simp) _ _ 1 a1 _ _ _ _ _ _ _ e1 (by rfl) _ _ _ _ _ _ _ _ _ _ _ _ _ Rp fun yb Nx2 tx2 q1 q2 q3 x1 x2 x3 w2 Rp=>?_
  have Rp:Rep x.B _ _ (_::_::_::_::_::_::_::_::_::_::_::rest) 0:=Rp.mov 6 4
  refine BJ x A hh (by exact z4 hA) _ F cb c.k2 c.S2 hc.S2 hc.k2.1 hc.k2.2 _ _ (by simp) _ _ 2 a2 _ _ _ _ _ _ _ e2 (by rfl) _ _ _ _ _ _ _ _ _ _ _ _ _ Rp fun ya Nx3 tx3 q1 q2 q3 x1 x2 x3 w3 Rp=>?_
  have Rp:Rep x.B _ _ (_::_::_::_::_::_::_::_::_::_::_::rest) 0:=Rp.mov 7 4
  refine BJ x A hh (by exact z4 hA) _ F cb c.k3 c.S3 hc.S3 hc.k3.1 hc.k3.2 _ _ (by simp) _ _ 3 a3 _ _ _ _ _ _ _ e3 (by rfl) _ _ _ _ _ _ _ _ _ _ _ _ _ Rp fun hx4 Nx4 tx4 q1 q2 q3 x1 x2 x3 w4 Rp=>?_
  have Rp:Rep x.B _ _ (_::_::_::_::_::_::_::_::_::_::_::rest) 0:=((Rp.mov 5 7).mov 5 6).mov 4 7
  refine af ?_
  refine ab hh Rp [] 27 (dA 0x6108248208048) (dM 4) (Fin.done Flow.next) [] [.k,.k,.d] 2 0 ?_
  intro bW h2 N2 t2 Rp
  show wpAny ..
  refine ab hh Rp [] 34 (dA 0x218608618218628e) [] Flow.next [] [.d,.k,.k,.k,.k,.k,.k,.k,.u (dU [] [En x.B br (t2+0) (.ref (N+1))] (cond sb 14 13))] 0 1 ?_
  intro cC h3 N3 t3 Rp
  exact K _ _ _ _ _ _ _ _ _ (((Rp.mov 6 1).mov 7 2).mov 8 3)
noncomputable def g7(x:W2)(F:Addr):Env:=envOf (fdOf x.B 108) 108 F
noncomputable def bt(x:W2)(F e:Addr):Code:=ai (ah x.B 108 2) (.ref e) (g7 x F)
noncomputable def cp(x:W2)(F:Addr):Code:=.func (am (fdOf x.B 108)) (g7 x F)
noncomputable def dY(x:W2)(l:List Nat)(ka ta k1 k2:Nat)(eG:Value)(b:Bool)(more:List DictEntry)(n:Nat):Obj:=⟨.type "frame",none,.dict (#[En x.B ar ka (.str (S l) ta),En x.B aH k1 eG,En x.B b8 k2 (.bool b)]++more.toArray) n,#[]⟩
noncomputable def ew:Bool→Nat→List Nat→List (Nat×List Nat)
 |true,i,[]=>[(i-1,[92])]
 |false,_,[]=>[]
 |true,i,c::r=>(i,[92,c])::ew false (i+1) r
 |false,i,c::r=>if c=92 then ew true (i+1) r else(i,[c])::ew false (i+1) r
noncomputable def dp(i:Nat)(w:List Nat)(u v:Nat):Obj:=⟨.type "tuple",none,.seq #[.int (i:Int) u,.str (S w) v] 0,#[]⟩
noncomputable def mn(x:W2)(F e:Addr)(fs:List Frame)(b:Bool)(k:Resume→Sem Fin):Prop:=∀(A:Around) (_:(A.over (bt x F e) fs).handled=none) (l:List Nat) (ka ta k1 k2 k3:Nat) (eG vc:Value) (N t:Nat) (h:Heap) (gl d os) (rest:ae) (P:End→Shared→Prop)
 (_:Rep x.B N h ((F,dY x l ka ta k1 k2 eG b [En x.B aW k3 vc] 4)::rest) 0) (_:∀h' N' t',Rep x.B N' h' ((F,dY x l ka ta k1 k2 eG false [En x.B aW k3 vc] 4)::rest) 0→SegX (MB x.B) A (bt x F e) (dB (bt x F e)) fs ⟨h',gl,d,t',os⟩ P),
 SegX (MB x.B) A (bt x F e) (k (.send .none)) fs ⟨h,gl,d,t,os⟩ P
theorem yr(x:W2)(F e it:Addr)(A:Around)(fs:List Frame)(hh:(A.over (bt x F e) fs).handled=none)(rW:splitAtGen fs=none)(rV:fs.any Frame.guarded=false)(l:List Nat)(i c:Nat)(hc:l[i]? =some c)(P:End→Shared→Prop)
 (ka ta k1 k2 k3:Nat) (eG vc old:Value) (N t:Nat) (h:Heap) (gl d os) (rest:ae)
 (Rp:Rep x.B N h ((e,bf .none (.ref it) (i:Int) old)::(it,iB l ta (i:Int))::(F,dY x l ka ta k1 k2 eG true [En x.B aW k3 vc] 4)::rest) 0)
 (K:∀h' N' t' p a u v k3 eG vc old ll kk,mn x F e fs true kk→Rep x.B N' h' ((a,dp i [92,c] u v)::(e,bf .none (.ref it) ((i+1:Nat):Int) old)::(it,iB l ta ((i+1:Nat):Int))::(F,dY x l ka ta k1 k2 eG true [En x.B aW k3 vc] 4)::rest) 0→P (.susp (.ref a) false ll kk (bt x F e) p fs) ⟨h',gl,d,t',os⟩):
 SegX (MB x.B) A (bt x F e) (dB (bt x F e)) fs ⟨h,gl,d,t,os⟩ P:=by
 dsimp only[dY] at Rp
 refine ij (bh ⟨_,Rp.at (n:=0) rfl,rfl⟩ PySem.F.slot_enumerate_next (hB hh old Rp hc fun h7 N7 t7 a7 v7 w7 Rp=>?_))
 refine cI (by rfl') Rp 1 rfl rfl fun h8 Rp=>?_
 dsimp only[bm] at Rp
 refine aE hh Rp 71 [5,5,5,0,5,5,5,0,5,5,5,6,5,1,5,0,5,5,5,6,5,1,5,0,5,5,5,6,5,1,5,11,7,11,7] [false,false,false,true,true,true,true] () ((a7,⟨.type "tuple",none,.seq #[.int ((↑i:Int)) v7,.str (S [c]) w7] 0,#[]⟩)::(e,⟨.type "enumerate",none,.fields #[.none,.bool false,.ref it,.int ((↑(i+1):Int)) 0,.none,.str (S [c]) w7],#[]⟩)::(it,⟨.type "str_ascii_iterator",none,.fields #[.str (S l) ta,.int ((↑(i+1):Int)) 0],#[]⟩)::(F,⟨.type "frame",none,.dict #[En x.B ar ka (.str (S l) ta),En x.B aH k1 (.int ((↑i:Int)) v7),En x.B b8 k2 (.bool true),En x.B aW k3 (.str (S [c]) w7)] 4,#[]⟩)::rest) 3 2 (by rfl') fun h1 N1 t1 Rp=>?_
 refine kr hh rW rV Rp [] 30 [8,8,8,0] [true,false,true,true,true] (.ref (N1+0)) ((N1+0,⟨.type "tuple",none,(.seq #[.int ((↑i:Int)) v7,(.str ({cps:={toList:=[92]}}++S [c]) (t1+1))] 0),#[]⟩)::(e,⟨.type "enumerate",none,.fields #[.none,.bool false,.ref it,.int ((↑(i+1):Int)) 0,.none,.str (S [c]) w7],#[]⟩)::(it,⟨.type "str_ascii_iterator",none,.fields #[.str (S l) ta,.int ((↑(i+1):Int)) 0],#[]⟩)::(F,⟨.type "frame",none,.dict #[En x.B ar ka (.str (S l) ta),En x.B aH k1 (.int ((↑i:Int)) v7),En x.B b8 k2 (.bool true),En x.B aW k3 (.str (S [c]) w7)] 4,#[]⟩)::rest) 1 2 (by rfl') aN fun h2 N2 t2 p2 Rp=>?_
 refine K _ _ _ _ _ _ _ _ _ _ _ _ _ ?_ Rp
 intro A' yh l' xX wA q1 q2 q3 i7 mD N' t' h' aY d' CR fk P' Rp K'
 clear hh
 have hh:=yh
 dsimp only[dY] at Rp
 refine fD hh Rp [] 19 [5,1] [true] (Fin.again (ai (ah x.B 108 2) (.ref e) (g7 x F))) ((F,⟨.type "frame",none,.dict #[En x.B ar xX (.str (S l') wA),En x.B aH q1 (i7),En x.B b8 q2 (.bool false),En x.B aW q3 (mD)] 4,#[]⟩)::fk) 0 1 (by rfl') aN fun h3 N3 t3 Rp=>?_
 exact fi rfl (K' _ _ _ Rp)
theorem yq(x:W2)(F e it:Addr)(A:Around)(fs:List Frame)(hh:(A.over (bt x F e) fs).handled=none)(rW:splitAtGen fs=none)(rV:fs.any Frame.guarded=false)(l:List Nat)(i c:Nat)(hc:l[i]? =some c)(hq:c=92)(P:End→Shared→Prop)
 (ka ta k1 k2 k3:Nat) (eG vc old:Value) (N t:Nat) (h:Heap) (gl d os) (rest:ae)
 (Rp:Rep x.B N h ((e,bf .none (.ref it) (i:Int) old)::(it,iB l ta (i:Int))::(F,dY x l ka ta k1 k2 eG false [En x.B aW k3 vc] 4)::rest) 0)
 (K:∀h' N' t' k3 v0 vc old,Rep x.B N' h' ((e,bf .none (.ref it) ((i+1:Nat):Int) old)::(it,iB l ta ((i+1:Nat):Int))::(F,dY x l ka ta k1 k2 (.int (i:Int) v0) true [En x.B aW k3 vc] 4)::rest) 0→SegX (MB x.B) A (bt x F e) (dB (bt x F e)) fs ⟨h',gl,d,t',os⟩ P):
 SegX (MB x.B) A (bt x F e) (dB (bt x F e)) fs ⟨h,gl,d,t,os⟩ P:=by
 dsimp only[dY] at Rp
 refine ij (bh ⟨_,Rp.at (n:=0) rfl,rfl⟩ PySem.F.slot_enumerate_next (hB hh old Rp hc fun h7 N7 t7 a7 v7 w7 Rp=>?_))
 refine cI (by rfl') Rp 1 rfl rfl fun h8 Rp=>?_
 dsimp only[bm] at Rp
 refine aE hh Rp 71 [5,5,5,0,5,5,5,0,5,5,5,6,5,1,5,0,5,5,5,6,5,1,5,0,5,5,5,6,5,1,5,11,7,11,7] [false,false,false,true,true,true,true] () ((a7,⟨.type "tuple",none,.seq #[.int ((↑i:Int)) v7,.str (S [c]) w7] 0,#[]⟩)::(e,⟨.type "enumerate",none,.fields #[.none,.bool false,.ref it,.int ((↑(i+1):Int)) 0,.none,.str (S [c]) w7],#[]⟩)::(it,⟨.type "str_ascii_iterator",none,.fields #[.str (S l) ta,.int ((↑(i+1):Int)) 0],#[]⟩)::(F,⟨.type "frame",none,.dict #[En x.B ar ka (.str (S l) ta),En x.B aH k1 (.int ((↑i:Int)) v7),En x.B b8 k2 (.bool false),En x.B aW k3 (.str (S [c]) w7)] 4,#[]⟩)::rest) 3 2 (by rfl') fun h1 N1 t1 Rp=>?_
 refine fD hh Rp [⟨.call (.builtin "str.__eq__") ⟨[.str (S [c]) w7,.str (S [92]) (t1+0)],[]⟩,fun _=>.bool true,0⟩] 30 [8,8,1,8,4] [false,true,true,true] (Fin.again (ai (ah x.B 108 2) (.ref e) (g7 x F))) ((e,⟨.type "enumerate",none,.fields #[.none,.bool false,.ref it,.int ((↑(i+1):Int)) 0,.none,.str (S [c]) w7],#[]⟩)::(it,⟨.type "str_ascii_iterator",none,.fields #[.str (S l) ta,.int ((↑(i+1):Int)) 0],#[]⟩)::(F,⟨.type "frame",none,.dict #[En x.B ar ka (.str (S l) ta),En x.B aH k1 (.int ((↑i:Int)) v7),En x.B b8 k2 (.bool true),En x.B aW k3 (.str (S [c]) w7)] 4,#[]⟩)::rest) 0 2 (by rfl') (aC (dc (l:=([c])) (l':=[92]) (by first|rfl|(simp[*];done)|(simp;omega))) aN) fun h2 N2 t2 Rp=>?_
 exact fi rfl (K _ _ _ _ _ _ _ Rp)
theorem yp(x:W2)(F e it:Addr)(A:Around)(fs:List Frame)(hh:(A.over (bt x F e) fs).handled=none)(rW:splitAtGen fs=none)(rV:fs.any Frame.guarded=false)(l:List Nat)(i c:Nat)(hc:l[i]? =some c)(hq:c≠92)(P:End→Shared→Prop)
 (ka ta k1 k2 k3:Nat) (eG vc old:Value) (N t:Nat) (h:Heap) (gl d os) (rest:ae)
 (Rp:Rep x.B N h ((e,bf .none (.ref it) (i:Int) old)::(it,iB l ta (i:Int))::(F,dY x l ka ta k1 k2 eG false [En x.B aW k3 vc] 4)::rest) 0)
 (K:∀h' N' t' p a u v k3 eG vc old ll kk,mn x F e fs false kk→Rep x.B N' h' ((a,dp i [c] u v)::(e,bf .none (.ref it) ((i+1:Nat):Int) old)::(it,iB l ta ((i+1:Nat):Int))::(F,dY x l ka ta k1 k2 eG false [En x.B aW k3 vc] 4)::rest) 0→P (.susp (.ref a) false ll kk (bt x F e) p fs) ⟨h',gl,d,t',os⟩):
 SegX (MB x.B) A (bt x F e) (dB (bt x F e)) fs ⟨h,gl,d,t,os⟩ P:=by
 dsimp only[dY] at Rp
 refine ij (bh ⟨_,Rp.at (n:=0) rfl,rfl⟩ PySem.F.slot_enumerate_next (hB hh old Rp hc fun h7 N7 t7 a7 v7 w7 Rp=>?_))
 refine cI (by rfl') Rp 1 rfl rfl fun h8 Rp=>?_
 dsimp only[bm] at Rp
 refine aE hh Rp 71 [5,5,5,0,5,5,5,0,5,5,5,6,5,1,5,0,5,5,5,6,5,1,5,0,5,5,5,6,5,1,5,11,7,11,7] [false,false,false,true,true,true,true] () ((a7,⟨.type "tuple",none,.seq #[.int ((↑i:Int)) v7,.str (S [c]) w7] 0,#[]⟩)::(e,⟨.type "enumerate",none,.fields #[.none,.bool false,.ref it,.int ((↑(i+1):Int)) 0,.none,.str (S [c]) w7],#[]⟩)::(it,⟨.type "str_ascii_iterator",none,.fields #[.str (S l) ta,.int ((↑(i+1):Int)) 0],#[]⟩)::(F,⟨.type "frame",none,.dict #[En x.B ar ka (.str (S l) ta),En x.B aH k1 (.int ((↑i:Int)) v7),En x.B b8 k2 (.bool false),En x.B aW k3 (.str (S [c]) w7)] 4,#[]⟩)::rest) 3 2 (by rfl') fun h1 N1 t1 Rp=>?_
 refine kr hh rW rV Rp [⟨.call (.builtin "str.__eq__") ⟨[.str (S [c]) w7,.str (S [92]) (t1+0)],[]⟩,fun _=>.bool false,0⟩] 30 [8,8,1,8,8] [true,false,true,true,true] (.ref (N1+0)) ((N1+0,⟨.type "tuple",none,.seq #[.int ((↑i:Int)) v7,.str (S [c]) w7] 0,#[]⟩)::(e,⟨.type "enumerate",none,.fields #[.none,.bool false,.ref it,.int ((↑(i+1):Int)) 0,.none,.str (S [c]) w7],#[]⟩)::(it,⟨.type "str_ascii_iterator",none,.fields #[.str (S l) ta,.int ((↑(i+1):Int)) 0],#[]⟩)::(F,⟨.type "frame",none,.dict #[En x.B ar ka (.str (S l) ta),En x.B aH k1 (.int ((↑i:Int)) v7),En x.B b8 k2 (.bool false),En x.B aW k3 (.str (S [c]) w7)] 4,#[]⟩)::rest) 1 1 (by rfl') (aC (dc (l:=([c])) (l':=[92]) (by first|rfl|(simp[*];done)|(simp;omega))) aN) fun h2 N2 t2 p2 Rp=>?_
 refine K _ _ _ _ _ _ _ _ _ _ _ _ _ ?_ Rp
 intro A' yh l' xX wA q1 q2 q3 i7 mD N' t' h' aY d' CR fk P' Rp K'
 clear hh
 have hh:=yh
 dsimp only[dY] at Rp
 refine fD hh Rp [] 11 [] [true] (Fin.again (ai (ah x.B 108 2) (.ref e) (g7 x F))) ((F,⟨.type "frame",none,.dict #[En x.B ar xX (.str (S l') wA),En x.B aH q1 (i7),En x.B b8 q2 (.bool false),En x.B aW q3 (mD)] 4,#[]⟩)::fk) 0 0 (by rfl') aN fun h3 N3 t3 Rp=>?_
 exact fi rfl (K' _ _ _ Rp)
theorem uH(x:W2)(F e it:Addr)(A:Around)(fs:List Frame)(hh:(A.over (bt x F e) fs).handled=none)(rW:splitAtGen fs=none)(rV:fs.any Frame.guarded=false)(l:List Nat)(i c:Nat)(hc:l[i]? =some c)(hq:c=92)(P:End→Shared→Prop)
 (ka ta k1 k2:Nat) (eG old:Value) (N t:Nat) (h:Heap) (gl d os) (rest:ae)
 (Rp:Rep x.B N h ((e,bf .none (.ref it) (i:Int) old)::(it,iB l ta (i:Int))::(F,dY x l ka ta k1 k2 eG false [] 3)::rest) 0)
 (K:∀h' N' t' k3 v0 vc old,Rep x.B N' h' ((e,bf .none (.ref it) ((i+1:Nat):Int) old)::(it,iB l ta ((i+1:Nat):Int))::(F,dY x l ka ta k1 k2 (.int (i:Int) v0) true [En x.B aW k3 vc] 4)::rest) 0→SegX (MB x.B) A (bt x F e) (dB (bt x F e)) fs ⟨h',gl,d,t',os⟩ P):
 SegX (MB x.B) A (bt x F e) (dB (bt x F e)) fs ⟨h,gl,d,t,os⟩ P:=by
 dsimp only[dY] at Rp
 refine ij (bh ⟨_,Rp.at (n:=0) rfl,rfl⟩ PySem.F.slot_enumerate_next (hB hh old Rp hc fun h7 N7 t7 a7 v7 w7 Rp=>?_))
 refine cI (by rfl') Rp 1 rfl rfl fun h8 Rp=>?_
 dsimp only[bm] at Rp
 refine aE hh Rp 71 [5,5,5,0,5,5,5,0,5,5,5,6,5,1,5,0,5,5,5,6,5,1,5,0,5,5,5,6,5,1,5,11,7,11,7] [false,false,false,true,true,true,true] () ((a7,⟨.type "tuple",none,.seq #[.int ((↑i:Int)) v7,.str (S [c]) w7] 0,#[]⟩)::(e,⟨.type "enumerate",none,.fields #[.none,.bool false,.ref it,.int ((↑(i+1):Int)) 0,.none,.str (S [c]) w7],#[]⟩)::(it,⟨.type "str_ascii_iterator",none,.fields #[.str (S l) ta,.int ((↑(i+1):Int)) 0],#[]⟩)::(F,⟨.type "frame",none,.dict #[En x.B ar ka (.str (S l) ta),En x.B aH k1 (.int ((↑i:Int)) v7),En x.B b8 k2 (.bool false),En x.B aW (t7+1) (.str (S [c]) w7)] 4,#[]⟩)::rest) 3 2 (by rfl') fun h1 N1 t1 Rp=>?_
 refine fD hh Rp [⟨.call (.builtin "str.__eq__") ⟨[.str (S [c]) w7,.str (S [92]) (t1+0)],[]⟩,fun _=>.bool true,0⟩] 30 [8,8,1,8,4] [false,true,true,true] (Fin.again (ai (ah x.B 108 2) (.ref e) (g7 x F))) ((e,⟨.type "enumerate",none,.fields #[.none,.bool false,.ref it,.int ((↑(i+1):Int)) 0,.none,.str (S [c]) w7],#[]⟩)::(it,⟨.type "str_ascii_iterator",none,.fields #[.str (S l) ta,.int ((↑(i+1):Int)) 0],#[]⟩)::(F,⟨.type "frame",none,.dict #[En x.B ar ka (.str (S l) ta),En x.B aH k1 (.int ((↑i:Int)) v7),En x.B b8 k2 (.bool true),En x.B aW (t7+1) (.str (S [c]) w7)] 4,#[]⟩)::rest) 0 2 (by rfl') (aC (dc (l:=([c])) (l':=[92]) (by first|rfl|(simp[*];done)|(simp;omega))) aN) fun h2 N2 t2 Rp=>?_
 exact fi rfl (K _ _ _ _ _ _ _ Rp)
theorem uG(x:W2)(F e it:Addr)(A:Around)(fs:List Frame)(hh:(A.over (bt x F e) fs).handled=none)(rW:splitAtGen fs=none)(rV:fs.any Frame.guarded=false)(l:List Nat)(i c:Nat)(hc:l[i]? =some c)(hq:c≠92)(P:End→Shared→Prop)
 (ka ta k1 k2:Nat) (eG old:Value) (N t:Nat) (h:Heap) (gl d os) (rest:ae)
 (Rp:Rep x.B N h ((e,bf .none (.ref it) (i:Int) old)::(it,iB l ta (i:Int))::(F,dY x l ka ta k1 k2 eG false [] 3)::rest) 0)
 (K:∀h' N' t' p a u v k3 eG vc old ll kk,mn x F e fs false kk→Rep x.B N' h' ((a,dp i [c] u v)::(e,bf .none (.ref it) ((i+1:Nat):Int) old)::(it,iB l ta ((i+1:Nat):Int))::(F,dY x l ka ta k1 k2 eG false [En x.B aW k3 vc] 4)::rest) 0→P (.susp (.ref a) false ll kk (bt x F e) p fs) ⟨h',gl,d,t',os⟩):
 SegX (MB x.B) A (bt x F e) (dB (bt x F e)) fs ⟨h,gl,d,t,os⟩ P:=by
 dsimp only[dY] at Rp
 refine ij (bh ⟨_,Rp.at (n:=0) rfl,rfl⟩ PySem.F.slot_enumerate_next (hB hh old Rp hc fun h7 N7 t7 a7 v7 w7 Rp=>?_))
 refine cI (by rfl') Rp 1 rfl rfl fun h8 Rp=>?_
 dsimp only[bm] at Rp
 refine aE hh Rp 71 [5,5,5,0,5,5,5,0,5,5,5,6,5,1,5,0,5,5,5,6,5,1,5,0,5,5,5,6,5,1,5,11,7,11,7] [false,false,false,true,true,true,true] () ((a7,⟨.type "tuple",none,.seq #[.int ((↑i:Int)) v7,.str (S [c]) w7] 0,#[]⟩)::(e,⟨.type "enumerate",none,.fields #[.none,.bool false,.ref it,.int ((↑(i+1):Int)) 0,.none,.str (S [c]) w7],#[]⟩)::(it,⟨.type "str_ascii_iterator",none,.fields #[.str (S l) ta,.int ((↑(i+1):Int)) 0],#[]⟩)::(F,⟨.type "frame",none,.dict #[En x.B ar ka (.str (S l) ta),En x.B aH k1 (.int ((↑i:Int)) v7),En x.B b8 k2 (.bool false),En x.B aW (t7+1) (.str (S [c]) w7)] 4,#[]⟩)::rest) 3 2 (by rfl') fun h1 N1 t1 Rp=>?_
 refine kr hh rW rV Rp [⟨.call (.builtin "str.__eq__") ⟨[.str (S [c]) w7,.str (S [92]) (t1+0)],[]⟩,fun _=>.bool false,0⟩] 30 [8,8,1,8,8] [true,false,true,true,true] (.ref (N1+0)) ((N1+0,⟨.type "tuple",none,.seq #[.int ((↑i:Int)) v7,.str (S [c]) w7] 0,#[]⟩)::(e,⟨.type "enumerate",none,.fields #[.none,.bool false,.ref it,.int ((↑(i+1):Int)) 0,.none,.str (S [c]) w7],#[]⟩)::(it,⟨.type "str_ascii_iterator",none,.fields #[.str (S l) ta,.int ((↑(i+1):Int)) 0],#[]⟩)::(F,⟨.type "frame",none,.dict #[En x.B ar ka (.str (S l) ta),En x.B aH k1 (.int ((↑i:Int)) v7),En x.B b8 k2 (.bool false),En x.B aW (t7+1) (.str (S [c]) w7)] 4,#[]⟩)::rest) 1 1 (by rfl') (aC (dc (l:=([c])) (l':=[92]) (by first|rfl|(simp[*];done)|(simp;omega))) aN) fun h2 N2 t2 p2 Rp=>?_
 refine K _ _ _ _ _ _ _ _ _ _ _ _ _ ?_ Rp
 intro A' yh l' xX wA q1 q2 q3 i7 mD N' t' h' aY d' CR fk P' Rp K'
 clear hh
 have hh:=yh
 dsimp only[dY] at Rp
 refine fD hh Rp [] 11 [] [true] (Fin.again (ai (ah x.B 108 2) (.ref e) (g7 x F))) ((F,⟨.type "frame",none,.dict #[En x.B ar xX (.str (S l') wA),En x.B aH q1 (i7),En x.B b8 q2 (.bool false),En x.B aW q3 (mD)] 4,#[]⟩)::fk) 0 0 (by rfl') aN fun h3 N3 t3 Rp=>?_
 exact fi rfl (K' _ _ _ Rp)
noncomputable def u6(x:W2)(F:Addr)(k:Resume→Sem Fin):Prop:=∀(A:Around) (_:A.handled=none) (N t:Nat) (h:Heap) (gl d os) (rest:ae) (P:End→Shared→Prop)
 (_:Rep x.B N h rest 0) (_:∀h' N' t',Rep x.B N' h' rest 0→P (.ret (.ok (.ret .none))) ⟨h',gl,d,t',os⟩),SegX (MB x.B) A (cp x F) (k (.send .none)) [] ⟨h,gl,d,t,os⟩ P
structure qK (x:W2) (F:Addr) (kk:Result→Sem Fin):Prop where
 f:∀(A:Around) (_:A.handled=none) (l:List Nat) (ka ta k1 k2 n:Nat) (eG:Value) (more:List DictEntry) (_:(more=[]∧n=3)∨(∃k3 vc,more=[En x.B aW k3 vc]∧n=4)) (N t:Nat) (h:Heap) (gl d os) (rest:ae) (P:End→Shared→Prop)
  (_:Rep x.B N h ((F,dY x l ka ta k1 k2 eG false more n)::rest) 0) (_:∀h' N' t',Rep x.B N' h' rest 0→P (.ret (.ok (.ret .none))) ⟨h',gl,d,t',os⟩),
  SegX (MB x.B) A (cp x F) (kk (.ok .next)) [] ⟨h,gl,d,t,os⟩ P
 y:∀(A:Around) (_:A.handled=none) (l:List Nat) (ka ta k1 k2 k3 v0:Nat) (i:Nat) (vc:Value) (N t:Nat) (h:Heap) (gl d os) (rest:ae) (P:End→Shared→Prop)
  (_:Rep x.B N h ((F,dY x l ka ta k1 k2 (.int (i:Int) v0) true [En x.B aW k3 vc] 4)::rest) 0) (_:∀h' N' t' p a u v ll kk,u6 x F kk→Rep x.B N' h' ((a,dp i [92] u v)::rest) 0→P (.susp (.ref a) false ll kk (cp x F) p []) ⟨h',gl,d,t',os⟩),
  SegX (MB x.B) A (cp x F) (kk (.ok .next)) [] ⟨h,gl,d,t,os⟩ P
theorem Cs(x:W2)(A:Around)(hh:A.handled=none)(F:Addr)(l:List Nat)(hl:s5 l)(ka ta:Nat)(P:End→Shared→Prop)
 (N t:Nat) (h:Heap) (gl d os) (rest:ae) (Rp:Rep x.B N h ((F,⟨.type "frame",none,.dict #[En x.B ar ka (.str (S l) ta)] 1,#[]⟩)::rest) 0)
 (K:∀h' N' t' e it k1 k2 v0 kk gg ll p,gg=false→qK x F kk→Rep x.B N' h' ((e,bf .none (.ref it) ((0:Nat):Int) .none)::(it,iB l ta ((0:Nat):Int))::(F,dY x l ka ta k1 k2 (.int 0 v0) false [] 3)::rest) 0→
  SegX (MB x.B) A (bt x F e) (dB (bt x F e)) [.ret kk none gg ll (cp x F) p []] ⟨h',gl,d,t',os⟩ P):
 SegX (MB x.B) A (cp x F) (dB (cp x F)) [] ⟨h,gl,d,t,os⟩ P:=by
 refine rh hh Rp [] 36 [5,1,5,1,0,0,5] [true] (.call (.type "enumerate") ⟨[.str (S l) ta],[]⟩) ((F,oF #[En x.B ar ka (.str (S l) ta),En x.B aH (t+1) (.int 0 (t+0)),En x.B b8 (t+2) (.bool false)] 3)::rest) 0 3 (by rfl') aN fun h1 N1 t1 Rp=>?_
 refine af ?_
 refine ab hh Rp [] 11 (dA 0x0) [] (Fin.again (.builtin "type.__call__" ⟨[.type "enumerate",.str (S l) ta],[]⟩)) [] [] 0 0 ?_
 intro bW h2 N2 t2 Rp
 refine⟨Code.quiet_builtin _ (by decide+kernel),af ?_⟩
 refine aa hh Rp [] 11 (dA 0x0) [] (cB "enumerate.__new__" [.type "enumerate",.str (S l) ta]) [] [] 0 0 ?_
 intro cC h3 N3 t3 Rp eD
 refine sj hh hl Rp fun h7 N7 t7 e it Rp=>?_
 refine ab hh Rp [] 18 (dA 0x6181186) [] (Fin.done (Flow.ret (.ref e))) [] [] 0 0 ?_
 intro db h4 N4 t4 Rp
 show SegX _ _ _ _ _ _ _
 refine rg hh Rp [] 21 [5,5,0,5,5] [true,true,true] (ai (ah x.B 108 2) (.ref e) (g7 x F)) ((e,oI "enumerate" #[.none,.bool false,.ref it,.int 0 0,.none,.none])::(it,oI "str_ascii_iterator" #[.str (S l) ta,.int 0 0])::(F,oF #[En x.B ar ka (.str (S l) ta),En x.B aH (t+1) (.int 0 (t+0)),En x.B b8 (t+2) (.bool false)] 3)::rest) 0 0 (by rfl') aN fun h5 N5 t5 p5 Rp=>?_
 refine K _ _ _ _ _ _ _ _ _ _ _ _ (by rfl') ⟨?_,?_⟩ Rp
 ·intro A hh l ka ta k1 k2 n eG more hm N t h gl d os rest P Rp K'
  rcases hm with⟨rfl,rfl⟩|⟨k3,vc,rfl,rfl⟩
  ·dsimp only[dY] at Rp
   refine fD hh Rp [] 15 [5] [false] (Fin.done (Flow.ret .none)) (rest) 0 0 (by rfl') aN fun h6 N6 t6 Rp=>?_
   exact s_end _ _ _ _ _ _ (.ok (.ret .none)) _ rfl (K' _ _ _ Rp)
  ·dsimp only[dY] at Rp
   refine fD hh Rp [] 15 [5] [false] (Fin.done (Flow.ret .none)) (rest) 0 0 (by rfl') aN fun h6 N6 t6 Rp=>?_
   exact s_end _ _ _ _ _ _ (.ok (.ret .none)) _ rfl (K' _ _ _ Rp)
 ·intro A hh l ka ta k1 k2 k3 v0 i vc N t h gl d os rest P Rp K'
  dsimp only[dY] at Rp
  refine kr hh rfl rfl Rp [] 22 [5,5] [true,false] (.ref (N+0)) ((N+0,oT #[.int ((↑i:Int)) v0,.str (S [92]) (t+0)])::rest) 1 1 (by rfl') aN fun h6 N6 t6 p6 Rp=>?_
  refine K' _ _ _ _ _ _ _ _ _ ?_ Rp
  intro A hh N t h gl d os rest P Rp K''
  refine fD hh Rp [] 11 [] [] (Fin.done (Flow.ret .none)) (rest) 0 0 (by rfl') aN fun h8 N8 t8 Rp=>?_
  exact s_end _ _ _ _ _ _ (.ok (.ret .none)) _ rfl (K'' _ _ _ Rp)
theorem qm(x:W2)(F e it:Addr)(A:Around)(hA:A.handled=none)(kk:Result→Sem Fin)(ll:List Value)(p:Pos)(l:List Nat)(i:Nat)(hc:l[i]? =none)(P:End→Shared→Prop)
 (ta:Nat) (old:Value) (N t:Nat) (h:Heap) (gl d os) (rest:ae)
 (Rp:Rep x.B N h ((e,bf .none (.ref it) (i:Int) old)::(it,iB l ta (i:Int))::rest) 0)
 (K:∀h' N' t',Rep x.B N' h' rest 0→SegX (MB x.B) A (cp x F) (kk (.ok .next)) [] ⟨h',gl,d,t',os⟩ P):
 SegX (MB x.B) A (bt x F e) (dB (bt x F e)) [.ret kk none false ll (cp x F) p []] ⟨h,gl,d,t,os⟩ P:=by
 have hh:(A.over (bt x F e) [.ret kk none false ll (cp x F) p []]).handled=none:=hA
 refine ij (bh ⟨_,Rp.at (n:=0) rfl,rfl⟩ PySem.F.slot_enumerate_next (l6 hh old Rp hc fun h7 N7 t7 a7 e7 Rp=>⟨⟨_,Rp.at (n:=0) rfl,rfl⟩,?_⟩))
 have hh2:(A.over (.block (qp (ah x.B 108 2)) (g7 x F)) [.ret kk none false ll (cp x F) p []]).handled=none:=hA
 refine fi rfl ?_
 clear hh
 have hh:=hh2
 refine fD hh Rp [] 11 [] [false] (Fin.done Flow.next) (rest) 0 0 (by rfl') aN fun h1 N1 t1 Rp=>?_
 exact s_pop _ _ _ _ _ _ _ (.ok .next) _ rfl _ _ _ _ _ _ _ (K _ _ _ Rp)
noncomputable def jp(x:W2)(gs:GenState)(A:Around)(s:Shared)(P:End→Shared→Prop):Prop:=match gs with
 | .fresh c=>SegX (MB x.B) A c (dB c) [] s P
 | .suspended k _ c _ fs _=>SegX (MB x.B) A c (k (.send .none)) fs s P
 |_=>False
noncomputable def cE(x:W2):List (Nat×List Nat)→GenState→ae→Prop
 |[],gs,cs=>∀(A:Around),A.handled=none→∀(N t:Nat) (h:Heap) (gl d os) (rest:ae) (P:End→Shared→Prop),Rep x.B N h (cs++rest) 0→
  (∀h' N' t',Rep x.B N' h' rest 0→P (.ret (.ok (.ret .none))) ⟨h',gl,d,t',os⟩)→jp x gs A ⟨h,gl,d,t,os⟩ P
 |(i,w)::av,gs,cs=>∀(A:Around),A.handled=none→∀(N t:Nat) (h:Heap) (gl d os) (rest:ae) (P:End→Shared→Prop),Rep x.B N h (cs++rest) 0→
  (∀h' N' t' a u v ll kk c p fs be,(End.genState (.susp (.ref a) false ll kk c p fs)).bare=true→cE x av (End.genState (.susp (.ref a) false ll kk c p fs)) be→Rep x.B N' h' ((a,dp i w u v)::(be++rest)) 0→P (.susp (.ref a) false ll kk c p fs) ⟨h',gl,d,t',os⟩)→jp x gs A ⟨h,gl,d,t,os⟩ P
noncomputable def Told(x:W2)(av:List (Nat×List Nat))(rest:ae)(gl:Array GenState)(d:Drawn)(os:OsState)(P:End→Shared→Prop):Prop:=match av with
 |[]=>∀h' N' t',Rep x.B N' h' rest 0→P (.ret (.ok (.ret .none))) ⟨h',gl,d,t',os⟩
 |(i,w)::av=>∀h' N' t' a u v ll kk c p fs be,(End.genState (.susp (.ref a) false ll kk c p fs)).bare=true→cE x av (End.genState (.susp (.ref a) false ll kk c p fs)) be→Rep x.B N' h' ((a,dp i w u v)::(be++rest)) 0→P (.susp (.ref a) false ll kk c p fs) ⟨h',gl,d,t',os⟩
theorem iX{x:W2}{av:List (Nat×List Nat)}{gs:GenState}{cs:ae}
 (h:∀(A:Around),A.handled=none→∀(N t:Nat) (h:Heap) (gl d os) (rest:ae) (P:End→Shared→Prop),Rep x.B N h (cs++rest) 0→Told x av rest gl d os P→jp x gs A ⟨h,gl,d,t,os⟩ P):cE x av gs cs:=by
 cases av with
 |nil=>exact fun A hA N t hp gl d os rest P Rp K=>h A hA N t hp gl d os rest P Rp K
 |cons o av=>exact fun A hA N t hp gl d os rest P Rp K=>h A hA N t hp gl d os rest P Rp K
theorem cE.go{x:W2}{av:List (Nat×List Nat)}{gs:GenState}{cs:ae}(g:cE x av gs cs)(A:Around)(hA:A.handled=none)(N t:Nat)(h:Heap)(gl d os)(rest:ae)(P:End→Shared→Prop)(Rp:Rep x.B N h (cs++rest) 0)(K:Told x av rest gl d os P):jp x gs A ⟨h,gl,d,t,os⟩ P:=by
 cases av with
 |nil=>exact g A hA N t h gl d os rest P Rp K
 |cons o av=>exact g A hA N t h gl d os rest P Rp K
theorem nT(x:W2)(F e it:Addr)(kk:Result→Sem Fin)(ll:List Value)(p:Pos)(T:qK x F kk)(l:List Nat)(ka ta k1 k2:Nat):∀(r:List Nat) (i:Nat) (_:l.drop i=r) (b:Bool) (_:b=true→0<i) (A:Around) (_:A.handled=none)
 (N t:Nat) (h:Heap) (gl d os) (rest:ae) (P:End→Shared→Prop) (eG vc old:Value) (k3 v0:Nat) (_:b=true→eG=.int ((i-1:Nat):Int) v0)
 (_:Rep x.B N h ((e,bf .none (.ref it) (i:Int) old)::(it,iB l ta (i:Int))::(F,dY x l ka ta k1 k2 eG b [En x.B aW k3 vc] 4)::rest) 0) (_:Told x (ew b i r) rest gl d os P),
 SegX (MB x.B) A (bt x F e) (dB (bt x F e)) [.ret kk none false ll (cp x F) p []] ⟨h,gl,d,t,os⟩ P:=by
 intro r
 induction r with
 |nil=>
  intro i hr b hb A hA N t h gl d os rest P eG vc old k3 v0 rQ Rp K
  have hc:l[i]? =none:=by
   rw[List.getElem?_eq_none_iff]
   have:=congrArg List.length hr
   simp at this;omega
  refine qm x F e it A hA kk ll p l i hc P ta old N t h gl d os _ Rp fun h' N' t' Rp=>?_
  cases b with
  |false=>exact T.f A hA l ka ta k1 k2 4 eG _ (.inr ⟨k3,vc,rfl,rfl⟩) _ _ _ _ _ _ _ P Rp K
  |true=>
   rw[rQ rfl] at Rp
   refine T.y A hA l ka ta k1 k2 k3 v0 (i-1) vc _ _ _ _ _ _ _ P Rp fun h' N' t' p a u v ll kk hk Rp=>?_
   exact K _ _ _ _ _ _ _ _ _ _ _ [] rfl (iX fun A hA N t h gl d os rest P Rp K=>hk A hA N t h gl d os rest P Rp K) Rp
 |cons c r ih=>
  intro i hr b hb A hA N t h gl d os rest P eG vc old k3 v0 rQ Rp K
  have hc:l[i]? =some c:=by
   have:=congrArg (fun z=>z[0]?) hr
   simpa using this
  have lT:l.drop (i+1)=r:=by
   have:=congrArg List.tail hr
   simpa using this
  have hh:(A.over (bt x F e) [.ret kk none false ll (cp x F) p []]).handled=none:=hA
  have hk:∀b k,mn x F e [.ret kk none false ll (cp x F) p []] b k→∀(pM:List Value) (p':Pos) (eG vc old:Value) (k3:Nat),cE x (ew false (i+1) r) (End.genState (.susp .none false pM k (bt x F e) p' [.ret kk none false ll (cp x F) p []]))
   [(e,bf .none (.ref it) ((i+1:Nat):Int) old),(it,iB l ta ((i+1:Nat):Int)),(F,dY x l ka ta k1 k2 eG b [En x.B aW k3 vc] 4)]:=fun b k hk pM p' eG vc old k3=>
   iX fun A hA N t h gl d os rest P Rp K=>hk A hA l ka ta k1 k2 k3 eG vc N t h gl d os ((e,bf .none (.ref it) ((i+1:Nat):Int) old)::(it,iB l ta ((i+1:Nat):Int))::rest) P
    (Rp.perm ((List.perm_middle (l₁:=[_,_])))) fun h' N' t' Rp=>ih (i+1) lT false (fun z=>nomatch z) A hA _ _ _ _ _ _ _ P eG vc old k3 0 (fun z=>nomatch z) (Rp.perm (List.perm_middle (l₁:=[_,_])).symm) K
  cases b with
  |true=>
   refine yr x F e it A _ hh rfl rfl l i c hc P ka ta k1 k2 k3 eG vc old N t h gl d os rest Rp fun h' N' t' p' a u v rK i7 mD kF pM k' rT Rp=>?_
   exact K _ _ _ _ _ _ _ _ _ _ _ _ rfl (hk true k' rT pM p' i7 mD kF rK) Rp
  |false=>
   by_cases hq:c=92
   ·refine yq x F e it A _ hh rfl rfl l i c hc hq P ka ta k1 k2 k3 eG vc old N t h gl d os rest Rp fun h' N' t' rK Am mD kF Rp=>?_
    refine ih (i+1) lT true (fun _=>by exact A6) A hA _ _ _ _ _ _ _ P _ mD kF rK Am (fun _=>rfl) Rp ?_
    unfold ew at K
    rw[if_pos hq] at K
    exact K
   ·unfold ew at K
    rw[if_neg hq] at K
    refine yp x F e it A _ hh rfl rfl l i c hc hq P ka ta k1 k2 k3 eG vc old N t h gl d os rest Rp fun h' N' t' p' a u v rK i7 mD kF pM k' rT Rp=>?_
    exact K _ _ _ _ _ _ _ _ _ _ _ _ rfl (hk false k' rT pM p' i7 mD kF rK) Rp
noncomputable def s4(x:W2)(l:List Nat)(ka ta:Nat):Obj:=⟨.type "frame",none,.dict #[En x.B ar ka (.str (S l) ta)] 1,#[]⟩
theorem ke(x:W2)(F:Addr)(l:List Nat)(hl:s5 l)(ka ta:Nat):cE x (ew false 0 l) (.fresh (cp x F)) [(F,s4 x l ka ta)]:=by
 refine iX fun A hA N t h gl d os rest P Rp K=>?_
 refine Cs x A hA F l hl ka ta P N t h gl d os rest Rp fun h' N' t' e it k1 k2 v0 kk gg ll p hg T Rp=>?_
 subst hg
 have hh:(A.over (bt x F e) [.ret kk none false ll (cp x F) p []]).handled=none:=hA
 cases l with
 |nil=>
  refine qm x F e it A hA kk ll p [] 0 rfl P ta .none _ _ _ _ _ _ _ Rp fun h' N' t' Rp=>?_
  exact T.f A hA [] ka ta k1 k2 3 _ [] (.inl ⟨rfl,rfl⟩) _ _ _ _ _ _ _ P Rp K
 |cons c r=>
  have hk:∀b k,mn x F e [.ret kk none false ll (cp x F) p []] b k→∀(pM:List Value) (p':Pos) (eG vc old:Value) (k3:Nat),cE x (ew false (0+1) r) (End.genState (.susp .none false pM k (bt x F e) p' [.ret kk none false ll (cp x F) p []]))
   [(e,bf .none (.ref it) ((0+1:Nat):Int) old),(it,iB (c::r) ta ((0+1:Nat):Int)),(F,dY x (c::r) ka ta k1 k2 eG b [En x.B aW k3 vc] 4)]:=fun b k hk pM p' eG vc old k3=>
   iX fun A hA N t h gl d os rest P Rp K=>hk A hA (c::r) ka ta k1 k2 k3 eG vc N t h gl d os ((e,bf .none (.ref it) ((0+1:Nat):Int) old)::(it,iB (c::r) ta ((0+1:Nat):Int))::rest) P
    (Rp.perm ((List.perm_middle (l₁:=[_,_])))) fun h' N' t' Rp=>nT x F e it kk ll p T (c::r) ka ta k1 k2 r (0+1) rfl false (fun z=>nomatch z) A hA _ _ _ _ _ _ _ P eG vc old k3 0 (fun z=>nomatch z) (Rp.perm (List.perm_middle (l₁:=[_,_])).symm) K
  by_cases hq:c=92
  ·refine uH x F e it A _ hh rfl rfl (c::r) 0 c rfl hq P ka ta k1 k2 (.int 0 v0) .none _ _ _ _ _ _ rest Rp fun h' N' t' rK Am mD kF Rp=>?_
   refine nT x F e it kk ll p T (c::r) ka ta k1 k2 r (0+1) rfl true (fun _=>by decide) A hA _ _ _ _ _ _ _ P _ mD kF rK Am (fun _=>rfl) Rp ?_
   unfold ew at K
   rw[if_pos hq] at K
   exact K
  ·unfold ew at K
   rw[if_neg hq] at K
   refine uG x F e it A _ hh rfl rfl (c::r) 0 c rfl hq P ka ta k1 k2 (.int 0 v0) .none _ _ _ _ _ _ rest Rp fun h' N' t' p' a u v rK i7 mD kF pM k' rT Rp=>?_
   exact K _ _ _ _ _ _ _ _ _ _ _ _ rfl (hk false k' rT pM p' i7 mD kF rK) Rp
noncomputable abbrev cN(n:Nat)(nm qn:Value):Obj:=⟨.type "generator",none,.fields #[.int (n:Int) 0,nm,qn],#[]⟩
theorem uL{B:aQ}{A:Around}{R:Result→Shared→Prop}{N t₀:Nat}{tab:ae}{h:Heap}{gl:Array GenState}{d:Drawn}{os:OsState}{f:Value}{args:Args}
 (hh:A.handled=none) (Rp:Rep B N h tab 0) (hd:A.depth<recursionLimit) (n:Nat) (adv:List Nat) (bL:List Bool) (kk:Unit→Sem Fin) (aR:ae) (m i:Nat)
 (e:i4 (run B N t₀ n adv (dB (.call f args)) tab) bL=⟨PySem.W.R.bindR (PySem.W.ZFast.enterX 0) kk,aR,m,i,(run B N t₀ n adv (dB (.call f args)) tab).ob.map (·.2)⟩)
 (K:∀h' N' t',Rep B N' h' aR 0→wpAny (MB B) (A.under (.call f args)) (kk ()) (kR B A R) (fun e s'=>R (.error e) s') ⟨h',gl,d,t',os⟩):
 codeAny (MB B) A (.call f args) R ⟨h,gl,d,t₀,os⟩:=by
 refine af ?_
 generalize hx:run B N t₀ n adv (dB (.call f args)) tab=x at e
 unfold i4 at e
 injection e with e1 e2 e3 e4 e5
 refine(cM (V:=tO B N t₀) (B:=B) n).T PySem.Fin _ _ _ _ tab 0 0 [] adv h gl d os x (kH B (A:=A.under (.call f args)) hh N t₀) Rp hx (gS.of_map e5) fun h' R'=>?_
 rw[e1,←PySem.W.R.bindR_eq,←PySem.W.ZFast.enterX_eq]
 have jE:(A.under (.call f args)).depth<recursionLimit:=hd
 exact wpAny_bind (m:=enterFrame 0) (f:=kk) (wpAny_enterFrame (B.lim _ R'.inv) jE (K h' (N+x.m) _ (e2▸(R'.sub (dd _ bL)).flat)))
theorem pL(x:W2)(A:Around)(hh:A.handled=none)(hA:A.depth<900)(R:Result→Shared→Prop)(l:List Nat)(ta:Nat)
 (N t:Nat) (h:Heap) (gl d os) (rest:ae) (Rp:Rep x.B N h rest 0)
 (K:∀h' N' t' a F ka nm qn,Rep x.B N' h' ((a,cN gl.size nm qn)::(F,s4 x l ka ta)::rest) 0→R (.ok (.ret (.ref a))) ⟨h',gl.push (.fresh (cp x F)),d,t',os⟩):
 codeAny (MB x.B) A (.call (.ref 108) ⟨[.str (S l) ta],[]⟩) R ⟨h,gl,d,t,os⟩:=by
 refine uL hh Rp (by first|assumption|(simp only[Around.under,Code.weight,recursionLimit] at*;omega)) 18 [0,0,5,1] [] (fun _=>newGenerator (.func (am (fdOf x.B 108)) (envOf (fdOf x.B 108) 108 (N+0))) (fdOf x.B 108).name (fdOf x.B 108).qualname >>= fun g=>ret g) ((N+0,⟨.type "frame",none,.dict #[En x.B ar (t+0) (.str (S l) ta)] 1,#[]⟩)::rest) 1 1 (by rfl') fun h1 N1 t1 Rp=>?_
 simp only[newGenerator,newFields]
 have q:=(Rp.push (o:=cN gl.size (.str (fdOf x.B 108).name t1) (.str (fdOf x.B 108).qualname (t1+1))) rfl).flat
 have hs:=Rp.size
 refine wpAny_bind (wpAny_bind (wpAny_newGen (wpAny_bind (wpAny_mkText (wpAny_bind (wpAny_mkText (wpAny_newObj_type ?_ (by size_fits))))))))
 refine wpAny_pure ?_
 dsimp only[kR]
 rw[hs]
 exact K _ _ _ _ _ _ _ _ q
structure c7 (gl:Array GenState) (g:Nat) (gs:GenState):Prop where
 at':gl[g]? =some gs
 bare:AllBare gl
theorem ep{gl:Array GenState}{g:Nat}{gs:GenState}(h:AllBare gl)(hb:gs.bare=true):AllBare (gl.setIfInBounds g gs):=fun y hy=>by
 rcases Array.mem_or_eq_of_mem_setIfInBounds hy with h'|rfl
 ·exact h y h'
 ·exact hb
noncomputable def y9(x:W2)(av:List (Nat×List Nat))(a:Addr)(g:Nat)(nm qn:Value)(rest:ae)(d:Drawn)(os:OsState)(R:Result→Shared→Prop):Prop:=match av with
 |[]=>∀h' N' t' aY a' e,AllBare aY→Rep x.B N' h' ((e,gJ a')::rest) 0→R (.error (.ref e)) ⟨h',aY,d,t',os⟩
 |(i,w)::av=>∀h' N' t' aY a' u v cQ be,cE x av cQ be→c7 aY g cQ→Rep x.B N' h' ((a',dp i w u v)::(be++((a,cN g nm qn)::rest))) 0→R (.ok (.ret (.ref a'))) ⟨h',aY,d,t',os⟩
theorem uI(x:W2){av:List (Nat×List Nat)}{gs:GenState}{cs:ae}(A:Around)(hh:A.handled=none)(hA:A.depth<900)(R:Result→Shared→Prop)(a:Addr)(g:Nat)(nm qn:Value)(N t:Nat)(h:Heap)(gl:Array GenState)(d os)(rest:ae)
 (Rp:Rep x.B N h (cs++((a,cN g nm qn)::rest)) 0) (hg:c7 gl g gs) (G:cE x av gs cs) (K:y9 x av a g nm qn rest d os R):
 codeAny (MB x.B) A (.call (.builtin "generator.__next__") ⟨[.ref a],[]⟩) R ⟨h,gl,d,t,os⟩:=by
 obtain⟨hg,z'⟩:=hg
 have ha:h.get? a=some (cN g nm qn):=(Rp.cells _ (List.mem_append_right _ (.head _))).1
 have yi:h.IsGen a g:=⟨_,nm,qn,ha,rfl,rfl,rfl⟩
 have qY:g<gl.size:=by
  rcases Nat.lt_or_ge g gl.size with c|c
  ·exact c
  ·rw[Array.getElem?_eq_none c] at hg;cases hg
 refine codeAny_call_builtin slot_gen_next.plain entry_gen_next (slot_gen_next.check _ _ _ _ _ _ _ _ yi.typeIs (args_gen_next _) ?_)
 show wpAny _ _ (Builtin.Generator.genWake (.ref a) (.send .none)) _ _ _
 unfold Builtin.Generator.genWake
 refine wpAny_bind (wpAny_holding (wpAny_genNumber yi (wpAny_bind (wpAny_genState hg ?_))))
 have hd:A.in1.depth<recursionLimit:=by show A.depth<1000;exact n7 hA
 have key:∀P,Told x av ((a,cN g nm qn)::rest) (gl.setIfInBounds g .running) d os P→jp x gs A.in1 ⟨h,gl.setIfInBounds g .running,d,t,os⟩ P:=fun P q=>G.go A.in1 hh N t h (gl.setIfInBounds g .running) d os ((a,cN g nm qn)::rest) P Rp q
 have yd:∀cQ,((gl.setIfInBounds g .running).setIfInBounds g cQ)[g]? =some cQ:=fun cQ=>by
  rw[Array.getElem?_setIfInBounds_self_of_lt (by rw[Array.size_setIfInBounds];exact qY)]
 have sB:Told x av ((a,cN g nm qn)::rest) (gl.setIfInBounds g .running) d os (fun _ _=>True):=by
  cases av with
  |nil=>exact fun _ _ _ _=>True.intro
  |cons o av=>exact fun _ _ _ _ _ _ _ _ _ _ _ _ _ _ _=>True.intro
 cases gs with
 |running=>exact(key (fun _ _=>True) sB).elim
 |finished=>exact(key (fun _ _=>True) sB).elim
 |fresh c=>
  refine wpAny_bind (wpAny_roomToWake (x.B.lim _ Rp.inv) hd ?_)
  show wpAny _ _ (.resume g (.send .none) [] _) _ _ _
  intro Γ p hΓ
  refine wake_any _ x.B.prog x.B.w hg (.inl ⟨rfl,rfl,rfl,rfl⟩) (fun Γ=>Γ.In A.in1) (fun _ q=>q) ?_ Γ p hΓ
  rw[fI]
  show jp x (.fresh c) A.in1 ⟨h,gl.setIfInBounds g .running,d,t,os⟩ _
  refine key _ ?_
  clear key
  cases av with
  |nil=>
   intro h' N' t' qN
   show wpAny (MB x.B) A.in1 (newExc (.type "StopIteration") [] >>= _) _ _ ⟨h',_,d,t',os⟩
   have hs:=qN.size
   have q:=((qN.push (o:=⟨.type "tuple",none,.seq #[] 0,#[]⟩) rfl).push (o:=gJ N') rfl).flat
   refine wpAny_bind ?_
   simp only[newExc,newTuple]
   refine wpAny_bind (wpAny_newObj_type ?_ (by size_fits))
   refine wpAny_bind (m:=firstArgMember _ _) (wpAny_of_eq (a:=Value.none) (by first|rfl|(simp only[firstArgMember];rfl)) ?_)
   refine wpAny_newObj_type ?_ (by size_fits)
   simp only[raiseNew]
   refine wpAny_bind (wpAny_bind (wpAny_handled ?_))
   rw[show A.in1.handled=none from hh]
   refine wpAny_throw ?_
   rw[Heap.size_push,hs]
   exact K _ _ _ _ _ _ (ep (ep z' rfl) rfl) (q.sub (.cons_cons _ (.cons _ (.cons _ (.refl _)))))
  |cons o av=>
   intro h' N' t' a' u v ll kk c' p' fs' be hb hG qN
   show wpAny (MB x.B) A.in1 (ret (.ref a')) _ _ ⟨h',_,d,t',os⟩
   exact wpAny_pure (K _ _ _ _ _ _ _ _ _ hG ⟨yd _,ep (ep z' rfl) hb⟩ qN)
 |suspended k l c p₀ fs cl=>
  refine wpAny_bind (wpAny_roomToWake (x.B.lim _ Rp.inv) hd ?_)
  show wpAny _ _ (.resume g (.send .none) [] _) _ _ _
  intro Γ p hΓ
  refine wake_any _ x.B.prog x.B.w hg (.inr ⟨k,l,p₀,cl,rfl,rfl⟩) (fun Γ=>Γ.In A.in1) (fun _ q=>q) ?_ Γ p hΓ
  show jp x (.suspended k l c p₀ fs cl) A.in1 ⟨h,gl.setIfInBounds g .running,d,t,os⟩ _
  refine key _ ?_
  clear key
  cases av with
  |nil=>
   intro h' N' t' qN
   show wpAny (MB x.B) A.in1 (newExc (.type "StopIteration") [] >>= _) _ _ ⟨h',_,d,t',os⟩
   have hs:=qN.size
   have q:=((qN.push (o:=⟨.type "tuple",none,.seq #[] 0,#[]⟩) rfl).push (o:=gJ N') rfl).flat
   refine wpAny_bind ?_
   simp only[newExc,newTuple]
   refine wpAny_bind (wpAny_newObj_type ?_ (by size_fits))
   refine wpAny_bind (m:=firstArgMember _ _) (wpAny_of_eq (a:=Value.none) (by first|rfl|(simp only[firstArgMember];rfl)) ?_)
   refine wpAny_newObj_type ?_ (by size_fits)
   simp only[raiseNew]
   refine wpAny_bind (wpAny_bind (wpAny_handled ?_))
   rw[show A.in1.handled=none from hh]
   refine wpAny_throw ?_
   rw[Heap.size_push,hs]
   exact K _ _ _ _ _ _ (ep (ep z' rfl) rfl) (q.sub (.cons_cons _ (.cons _ (.cons _ (.refl _)))))
  |cons o av=>
   intro h' N' t' a' u v ll kk c' p' fs' be hb hG qN
   show wpAny (MB x.B) A.in1 (ret (.ref a')) _ _ ⟨h',_,d,t',os⟩
   exact wpAny_pure (K _ _ _ _ _ _ _ _ _ hG ⟨yd _,ep (ep z' rfl) hb⟩ qN)
theorem lK{fs cs r:ae}{g:Addr×Obj}:(fs++(g::(cs++r))).Perm (cs++(g::(fs++r))):=by
 have h1:fs++(g::(cs++r))=(fs++([g]++cs))++r:=by simp
 have h2:cs++(g::(fs++r))=((cs++[g])++fs)++r:=by simp
 rw[h1,h2]
 exact((List.perm_append_comm (l₁:=fs) (l₂:=[g]++cs)).trans ((List.perm_append_comm (l₁:=[g]) (l₂:=cs)).append_right fs)).append_right r
noncomputable def u7(x:W2)(av:List (Nat×List Nat))(fs:ae)(a:Addr)(g:Nat)(nm qn:Value)(rest:ae)(d:Drawn)(os:OsState)(R:Result→Shared→Prop):Prop:=match av with
 |[]=>∀h' N' t' aY a' e,AllBare aY→Rep x.B N' h' ((e,gJ a')::(fs++rest)) 0→R (.error (.ref e)) ⟨h',aY,d,t',os⟩
 |(i,w)::av=>∀h' N' t' aY a' u v cQ be,cE x av cQ be→c7 aY g cQ→Rep x.B N' h' ((a',dp i w u v)::(fs++((a,cN g nm qn)::(be++rest)))) 0→R (.ok (.ret (.ref a'))) ⟨h',aY,d,t',os⟩
theorem cF(x:W2){av:List (Nat×List Nat)}{gs:GenState}{cs:ae}(fs:ae)(A:Around)(hh:A.handled=none)(hA:A.depth<900)(R:Result→Shared→Prop)(a:Addr)(g:Nat)(nm qn:Value)(N t:Nat)(h:Heap)(gl:Array GenState)(d os)(rest:ae)
 (Rp:Rep x.B N h (fs++((a,cN g nm qn)::(cs++rest))) 0) (hg:c7 gl g gs) (G:cE x av gs cs) (K:u7 x av fs a g nm qn rest d os R):
 codeAny (MB x.B) A (.call (.builtin "generator.__next__") ⟨[.ref a],[]⟩) R ⟨h,gl,d,t,os⟩:=by
 refine uI x A hh hA R a g nm qn N t h gl d os (fs++rest) (Rp.perm lK) hg G ?_
 cases av with
 |nil=>exact K
 |cons o av=>exact fun h' N' t' aY a' u v cQ be G' eo qN=>K h' N' t' aY a' u v cQ be G' eo (qN.perm (.cons _ lK.symm))
end Mine
namespace Mine
open PySem PySem.W PySem.W.X PyProof.Rows PySem.Calls
section
variable {B:aQ} {A:Around} {R:Result→Shared→Prop} {h:Heap} {gl:Array GenState} {d:Drawn} {t:Nat} {os:OsState} {N m u v j:Nat} {tab aR:ae} {l l':List Nat} {sl:Addr}
theorem mK{r:Bool}(e:(!(Builtin.Str.occurrences (S l) (S l') 0 (S l).length 1).isEmpty)=r)(K:R (.ok (.ret (.bool r))) ⟨h,gl,d,t,os⟩):codeAny (MB B) A (.call (.builtin "str.__contains__") ⟨[.str (S l) u,.str (S l') v],[]⟩) R ⟨h,gl,d,t,os⟩:=by
 subst e
 exact gd F.slot_str_contains rfl F.entry_str_contains (F.args_str_contains_2 _ _) (gives_str_contains _ _ _ _) K
theorem iD{r:Bool}(e:(!(Builtin.Str.occurrences (S l) (S l') 0 (S l).length 1).isEmpty)=r):(⟨(.call (.builtin "str.__contains__") ⟨[.str (S l) u,.str (S l') v],[]⟩),fun t=>((.bool r)),0⟩:dn).Ok B.prog B.w:=fun _ _ _ _ _ _ _ K=>mK e K
theorem gf{id:String}{b:Builtin}{args:List Value}{s:Shared}(hk:builtinKind id=none)(hp:plainId id=true)(hb:entryFor table id=some b)(ha:argsOk id ⟨args,[]⟩)
 (hc:wpAny (MB B) A.in1 (b ⟨args,[]⟩) (fun fin s'=>∃v,fin=.done (.ret v)∧R (.ok (.ret v)) s') (fun e s'=>R (.error e) s') s):codeAny (MB B) A (.call (.builtin id) ⟨args,[]⟩) R s:=by
 refine codeAny_call_builtin hp hb ?_
 have uw:=wpAny_mono hc (Q':=fun fin s'=>match fin with
  | .done f=>R (.ok f) s'
  | .again c'=>c'.quiet=true∧codeAny (MB B) A c' R s')
  (fun fin s' h'=>by obtain⟨v,rfl,hv⟩:=h';exact hv) fun _ _ h'=>h'
 simp only[checkBuiltinCall,hk]
 cases hsig:Manifest.signature? id with
 |none=>exact wpAny_pure uw
 |some sig=>
  have Cn:Bind.checkArgs id sig ⟨args,[]⟩=pure ():=by simpa only[argsOk,hsig] using ha
  first
   |exact wpAny_onRaise (wpAny_of_eq Cn uw)
   |exact wpAny_of_eq Cn uw
theorem wM{c:Int}(e:(l.length:Int)=c)(hc:c<2^63)(K:R (.ok (.ret (.int c (t+1)))) ⟨h,gl,d,t+2,os⟩):codeAny (MB B) A (.call (.builtin "len") ⟨[.str (S l) u],[]⟩) R ⟨h,gl,d,t,os⟩:=by
 subst e
 refine gf kind_len plain_len entry_len (args_len1 _) ?_
 unfold Builtin.«len»
 refine wpAny_bind (m:=oneArg "len" _) (wpAny_pure ?_)
 refine wpAny_bind (m:=callSpecial? _ (Str.ofString "__len__")) (wpAny_callSpecial?_slot (name:=Str.ofString "__len__") (T:="str") rfl F.slot_str_len (call_gives F.slot_str_len rfl F.entry_str_len (F.args_str_len_1 _) (gives_str_len (S l) u) ?_))
 refine wpAny_bind (wpAny_holding (wpAny_pure ?_))
 refine wpAny_bind (wpAny_letGo ?_)
 show wpAny _ _ (if(l.length:Int)<0 then _ else _) _ _ _
 rw[if_neg (by exact zB)]
 show wpAny _ _ (if(l.length:Int)≥2^63 then _ else _) _ _ _
 rw[if_neg (by omega)]
 exact wpAny_bind (wpAny_mkInt (wpAny_pure ⟨_,rfl,K⟩))
theorem po{c:Int}(e:(l.length:Int)=c)(hc:c<2^63):(⟨(.call (.builtin "len") ⟨[.str (S l) u],[]⟩),fun t=>((.int c (t+1))),2⟩:dn).Ok B.prog B.w:=fun _ _ _ _ _ _ _ K=>wM e hc K
noncomputable def eR(l:List Nat)(lo hi:Option Int):List Nat:=
 let p:=Builtin.Str.strSliceIndices lo hi 1 l.length
 if p.length==l.length then l else p.filterMap (l[·]?)
theorem nB(hl:l.length≤2^20)(Rp:Rep B N h tab 0)(i:Nat)(lo hi:Option (Int×Tok))(hx:nth tab i=some (sl,⟨.type "slice",none,.fields #[partValue lo,partValue hi,.none],#[]⟩))
 (K:∀t' fS,R (.ok (.ret (.str (S (eR l (lo.map (·.1)) (hi.map (·.1)))) fS))) ⟨h,gl,d,t',os⟩):codeAny (MB B) A (.call (.builtin "str.__getitem__") ⟨[.str (S l) u,.ref sl],[]⟩) R ⟨h,gl,d,t,os⟩:=by
 have hs:=Rp.at hx
 refine gm F.slot_str_getitem rfl F.entry_str_getitem (F.args_str_getitem_2 _ _) (meets_str_getitem_slice (S l) u sl lo hi none rfl) ⟨⟨_,hs,rfl,rfl⟩,?_⟩
 unfold sliceMade slicePicked
 show Made.post (if((1:Int)==1&&(Builtin.Str.strSliceIndices (lo.map (·.1)) (hi.map (·.1)) 1 l.length).length==l.length)=true then _ else _) _ _
 by_cases c:((1:Int)==1&&(Builtin.Str.strSliceIndices (lo.map (·.1)) (hi.map (·.1)) 1 l.length).length==l.length)=true
 ·rw[if_pos c]
  have c':((Builtin.Str.strSliceIndices (lo.map (·.1)) (hi.map (·.1)) 1 l.length).length==l.length)=true:=by simpa using c
  have k:=K t u
  unfold eR at k
  dsimp only at k
  rw[if_pos c'] at k
  exact k
 ·rw[if_neg c]
  have c':¬((Builtin.Str.strSliceIndices (lo.map (·.1)) (hi.map (·.1)) 1 l.length).length==l.length)=true:=by simpa using c
  have k:=K (t+1) t
  unfold eR at k
  dsimp only at k
  rw[if_neg c'] at k
  have e:S (List.filterMap (fun x=>l[x]?) (Builtin.Str.strSliceIndices (lo.map (·.1)) (hi.map (·.1)) 1 l.length))=⟨(List.filterMap (fun x=>(S l).cps[x]?) (Builtin.Str.strSliceIndices (lo.map (·.1)) (hi.map (·.1)) 1 l.length)).toArray⟩:=by
   unfold S
   simp
  rw[e] at k
  have e2:(S l).length=l.length:=by show Array.size ⟨l⟩=_;simp
  rw[e2]
  refine⟨?_,k⟩
  have h1:=List.length_filterMap_le (fun x=>(S l).cps[x]?) (Builtin.Str.strSliceIndices (lo.map (·.1)) (hi.map (·.1)) 1 l.length)
  have h2:=sliceIndices_le (lo.map (·.1)) (hi.map (·.1)) l.length
  show Array.size _≤_
  rw[List.size_toArray]
  refine Nat.le_trans (Nat.le_trans h1 h2) (Nat.le_trans hl ?_)
  unfold sizeLine
  decide
noncomputable def dX(ws:List (List Nat)):List Nat:=match ws with
 |[w]=>w
 |_=>(Builtin.Str.glued (S []) (ws.map S)).cps.toList
theorem mm(x:Str):S x.cps.toList=x:=by
 cases x;rfl
theorem mJ(Rp:Rep B N h tab 0)(i n:Nat)(ws:List (List Nat×Nat))(a:Addr)(hx:nth tab i=some (a,an ((ws.map fun p=>Value.str (S p.1) p.2).toArray) n))(hz:(dX (ws.map (·.1))).length≤2^20)
 (hz2:Builtin.Str.tooLong (((ws.map fun p=>(S p.1,p.2)).map (·.1)).toArray.foldl (·+·.length+(S []).length) 0)=false)
 (K:∀t' fS,R (.ok (.ret (.str (S (dX (ws.map (·.1)))) fS))) ⟨h,gl,d,t',os⟩):codeAny (MB B) A (.call (.builtin "str.join") ⟨[.str (S []) u,.ref a],[]⟩) R ⟨h,gl,d,t,os⟩:=by
 have hs:=Rp.at hx
 have e:(strValues (ws.map fun p=>(S p.1,p.2)))=ws.map fun p=>Value.str (S p.1) p.2:=by unfold strValues;simp
 refine gm F.slot_str_join rfl F.entry_str_join (F.args_str_join_2 _ _) (meets_str_join_list (S []) u a (ws.map fun p=>(S p.1,p.2)) hz2) ⟨⟨_,hs,rfl,n,by rw[e]⟩,?_⟩
 match ws,hz,K with
 |[w],_,K=>exact K t w.2
 |[],hz,K=>
  have k:=K (t+1) t
  unfold dX at k
  simp only[List.map_nil] at k
  rw[mm] at k
  exact⟨by decide+kernel,k⟩
 |a::b::r,hz,K=>
  have k:=K (t+1) t
  unfold dX at k hz
  simp only[List.map_cons] at k hz
  rw[mm] at k
  have em:List.map (fun x=>x.1) ((S a.1,a.2)::List.map (fun p:List Nat×Nat=>(S p.1,p.2)) (b::r))=S a.1::S b.1::List.map S (List.map (·.1) r):=by simp
  show _∧_
  dsimp only
  rw[em]
  refine⟨?_,k⟩
  rw[Array.length_toList] at hz
  exact Nat.le_trans hz (by unfold sizeLine;decide)
end
end Mine
namespace Mine
open PySem PySem.W PySem.W.X PyProof.Rows PySem.Spec PySem.Calls
noncomputable abbrev dI(x:W2)(F a:Addr):Code:=ai (ah x.B 122 2) (.ref a) (envOf (fdOf x.B 122) 122 F)
noncomputable def d4(x:W2)(ka kb tk:Nat)(va:Value)(k:Int)(more:List DictEntry)(n:Nat):Obj:=⟨.type "frame",none,.dict (#[En x.B ar ka va,En x.B cv kb (.int k tk)]++more.toArray) n,#[]⟩
noncomputable def kE:Int→List (Nat×List Nat)→Option Int
 |k,[]=>some k
 |k,(_,w)::r=>if w=[40] then kE (k+1) r else if w=[41] then(if k-1<0 then none else kE (k-1) r) else kE k r
theorem yK(x:W2)(A:Around)(hh:A.handled=none)(hA:A.depth<800)(R:Result→Shared→Prop)(F a:Addr)(g:Nat)(nm qn va:Value)(k:Int)(ka kb tk:Nat)(i:Nat)(w:List Nat)(av:List (Nat×List Nat))(gs:GenState)(cs:ae)(G:cE x ((i,w)::av) gs cs)
 (ju:w=[40])
 (N t:Nat) (h:Heap) (gl:Array GenState) (hg:c7 gl g gs) (d os) (rest:ae)
 (Rp:Rep x.B N h ((F,d4 x ka kb tk va k [] 2)::(a,cN g nm qn)::(cs++rest)) 0)
 (K:∀h' N' t' aY cQ be q1 q2 v1 v2 tk,cE x av cQ be→c7 aY g cQ→Rep x.B N' h' ((F,d4 x ka kb tk va (k+1) [En x.B aH q1 v1,En x.B aW q2 v2] 4)::(a,cN g nm qn)::(be++rest)) 0→codeAny (MB x.B) A (dI x F a) R ⟨h',aY,d,t',os⟩):codeAny (MB x.B) A (dI x F a) R ⟨h,gl,d,t,os⟩:=by
 dsimp only[d4] at Rp
 refine af ?_
 refine seg_call hh Rp 13 [6] [true,true] (.call (.builtin "generator.__next__") ⟨[.ref a],[]⟩) ((F,⟨.type "frame",none,.dict #[En x.B ar ka (va),En x.B cv kb (.int (k) tk)] 2,#[]⟩)::(a,⟨.type "generator",none,.fields #[.int ((↑g:Int)) 0,nm,qn],#[]⟩)::cs++rest) 0 0 (by rfl') fun h1 N1 t1 Rp=>?_
 refine cF x [_] (A.under _) hh (by show A.depth+0<900;exact fB hA) _ a g nm qn _ _ _ _ _ _ _ Rp hg G fun h8 N8 t8 aY a8 u8 v8 cQ be G' eo Rp=>?_
 dsimp only[List.cons_append,List.nil_append,dp] at Rp
 refine bI hh Rp [⟨.call (.builtin "str.__eq__") ⟨[.str (S w) v8,.str (S [40]) (t8+2)],[]⟩,fun _=>.bool true,0⟩] 94 [7,5,5,5,0,5,5,5,0,5,5,5,6,5,1,5,0,5,5,5,6,5,1,5,0,5,5,5,6,5,1,5,9,5,9,5,9,1,9,0,9,5] [false,false,false,false,true,true] (Fin.again (ai (ah x.B 122 2) (.ref a) (envOf (fdOf x.B 122) 122 F))) ((F,⟨.type "frame",none,.dict #[En x.B ar ka (va),En x.B cv kb (.int (k+1) (t8+4)),En x.B aH (t8+0) (.int ((↑i:Int)) u8),En x.B aW (t8+1) (.str (S w) v8)] 4,#[]⟩)::(a,⟨.type "generator",none,.fields #[.int ((↑g:Int)) 0,nm,qn],#[]⟩)::be++rest) 3 6 (by rfl') (aC (dc (l:=(w)) (l':=[40]) (by first|rfl|(simp[*];done)|(simp;omega))) aN) fun h2 N2 t2 Rp=>?_
 exact⟨rfl,K _ _ _ _ _ _ _ _ _ _ _ G' eo Rp⟩
theorem yM(x:W2)(A:Around)(hh:A.handled=none)(hA:A.depth<800)(R:Result→Shared→Prop)(F a:Addr)(g:Nat)(nm qn va:Value)(k:Int)(ka kb tk:Nat)(i:Nat)(w:List Nat)(av:List (Nat×List Nat))(gs:GenState)(cs:ae)(G:cE x ((i,w)::av) gs cs)
 (ju:w=[41]) (hk:k<1)
 (N t:Nat) (h:Heap) (gl:Array GenState) (hg:c7 gl g gs) (d os) (rest:ae)
 (Rp:Rep x.B N h ((F,d4 x ka kb tk va k [] 2)::(a,cN g nm qn)::(cs++rest)) 0)
 (K:∀h' N' t' aY,AllBare aY→Rep x.B N' h' rest 0→R (.ok (.ret (.bool false))) ⟨h',aY,d,t',os⟩):codeAny (MB x.B) A (dI x F a) R ⟨h,gl,d,t,os⟩:=by
 dsimp only[d4] at Rp
 refine af ?_
 refine seg_call hh Rp 13 [6] [true,true] (.call (.builtin "generator.__next__") ⟨[.ref a],[]⟩) ((F,⟨.type "frame",none,.dict #[En x.B ar ka (va),En x.B cv kb (.int (k) tk)] 2,#[]⟩)::(a,⟨.type "generator",none,.fields #[.int ((↑g:Int)) 0,nm,qn],#[]⟩)::cs++rest) 0 0 (by rfl') fun h1 N1 t1 Rp=>?_
 refine cF x [_] (A.under _) hh (by show A.depth+0<900;exact fB hA) _ a g nm qn _ _ _ _ _ _ _ Rp hg G fun h8 N8 t8 aY a8 u8 v8 cQ be G' eo Rp=>?_
 dsimp only[List.cons_append,List.nil_append,dp] at Rp
 refine bI hh Rp [⟨.call (.builtin "str.__eq__") ⟨[.str (S w) v8,.str (S [40]) (t8+2)],[]⟩,fun _=>.bool false,0⟩,⟨.call (.builtin "str.__eq__") ⟨[.str (S w) v8,.str (S [41]) (t8+3)],[]⟩,fun _=>.bool true,0⟩,⟨.call (.builtin "int.__lt__") ⟨[.int (k-1) (t8+5),.int 0 (t8+7)],[]⟩,fun _=>.bool true,0⟩] 109 [7,5,5,5,0,5,5,5,0,5,5,5,6,5,1,5,0,5,5,5,6,5,1,5,0,5,5,5,6,5,1,5,9,5,9,5,9,1,9,2,9,0,9,5,9,3] [false,false,false,false,false,false] (Fin.done (Flow.ret (.bool false))) (be++rest) 3 8 (by rfl') (aC (dc (l:=(w)) (l':=[40]) (by first|rfl|(simp[*];done)|(simp;omega))) (aC (dc (l:=(w)) (l':=[41]) (by first|rfl|(simp[*];done)|(simp;omega))) (aC (iE (decide_eq_true (by exact Et hk))) aN))) fun h2 N2 t2 Rp=>?_
 exact K _ _ _ _ eo.bare (Rp.sub (List.sublist_append_right _ _))
theorem yL(x:W2)(A:Around)(hh:A.handled=none)(hA:A.depth<800)(R:Result→Shared→Prop)(F a:Addr)(g:Nat)(nm qn va:Value)(k:Int)(ka kb tk:Nat)(i:Nat)(w:List Nat)(av:List (Nat×List Nat))(gs:GenState)(cs:ae)(G:cE x ((i,w)::av) gs cs)
 (ju:w≠[40]) (li:w≠[41])
 (N t:Nat) (h:Heap) (gl:Array GenState) (hg:c7 gl g gs) (d os) (rest:ae)
 (Rp:Rep x.B N h ((F,d4 x ka kb tk va k [] 2)::(a,cN g nm qn)::(cs++rest)) 0)
 (K:∀h' N' t' aY cQ be q1 q2 v1 v2 tk,cE x av cQ be→c7 aY g cQ→Rep x.B N' h' ((F,d4 x ka kb tk va k [En x.B aH q1 v1,En x.B aW q2 v2] 4)::(a,cN g nm qn)::(be++rest)) 0→codeAny (MB x.B) A (dI x F a) R ⟨h',aY,d,t',os⟩):codeAny (MB x.B) A (dI x F a) R ⟨h,gl,d,t,os⟩:=by
 dsimp only[d4] at Rp
 refine af ?_
 refine seg_call hh Rp 13 [6] [true,true] (.call (.builtin "generator.__next__") ⟨[.ref a],[]⟩) ((F,⟨.type "frame",none,.dict #[En x.B ar ka (va),En x.B cv kb (.int (k) tk)] 2,#[]⟩)::(a,⟨.type "generator",none,.fields #[.int ((↑g:Int)) 0,nm,qn],#[]⟩)::cs++rest) 0 0 (by rfl') fun h1 N1 t1 Rp=>?_
 refine cF x [_] (A.under _) hh (by show A.depth+0<900;exact fB hA) _ a g nm qn _ _ _ _ _ _ _ Rp hg G fun h8 N8 t8 aY a8 u8 v8 cQ be G' eo Rp=>?_
 dsimp only[List.cons_append,List.nil_append,dp] at Rp
 refine bI hh Rp [⟨.call (.builtin "str.__eq__") ⟨[.str (S w) v8,.str (S [40]) (t8+2)],[]⟩,fun _=>.bool false,0⟩,⟨.call (.builtin "str.__eq__") ⟨[.str (S w) v8,.str (S [41]) (t8+3)],[]⟩,fun _=>.bool false,0⟩] 86 [7,5,5,5,0,5,5,5,0,5,5,5,6,5,1,5,0,5,5,5,6,5,1,5,0,5,5,5,6,5,1,5,9,5,9,5,9,1,9,2] [false,false,false,false,true,true] (Fin.again (ai (ah x.B 122 2) (.ref a) (envOf (fdOf x.B 122) 122 F))) ((F,⟨.type "frame",none,.dict #[En x.B ar ka (va),En x.B cv kb (.int (k) tk),En x.B aH (t8+0) (.int ((↑i:Int)) u8),En x.B aW (t8+1) (.str (S w) v8)] 4,#[]⟩)::(a,⟨.type "generator",none,.fields #[.int ((↑g:Int)) 0,nm,qn],#[]⟩)::be++rest) 3 4 (by rfl') (aC (dc (l:=(w)) (l':=[40]) (by first|rfl|(simp[*];done)|(simp;omega))) (aC (dc (l:=(w)) (l':=[41]) (by first|rfl|(simp[*];done)|(simp;omega))) aN)) fun h2 N2 t2 Rp=>?_
 exact⟨rfl,K _ _ _ _ _ _ _ _ _ _ _ G' eo Rp⟩
theorem Cy(x:W2)(A:Around)(hh:A.handled=none)(hA:A.depth<800)(R:Result→Shared→Prop)(F a:Addr)(g:Nat)(nm qn va:Value)(k:Int)(ka kb tk:Nat)(q1 q2:Nat)(v1 v2:Value)(i:Nat)(w:List Nat)(av:List (Nat×List Nat))(gs:GenState)(cs:ae)(G:cE x ((i,w)::av) gs cs)
 (ju:w=[40])
 (N t:Nat) (h:Heap) (gl:Array GenState) (hg:c7 gl g gs) (d os) (rest:ae)
 (Rp:Rep x.B N h ((F,d4 x ka kb tk va k [En x.B aH q1 v1,En x.B aW q2 v2] 4)::(a,cN g nm qn)::(cs++rest)) 0)
 (K:∀h' N' t' aY cQ be q1 q2 v1 v2 tk,cE x av cQ be→c7 aY g cQ→Rep x.B N' h' ((F,d4 x ka kb tk va (k+1) [En x.B aH q1 v1,En x.B aW q2 v2] 4)::(a,cN g nm qn)::(be++rest)) 0→codeAny (MB x.B) A (dI x F a) R ⟨h',aY,d,t',os⟩):codeAny (MB x.B) A (dI x F a) R ⟨h,gl,d,t,os⟩:=by
 dsimp only[d4] at Rp
 refine af ?_
 refine seg_call hh Rp 13 [6] [true,true] (.call (.builtin "generator.__next__") ⟨[.ref a],[]⟩) ((F,⟨.type "frame",none,.dict #[En x.B ar ka (va),En x.B cv kb (.int (k) tk),En x.B aH q1 (v1),En x.B aW q2 (v2)] 4,#[]⟩)::(a,⟨.type "generator",none,.fields #[.int ((↑g:Int)) 0,nm,qn],#[]⟩)::cs++rest) 0 0 (by rfl') fun h1 N1 t1 Rp=>?_
 refine cF x [_] (A.under _) hh (by show A.depth+0<900;exact fB hA) _ a g nm qn _ _ _ _ _ _ _ Rp hg G fun h8 N8 t8 aY a8 u8 v8 cQ be G' eo Rp=>?_
 dsimp only[List.cons_append,List.nil_append,dp] at Rp
 refine bI hh Rp [⟨.call (.builtin "str.__eq__") ⟨[.str (S w) v8,.str (S [40]) (t8+2)],[]⟩,fun _=>.bool true,0⟩] 94 [7,5,5,5,0,5,5,5,0,5,5,5,6,5,1,5,0,5,5,5,6,5,1,5,0,5,5,5,6,5,1,5,9,5,9,5,9,1,9,0,9,5] [false,false,false,false,true,true] (Fin.again (ai (ah x.B 122 2) (.ref a) (envOf (fdOf x.B 122) 122 F))) ((F,⟨.type "frame",none,.dict #[En x.B ar ka (va),En x.B cv kb (.int (k+1) (t8+4)),En x.B aH q1 (.int ((↑i:Int)) u8),En x.B aW q2 (.str (S w) v8)] 4,#[]⟩)::(a,⟨.type "generator",none,.fields #[.int ((↑g:Int)) 0,nm,qn],#[]⟩)::be++rest) 3 6 (by rfl') (aC (dc (l:=(w)) (l':=[40]) (by first|rfl|(simp[*];done)|(simp;omega))) aN) fun h2 N2 t2 Rp=>?_
 exact⟨rfl,K _ _ _ _ _ _ _ _ _ _ _ G' eo Rp⟩
theorem CB(x:W2)(A:Around)(hh:A.handled=none)(hA:A.depth<800)(R:Result→Shared→Prop)(F a:Addr)(g:Nat)(nm qn va:Value)(k:Int)(ka kb tk:Nat)(q1 q2:Nat)(v1 v2:Value)(i:Nat)(w:List Nat)(av:List (Nat×List Nat))(gs:GenState)(cs:ae)(G:cE x ((i,w)::av) gs cs)
 (ju:w=[41]) (hk:1≤k)
 (N t:Nat) (h:Heap) (gl:Array GenState) (hg:c7 gl g gs) (d os) (rest:ae)
 (Rp:Rep x.B N h ((F,d4 x ka kb tk va k [En x.B aH q1 v1,En x.B aW q2 v2] 4)::(a,cN g nm qn)::(cs++rest)) 0)
 (K:∀h' N' t' aY cQ be q1 q2 v1 v2 tk,cE x av cQ be→c7 aY g cQ→Rep x.B N' h' ((F,d4 x ka kb tk va (k-1) [En x.B aH q1 v1,En x.B aW q2 v2] 4)::(a,cN g nm qn)::(be++rest)) 0→codeAny (MB x.B) A (dI x F a) R ⟨h',aY,d,t',os⟩):codeAny (MB x.B) A (dI x F a) R ⟨h,gl,d,t,os⟩:=by
 dsimp only[d4] at Rp
 refine af ?_
 refine seg_call hh Rp 13 [6] [true,true] (.call (.builtin "generator.__next__") ⟨[.ref a],[]⟩) ((F,⟨.type "frame",none,.dict #[En x.B ar ka (va),En x.B cv kb (.int (k) tk),En x.B aH q1 (v1),En x.B aW q2 (v2)] 4,#[]⟩)::(a,⟨.type "generator",none,.fields #[.int ((↑g:Int)) 0,nm,qn],#[]⟩)::cs++rest) 0 0 (by rfl') fun h1 N1 t1 Rp=>?_
 refine cF x [_] (A.under _) hh (by show A.depth+0<900;exact fB hA) _ a g nm qn _ _ _ _ _ _ _ Rp hg G fun h8 N8 t8 aY a8 u8 v8 cQ be G' eo Rp=>?_
 dsimp only[List.cons_append,List.nil_append,dp] at Rp
 refine bI hh Rp [⟨.call (.builtin "str.__eq__") ⟨[.str (S w) v8,.str (S [40]) (t8+2)],[]⟩,fun _=>.bool false,0⟩,⟨.call (.builtin "str.__eq__") ⟨[.str (S w) v8,.str (S [41]) (t8+3)],[]⟩,fun _=>.bool true,0⟩,⟨.call (.builtin "int.__lt__") ⟨[.int (k-1) (t8+5),.int 0 (t8+7)],[]⟩,fun _=>.bool false,0⟩] 108 [7,5,5,5,0,5,5,5,0,5,5,5,6,5,1,5,0,5,5,5,6,5,1,5,0,5,5,5,6,5,1,5,9,5,9,5,9,1,9,2,9,0,9,5,9,3] [false,false,false,false,true,true] (Fin.again (ai (ah x.B 122 2) (.ref a) (envOf (fdOf x.B 122) 122 F))) ((F,⟨.type "frame",none,.dict #[En x.B ar ka (va),En x.B cv kb (.int (k-1) (t8+5)),En x.B aH q1 (.int ((↑i:Int)) u8),En x.B aW q2 (.str (S w) v8)] 4,#[]⟩)::(a,⟨.type "generator",none,.fields #[.int ((↑g:Int)) 0,nm,qn],#[]⟩)::be++rest) 3 8 (by rfl') (aC (dc (l:=(w)) (l':=[40]) (by first|rfl|(simp[*];done)|(simp;omega))) (aC (dc (l:=(w)) (l':=[41]) (by first|rfl|(simp[*];done)|(simp;omega))) (aC (iE (decide_eq_false (by exact Hn hk))) aN))) fun h2 N2 t2 Rp=>?_
 exact⟨rfl,K _ _ _ _ _ _ _ _ _ _ _ G' eo Rp⟩
theorem CA(x:W2)(A:Around)(hh:A.handled=none)(hA:A.depth<800)(R:Result→Shared→Prop)(F a:Addr)(g:Nat)(nm qn va:Value)(k:Int)(ka kb tk:Nat)(q1 q2:Nat)(v1 v2:Value)(i:Nat)(w:List Nat)(av:List (Nat×List Nat))(gs:GenState)(cs:ae)(G:cE x ((i,w)::av) gs cs)
 (ju:w=[41]) (hk:k<1)
 (N t:Nat) (h:Heap) (gl:Array GenState) (hg:c7 gl g gs) (d os) (rest:ae)
 (Rp:Rep x.B N h ((F,d4 x ka kb tk va k [En x.B aH q1 v1,En x.B aW q2 v2] 4)::(a,cN g nm qn)::(cs++rest)) 0)
 (K:∀h' N' t' aY,AllBare aY→Rep x.B N' h' rest 0→R (.ok (.ret (.bool false))) ⟨h',aY,d,t',os⟩):codeAny (MB x.B) A (dI x F a) R ⟨h,gl,d,t,os⟩:=by
 dsimp only[d4] at Rp
 refine af ?_
 refine seg_call hh Rp 13 [6] [true,true] (.call (.builtin "generator.__next__") ⟨[.ref a],[]⟩) ((F,⟨.type "frame",none,.dict #[En x.B ar ka (va),En x.B cv kb (.int (k) tk),En x.B aH q1 (v1),En x.B aW q2 (v2)] 4,#[]⟩)::(a,⟨.type "generator",none,.fields #[.int ((↑g:Int)) 0,nm,qn],#[]⟩)::cs++rest) 0 0 (by rfl') fun h1 N1 t1 Rp=>?_
 refine cF x [_] (A.under _) hh (by show A.depth+0<900;exact fB hA) _ a g nm qn _ _ _ _ _ _ _ Rp hg G fun h8 N8 t8 aY a8 u8 v8 cQ be G' eo Rp=>?_
 dsimp only[List.cons_append,List.nil_append,dp] at Rp
 refine bI hh Rp [⟨.call (.builtin "str.__eq__") ⟨[.str (S w) v8,.str (S [40]) (t8+2)],[]⟩,fun _=>.bool false,0⟩,⟨.call (.builtin "str.__eq__") ⟨[.str (S w) v8,.str (S [41]) (t8+3)],[]⟩,fun _=>.bool true,0⟩,⟨.call (.builtin "int.__lt__") ⟨[.int (k-1) (t8+5),.int 0 (t8+7)],[]⟩,fun _=>.bool true,0⟩] 109 [7,5,5,5,0,5,5,5,0,5,5,5,6,5,1,5,0,5,5,5,6,5,1,5,0,5,5,5,6,5,1,5,9,5,9,5,9,1,9,2,9,0,9,5,9,3] [false,false,false,false,false,false] (Fin.done (Flow.ret (.bool false))) (be++rest) 3 8 (by rfl') (aC (dc (l:=(w)) (l':=[40]) (by first|rfl|(simp[*];done)|(simp;omega))) (aC (dc (l:=(w)) (l':=[41]) (by first|rfl|(simp[*];done)|(simp;omega))) (aC (iE (decide_eq_true (by exact Et hk))) aN))) fun h2 N2 t2 Rp=>?_
 exact K _ _ _ _ eo.bare (Rp.sub (List.sublist_append_right _ _))
theorem Cz(x:W2)(A:Around)(hh:A.handled=none)(hA:A.depth<800)(R:Result→Shared→Prop)(F a:Addr)(g:Nat)(nm qn va:Value)(k:Int)(ka kb tk:Nat)(q1 q2:Nat)(v1 v2:Value)(i:Nat)(w:List Nat)(av:List (Nat×List Nat))(gs:GenState)(cs:ae)(G:cE x ((i,w)::av) gs cs)
 (ju:w≠[40]) (li:w≠[41])
 (N t:Nat) (h:Heap) (gl:Array GenState) (hg:c7 gl g gs) (d os) (rest:ae)
 (Rp:Rep x.B N h ((F,d4 x ka kb tk va k [En x.B aH q1 v1,En x.B aW q2 v2] 4)::(a,cN g nm qn)::(cs++rest)) 0)
 (K:∀h' N' t' aY cQ be q1 q2 v1 v2 tk,cE x av cQ be→c7 aY g cQ→Rep x.B N' h' ((F,d4 x ka kb tk va k [En x.B aH q1 v1,En x.B aW q2 v2] 4)::(a,cN g nm qn)::(be++rest)) 0→codeAny (MB x.B) A (dI x F a) R ⟨h',aY,d,t',os⟩):codeAny (MB x.B) A (dI x F a) R ⟨h,gl,d,t,os⟩:=by
 dsimp only[d4] at Rp
 refine af ?_
 refine seg_call hh Rp 13 [6] [true,true] (.call (.builtin "generator.__next__") ⟨[.ref a],[]⟩) ((F,⟨.type "frame",none,.dict #[En x.B ar ka (va),En x.B cv kb (.int (k) tk),En x.B aH q1 (v1),En x.B aW q2 (v2)] 4,#[]⟩)::(a,⟨.type "generator",none,.fields #[.int ((↑g:Int)) 0,nm,qn],#[]⟩)::cs++rest) 0 0 (by rfl') fun h1 N1 t1 Rp=>?_
 refine cF x [_] (A.under _) hh (by show A.depth+0<900;exact fB hA) _ a g nm qn _ _ _ _ _ _ _ Rp hg G fun h8 N8 t8 aY a8 u8 v8 cQ be G' eo Rp=>?_
 dsimp only[List.cons_append,List.nil_append,dp] at Rp
 refine bI hh Rp [⟨.call (.builtin "str.__eq__") ⟨[.str (S w) v8,.str (S [40]) (t8+2)],[]⟩,fun _=>.bool false,0⟩,⟨.call (.builtin "str.__eq__") ⟨[.str (S w) v8,.str (S [41]) (t8+3)],[]⟩,fun _=>.bool false,0⟩] 86 [7,5,5,5,0,5,5,5,0,5,5,5,6,5,1,5,0,5,5,5,6,5,1,5,0,5,5,5,6,5,1,5,9,5,9,5,9,1,9,2] [false,false,false,false,true,true] (Fin.again (ai (ah x.B 122 2) (.ref a) (envOf (fdOf x.B 122) 122 F))) ((F,⟨.type "frame",none,.dict #[En x.B ar ka (va),En x.B cv kb (.int (k) tk),En x.B aH q1 (.int ((↑i:Int)) u8),En x.B aW q2 (.str (S w) v8)] 4,#[]⟩)::(a,⟨.type "generator",none,.fields #[.int ((↑g:Int)) 0,nm,qn],#[]⟩)::be++rest) 3 4 (by rfl') (aC (dc (l:=(w)) (l':=[40]) (by first|rfl|(simp[*];done)|(simp;omega))) (aC (dc (l:=(w)) (l':=[41]) (by first|rfl|(simp[*];done)|(simp;omega))) aN)) fun h2 N2 t2 Rp=>?_
 exact⟨rfl,K _ _ _ _ _ _ _ _ _ _ _ G' eo Rp⟩
theorem qB(x:W2)(A:Around)(hh:A.handled=none)(hA:A.depth<800)(R:Result→Shared→Prop)(F a:Addr)(fo:Obj)(g:Nat)(nm qn:Value)(gs:GenState)(cs:ae)(G:cE x [] gs cs)
 (N t:Nat) (h:Heap) (gl:Array GenState) (hg:c7 gl g gs) (d os) (rest:ae)
 (Rp:Rep x.B N h ((F,fo)::(a,cN g nm qn)::(cs++rest)) 0)
 (K:∀h' N' t' aY,AllBare aY→Rep x.B N' h' ((F,fo)::rest) 0→R (.ok .next) ⟨h',aY,d,t',os⟩):codeAny (MB x.B) A (dI x F a) R ⟨h,gl,d,t,os⟩:=by
 refine af ?_
 refine seg_call hh Rp 13 [6] [true,true] (.call (.builtin "generator.__next__") ⟨[.ref a],[]⟩) ((F,fo)::(a,⟨.type "generator",none,.fields #[.int ((↑g:Int)) 0,nm,qn],#[]⟩)::cs++rest) 0 0 (by rfl') fun h1 N1 t1 Rp=>?_
 refine cF x [_] (A.under _) hh (by show A.depth+0<900;exact fB hA) _ a g nm qn _ _ _ _ _ _ _ Rp hg G fun h8 N8 t8 aY a8 e8 q7 Rp=>?_
 dsimp only[List.cons_append,List.nil_append] at Rp
 refine aE hh Rp 12 [5] [false,true] (Fin.again (.block [] (envOf (fdOf x.B 122) 122 F))) ((F,fo)::rest) 0 0 (by rfl') fun h2 N2 t2 Rp=>?_
 refine⟨rfl,?_⟩
 refine bN hh Rp [] 11 [] [true] (.ok .next) ((F,fo)::rest) 0 0 (by rfl') aN fun h3 N3 t3 Rp=>?_
 exact K _ _ _ _ q7 Rp
theorem su(x:W2)(A:Around)(hh:A.handled=none)(hA:A.depth<800)(R:Result→Shared→Prop)(F a:Addr)(g:Nat)(nm qn va:Value)(ka kb:Nat)(d os)(rest:ae):∀(av:List (Nat×List Nat)) (k:Int) (tk q1 q2:Nat) (v1 v2:Value) (gs:GenState) (cs:ae) (_:cE x av gs cs)
 (N t:Nat) (h:Heap) (gl:Array GenState) (_:c7 gl g gs)
 (_:Rep x.B N h ((F,d4 x ka kb tk va k [En x.B aH q1 v1,En x.B aW q2 v2] 4)::(a,cN g nm qn)::(cs++rest)) 0)
 (_:kE k av=none→∀h' N' t' aY,AllBare aY→Rep x.B N' h' rest 0→R (.ok (.ret (.bool false))) ⟨h',aY,d,t',os⟩)
 (_:∀k',kE k av=some k'→∀h' N' t' aY tk q1 q2 v1 v2,AllBare aY→Rep x.B N' h' ((F,d4 x ka kb tk va k' [En x.B aH q1 v1,En x.B aW q2 v2] 4)::rest) 0→R (.ok .next) ⟨h',aY,d,t',os⟩),codeAny (MB x.B) A (dI x F a) R ⟨h,gl,d,t,os⟩:=by
 intro av
 induction av with
 |nil=>
  intro k tk q1 q2 v1 v2 gs cs G N t h gl hg Rp Kf Kn
  exact qB x A hh hA R F a _ g nm qn gs cs G N t h gl hg d os rest Rp fun h' N' t' aY hb Rp=>Kn k rfl _ _ _ _ _ _ _ _ _ hb Rp
 |cons o av ih=>
  obtain⟨i,w⟩:=o
  intro k tk q1 q2 v1 v2 gs cs G N t h gl hg Rp Kf Kn
  unfold kE at Kf Kn
  by_cases h1:w=[40]
  ·rw[if_pos h1] at Kf Kn
   exact Cy x A hh hA R F a g nm qn va k ka kb tk q1 q2 v1 v2 i w av gs cs G h1 N t h gl hg d os rest Rp fun h' N' t' aY cQ be q1 q2 v1 v2 tk G' eo Rp=>ih _ _ _ _ _ _ _ _ G' _ _ _ _ eo Rp Kf Kn
  rw[if_neg h1] at Kf Kn
  by_cases h2:w=[41]
  ·rw[if_pos h2] at Kf Kn
   by_cases hk:k-1<0
   ·rw[if_pos hk] at Kf Kn
    exact CA x A hh hA R F a g nm qn va k ka kb tk q1 q2 v1 v2 i w av gs cs G h2 (by omega) N t h gl hg d os rest Rp (Kf rfl)
   ·rw[if_neg hk] at Kf Kn
    exact CB x A hh hA R F a g nm qn va k ka kb tk q1 q2 v1 v2 i w av gs cs G h2 (by omega) N t h gl hg d os rest Rp fun h' N' t' aY cQ be q1 q2 v1 v2 tk G' eo Rp=>ih _ _ _ _ _ _ _ _ G' _ _ _ _ eo Rp Kf Kn
  ·rw[if_neg h2] at Kf Kn
   exact Cz x A hh hA R F a g nm qn va k ka kb tk q1 q2 v1 v2 i w av gs cs G h1 h2 N t h gl hg d os rest Rp fun h' N' t' aY cQ be q1 q2 v1 v2 tk G' eo Rp=>ih _ _ _ _ _ _ _ _ G' _ _ _ _ eo Rp Kf Kn
noncomputable abbrev dq(x:W2)(F a:Addr):Code:=ai (ah x.B 115 4) (.ref a) (envOf (fdOf x.B 115) 115 F)
noncomputable def d7(x:W2)(l:List Nat)(ka kb kc kd ta ts:Nat)(rs:Addr)(s:Nat)(op:Value)(more:List DictEntry)(n:Nat):Obj:=⟨.type "frame",none,.dict (#[En x.B ar ka (.str (S l) ta),En x.B bA kb (.int (s:Int) ts),En x.B aL kc op,En x.B ba kd (.ref rs)]++more.toArray) n,#[]⟩
noncomputable abbrev dQ(ws:List (List Nat×Nat))(n:Nat):Obj:=an ((ws.map fun p=>Value.str (S p.1) p.2).toArray) n
theorem wG(x:W2)(A:Around)(hh:A.handled=none)(hA:A.depth<800)(R:Result→Shared→Prop)(F a rs:Addr)(g:Nat)(nm qn:Value)(l:List Nat)(hl:l.length≤2^20)(s o n uo ka kb kc kd ta ts:Nat)(ws:List (List Nat×Nat))(lR:ws.length≤2^20)(i:Nat)(w:List Nat)(av:List (Nat×List Nat))(gs:GenState)(cs:ae)(G:cE x ((i,w)::av) gs cs)
 (hw:w≠[34])
 (N t:Nat) (h:Heap) (gl:Array GenState) (hg:c7 gl g gs) (d os) (rest:ae)
 (Rp:Rep x.B N h ((F,d7 x l ka kb kc kd ta ts rs s .none [] 4)::(rs,dQ ws n)::(a,cN g nm qn)::(cs++rest)) 0)
 (K:∀h' N' t' aY cQ be q1 q2 v1 v2 ts (u fS n:Nat),cE x av cQ be→c7 aY g cQ→Rep x.B N' h' ((F,d7 x l ka kb kc kd ta ts rs s .none [En x.B aH q1 v1,En x.B aW q2 v2] 6)::(rs,dQ ws n)::(a,cN g nm qn)::(be++rest)) 0→codeAny (MB x.B) A (dq x F a) R ⟨h',aY,d,t',os⟩):codeAny (MB x.B) A (dq x F a) R ⟨h,gl,d,t,os⟩:=by
 dsimp only[d7] at Rp
 refine af ?_
 refine seg_call hh Rp 13 [7] [true,true,true] (.call (.builtin "generator.__next__") ⟨[.ref a],[]⟩) ((F,⟨.type "frame",none,.dict #[En x.B ar ka (.str (S l) ta),En x.B bA kb (.int ((↑s:Int)) ts),En x.B aL kc .none,En x.B ba kd (.ref rs)] 4,#[]⟩)::(rs,⟨.type "list",none,(.seq ((List.map (fun p=>Value.str (S p.fst) p.snd) ws).toArray) n),#[]⟩)::(a,⟨.type "generator",none,.fields #[.int ((↑g:Int)) 0,nm,qn],#[]⟩)::(cs++rest)) 0 0 (by rfl') fun h1 N1 t1 Rp=>?_
 refine cF x [_,_] (A.under _) hh (by show A.depth+0<900;exact fB hA) _ a g nm qn _ _ _ _ _ _ _ Rp hg G fun h8 N8 t8 aY a8 u8 v8 cQ be G' eo Rp=>?_
 dsimp only[List.cons_append,List.nil_append,dp] at Rp
 refine bI hh Rp [⟨.call (.builtin "str.__eq__") ⟨[.str (S w) v8,.str (S [34]) (t8+2)],[]⟩,fun _=>.bool false,0⟩] 79 [8,5,5,5,0,5,5,5,0,5,5,5,6,5,1,5,0,5,5,5,6,5,1,5,0,5,5,5,6,5,1,5,9,5,9,5,9,1] [false,false,false,false,true,true,true] (Fin.again (ai (ah x.B 115 4) (.ref a) (envOf (fdOf x.B 115) 115 F))) ((F,⟨.type "frame",none,.dict #[En x.B ar ka (.str (S l) ta),En x.B bA kb (.int ((↑s:Int)) ts),En x.B aL kc .none,En x.B ba kd (.ref rs),En x.B aH (t8+0) (.int ((↑i:Int)) u8),En x.B aW (t8+1) (.str (S w) v8)] 6,#[]⟩)::(rs,⟨.type "list",none,(.seq ((List.map (fun p=>Value.str (S p.fst) p.snd) ws).toArray) n),#[]⟩)::(a,⟨.type "generator",none,.fields #[.int ((↑g:Int)) 0,nm,qn],#[]⟩)::(be++rest)) 3 3 (by rfl') (aC (dc (l:=(w)) (l':=[34]) (by first|rfl|(simp[*];done)|(simp;omega))) aN) fun h2 N2 t2 Rp=>?_
 exact⟨rfl,K _ _ _ _ _ _ _ _ _ _ _ 0 0 _ G' eo Rp⟩
theorem th(x:W2)(A:Around)(hh:A.handled=none)(hA:A.depth<800)(R:Result→Shared→Prop)(F a rs:Addr)(g:Nat)(nm qn:Value)(l:List Nat)(hl:l.length≤2^20)(s o n uo ka kb kc kd ta ts:Nat)(ws:List (List Nat×Nat))(lR:ws.length≤2^20)(i:Nat)(w:List Nat)(av:List (Nat×List Nat))(gs:GenState)(cs:ae)(G:cE x ((i,w)::av) gs cs)
 (hw:w=[34])
 (N t:Nat) (h:Heap) (gl:Array GenState) (hg:c7 gl g gs) (d os) (rest:ae)
 (Rp:Rep x.B N h ((F,d7 x l ka kb kc kd ta ts rs s .none [] 4)::(rs,dQ ws n)::(a,cN g nm qn)::(cs++rest)) 0)
 (K:∀h' N' t' aY cQ be q1 q2 v1 v2 ts (u fS n:Nat),cE x av cQ be→c7 aY g cQ→Rep x.B N' h' ((F,d7 x l ka kb kc kd ta ts rs s (.int (i:Int) u) [En x.B aH q1 v1,En x.B aW q2 v2] 6)::(rs,dQ ws n)::(a,cN g nm qn)::(be++rest)) 0→codeAny (MB x.B) A (dq x F a) R ⟨h',aY,d,t',os⟩):codeAny (MB x.B) A (dq x F a) R ⟨h,gl,d,t,os⟩:=by
 dsimp only[d7] at Rp
 refine af ?_
 refine seg_call hh Rp 13 [7] [true,true,true] (.call (.builtin "generator.__next__") ⟨[.ref a],[]⟩) ((F,⟨.type "frame",none,.dict #[En x.B ar ka (.str (S l) ta),En x.B bA kb (.int ((↑s:Int)) ts),En x.B aL kc .none,En x.B ba kd (.ref rs)] 4,#[]⟩)::(rs,⟨.type "list",none,(.seq ((List.map (fun p=>Value.str (S p.fst) p.snd) ws).toArray) n),#[]⟩)::(a,⟨.type "generator",none,.fields #[.int ((↑g:Int)) 0,nm,qn],#[]⟩)::(cs++rest)) 0 0 (by rfl') fun h1 N1 t1 Rp=>?_
 refine cF x [_,_] (A.under _) hh (by show A.depth+0<900;exact fB hA) _ a g nm qn _ _ _ _ _ _ _ Rp hg G fun h8 N8 t8 aY a8 u8 v8 cQ be G' eo Rp=>?_
 dsimp only[List.cons_append,List.nil_append,dp] at Rp
 refine bI hh Rp [⟨.call (.builtin "str.__eq__") ⟨[.str (S w) v8,.str (S [34]) (t8+2)],[]⟩,fun _=>.bool true,0⟩] 93 [8,5,5,5,0,5,5,5,0,5,5,5,6,5,1,5,0,5,5,5,6,5,1,5,0,5,5,5,6,5,1,5,9,5,9,5,9,1,9,9,9,5] [false,false,false,false,true,true,true] (Fin.again (ai (ah x.B 115 4) (.ref a) (envOf (fdOf x.B 115) 115 F))) ((F,⟨.type "frame",none,.dict #[En x.B ar ka (.str (S l) ta),En x.B bA kb (.int ((↑s:Int)) ts),En x.B aL kc (.int ((↑i:Int)) u8),En x.B ba kd (.ref rs),En x.B aH (t8+0) (.int ((↑i:Int)) u8),En x.B aW (t8+1) (.str (S w) v8)] 6,#[]⟩)::(rs,⟨.type "list",none,(.seq ((List.map (fun p=>Value.str (S p.fst) p.snd) ws).toArray) n),#[]⟩)::(a,⟨.type "generator",none,.fields #[.int ((↑g:Int)) 0,nm,qn],#[]⟩)::(be++rest)) 3 4 (by rfl') (aC (dc (l:=(w)) (l':=[34]) (by first|rfl|(simp[*];done)|(simp;omega))) aN) fun h2 N2 t2 Rp=>?_
 exact⟨rfl,K _ _ _ _ _ _ _ _ _ _ _ _ 0 _ G' eo Rp⟩
theorem AF(x:W2)(A:Around)(hh:A.handled=none)(hA:A.depth<800)(R:Result→Shared→Prop)(F a rs:Addr)(g:Nat)(nm qn:Value)(l:List Nat)(hl:l.length≤2^20)(s o n uo ka kb kc kd ta ts:Nat)(ws:List (List Nat×Nat))(lR:ws.length≤2^20)(q1 q2:Nat)(v1 v2:Value)(i:Nat)(w:List Nat)(av:List (Nat×List Nat))(gs:GenState)(cs:ae)(G:cE x ((i,w)::av) gs cs)
 (hw:w≠[34])
 (N t:Nat) (h:Heap) (gl:Array GenState) (hg:c7 gl g gs) (d os) (rest:ae)
 (Rp:Rep x.B N h ((F,d7 x l ka kb kc kd ta ts rs s .none [En x.B aH q1 v1,En x.B aW q2 v2] 6)::(rs,dQ ws n)::(a,cN g nm qn)::(cs++rest)) 0)
 (K:∀h' N' t' aY cQ be q1 q2 v1 v2 ts (u fS n:Nat),cE x av cQ be→c7 aY g cQ→Rep x.B N' h' ((F,d7 x l ka kb kc kd ta ts rs s .none [En x.B aH q1 v1,En x.B aW q2 v2] 6)::(rs,dQ ws n)::(a,cN g nm qn)::(be++rest)) 0→codeAny (MB x.B) A (dq x F a) R ⟨h',aY,d,t',os⟩):codeAny (MB x.B) A (dq x F a) R ⟨h,gl,d,t,os⟩:=by
 dsimp only[d7] at Rp
 refine af ?_
 refine seg_call hh Rp 13 [7] [true,true,true] (.call (.builtin "generator.__next__") ⟨[.ref a],[]⟩) ((F,⟨.type "frame",none,.dict #[En x.B ar ka (.str (S l) ta),En x.B bA kb (.int ((↑s:Int)) ts),En x.B aL kc .none,En x.B ba kd (.ref rs),En x.B aH q1 (v1),En x.B aW q2 (v2)] 6,#[]⟩)::(rs,⟨.type "list",none,(.seq ((List.map (fun p=>Value.str (S p.fst) p.snd) ws).toArray) n),#[]⟩)::(a,⟨.type "generator",none,.fields #[.int ((↑g:Int)) 0,nm,qn],#[]⟩)::(cs++rest)) 0 0 (by rfl') fun h1 N1 t1 Rp=>?_
 refine cF x [_,_] (A.under _) hh (by show A.depth+0<900;exact fB hA) _ a g nm qn _ _ _ _ _ _ _ Rp hg G fun h8 N8 t8 aY a8 u8 v8 cQ be G' eo Rp=>?_
 dsimp only[List.cons_append,List.nil_append,dp] at Rp
 refine bI hh Rp [⟨.call (.builtin "str.__eq__") ⟨[.str (S w) v8,.str (S [34]) (t8+2)],[]⟩,fun _=>.bool false,0⟩] 79 [8,5,5,5,0,5,5,5,0,5,5,5,6,5,1,5,0,5,5,5,6,5,1,5,0,5,5,5,6,5,1,5,9,5,9,5,9,1] [false,false,false,false,true,true,true] (Fin.again (ai (ah x.B 115 4) (.ref a) (envOf (fdOf x.B 115) 115 F))) ((F,⟨.type "frame",none,.dict #[En x.B ar ka (.str (S l) ta),En x.B bA kb (.int ((↑s:Int)) ts),En x.B aL kc .none,En x.B ba kd (.ref rs),En x.B aH q1 (.int ((↑i:Int)) u8),En x.B aW q2 (.str (S w) v8)] 6,#[]⟩)::(rs,⟨.type "list",none,(.seq ((List.map (fun p=>Value.str (S p.fst) p.snd) ws).toArray) n),#[]⟩)::(a,⟨.type "generator",none,.fields #[.int ((↑g:Int)) 0,nm,qn],#[]⟩)::(be++rest)) 3 3 (by rfl') (aC (dc (l:=(w)) (l':=[34]) (by first|rfl|(simp[*];done)|(simp;omega))) aN) fun h2 N2 t2 Rp=>?_
 exact⟨rfl,K _ _ _ _ _ _ _ _ _ _ _ 0 0 _ G' eo Rp⟩
theorem wF(x:W2)(A:Around)(hh:A.handled=none)(hA:A.depth<800)(R:Result→Shared→Prop)(F a rs:Addr)(g:Nat)(nm qn:Value)(l:List Nat)(hl:l.length≤2^20)(s o n uo ka kb kc kd ta ts:Nat)(ws:List (List Nat×Nat))(lR:ws.length≤2^20)(q1 q2:Nat)(v1 v2:Value)(i:Nat)(w:List Nat)(av:List (Nat×List Nat))(gs:GenState)(cs:ae)(G:cE x ((i,w)::av) gs cs)
 (hw:w≠[34])
 (N t:Nat) (h:Heap) (gl:Array GenState) (hg:c7 gl g gs) (d os) (rest:ae)
 (Rp:Rep x.B N h ((F,d7 x l ka kb kc kd ta ts rs s (.int (o:Int) uo) [En x.B aH q1 v1,En x.B aW q2 v2] 6)::(rs,dQ ws n)::(a,cN g nm qn)::(cs++rest)) 0)
 (K:∀h' N' t' aY cQ be q1 q2 v1 v2 ts (u fS n:Nat),cE x av cQ be→c7 aY g cQ→Rep x.B N' h' ((F,d7 x l ka kb kc kd ta ts rs s (.int (o:Int) uo) [En x.B aH q1 v1,En x.B aW q2 v2] 6)::(rs,dQ ws n)::(a,cN g nm qn)::(be++rest)) 0→codeAny (MB x.B) A (dq x F a) R ⟨h',aY,d,t',os⟩):codeAny (MB x.B) A (dq x F a) R ⟨h,gl,d,t,os⟩:=by
 dsimp only[d7] at Rp
 refine af ?_
 refine seg_call hh Rp 13 [7] [true,true,true] (.call (.builtin "generator.__next__") ⟨[.ref a],[]⟩) ((F,⟨.type "frame",none,.dict #[En x.B ar ka (.str (S l) ta),En x.B bA kb (.int ((↑s:Int)) ts),En x.B aL kc (.int ((↑o:Int)) uo),En x.B ba kd (.ref rs),En x.B aH q1 (v1),En x.B aW q2 (v2)] 6,#[]⟩)::(rs,⟨.type "list",none,(.seq ((List.map (fun p=>Value.str (S p.fst) p.snd) ws).toArray) n),#[]⟩)::(a,⟨.type "generator",none,.fields #[.int ((↑g:Int)) 0,nm,qn],#[]⟩)::(cs++rest)) 0 0 (by rfl') fun h1 N1 t1 Rp=>?_
 refine cF x [_,_] (A.under _) hh (by show A.depth+0<900;exact fB hA) _ a g nm qn _ _ _ _ _ _ _ Rp hg G fun h8 N8 t8 aY a8 u8 v8 cQ be G' eo Rp=>?_
 dsimp only[List.cons_append,List.nil_append,dp] at Rp
 refine bI hh Rp [⟨.call (.builtin "str.__eq__") ⟨[.str (S w) v8,.str (S [34]) (t8+2)],[]⟩,fun _=>.bool false,0⟩] 79 [8,5,5,5,0,5,5,5,0,5,5,5,6,5,1,5,0,5,5,5,6,5,1,5,0,5,5,5,6,5,1,5,9,5,9,5,9,1] [false,false,false,false,true,true,true] (Fin.again (ai (ah x.B 115 4) (.ref a) (envOf (fdOf x.B 115) 115 F))) ((F,⟨.type "frame",none,.dict #[En x.B ar ka (.str (S l) ta),En x.B bA kb (.int ((↑s:Int)) ts),En x.B aL kc (.int ((↑o:Int)) uo),En x.B ba kd (.ref rs),En x.B aH q1 (.int ((↑i:Int)) u8),En x.B aW q2 (.str (S w) v8)] 6,#[]⟩)::(rs,⟨.type "list",none,(.seq ((List.map (fun p=>Value.str (S p.fst) p.snd) ws).toArray) n),#[]⟩)::(a,⟨.type "generator",none,.fields #[.int ((↑g:Int)) 0,nm,qn],#[]⟩)::(be++rest)) 3 3 (by rfl') (aC (dc (l:=(w)) (l':=[34]) (by first|rfl|(simp[*];done)|(simp;omega))) aN) fun h2 N2 t2 Rp=>?_
 exact⟨rfl,K _ _ _ _ _ _ _ _ _ _ _ 0 0 _ G' eo Rp⟩
theorem wE(x:W2)(A:Around)(hh:A.handled=none)(hA:A.depth<800)(R:Result→Shared→Prop)(F a rs:Addr)(g:Nat)(nm qn:Value)(l:List Nat)(hl:l.length≤2^20)(s o n uo ka kb kc kd ta ts:Nat)(ws:List (List Nat×Nat))(lR:ws.length≤2^20)(q1 q2:Nat)(v1 v2:Value)(i:Nat)(w:List Nat)(av:List (Nat×List Nat))(gs:GenState)(cs:ae)(G:cE x ((i,w)::av) gs cs)
 (hw:w=[34])
 (N t:Nat) (h:Heap) (gl:Array GenState) (hg:c7 gl g gs) (d os) (rest:ae)
 (Rp:Rep x.B N h ((F,d7 x l ka kb kc kd ta ts rs s .none [En x.B aH q1 v1,En x.B aW q2 v2] 6)::(rs,dQ ws n)::(a,cN g nm qn)::(cs++rest)) 0)
 (K:∀h' N' t' aY cQ be q1 q2 v1 v2 ts (u fS n:Nat),cE x av cQ be→c7 aY g cQ→Rep x.B N' h' ((F,d7 x l ka kb kc kd ta ts rs s (.int (i:Int) u) [En x.B aH q1 v1,En x.B aW q2 v2] 6)::(rs,dQ ws n)::(a,cN g nm qn)::(be++rest)) 0→codeAny (MB x.B) A (dq x F a) R ⟨h',aY,d,t',os⟩):codeAny (MB x.B) A (dq x F a) R ⟨h,gl,d,t,os⟩:=by
 dsimp only[d7] at Rp
 refine af ?_
 refine seg_call hh Rp 13 [7] [true,true,true] (.call (.builtin "generator.__next__") ⟨[.ref a],[]⟩) ((F,⟨.type "frame",none,.dict #[En x.B ar ka (.str (S l) ta),En x.B bA kb (.int ((↑s:Int)) ts),En x.B aL kc .none,En x.B ba kd (.ref rs),En x.B aH q1 (v1),En x.B aW q2 (v2)] 6,#[]⟩)::(rs,⟨.type "list",none,(.seq ((List.map (fun p=>Value.str (S p.fst) p.snd) ws).toArray) n),#[]⟩)::(a,⟨.type "generator",none,.fields #[.int ((↑g:Int)) 0,nm,qn],#[]⟩)::(cs++rest)) 0 0 (by rfl') fun h1 N1 t1 Rp=>?_
 refine cF x [_,_] (A.under _) hh (by show A.depth+0<900;exact fB hA) _ a g nm qn _ _ _ _ _ _ _ Rp hg G fun h8 N8 t8 aY a8 u8 v8 cQ be G' eo Rp=>?_
 dsimp only[List.cons_append,List.nil_append,dp] at Rp
 refine bI hh Rp [⟨.call (.builtin "str.__eq__") ⟨[.str (S w) v8,.str (S [34]) (t8+2)],[]⟩,fun _=>.bool true,0⟩] 93 [8,5,5,5,0,5,5,5,0,5,5,5,6,5,1,5,0,5,5,5,6,5,1,5,0,5,5,5,6,5,1,5,9,5,9,5,9,1,9,9,9,5] [false,false,false,false,true,true,true] (Fin.again (ai (ah x.B 115 4) (.ref a) (envOf (fdOf x.B 115) 115 F))) ((F,⟨.type "frame",none,.dict #[En x.B ar ka (.str (S l) ta),En x.B bA kb (.int ((↑s:Int)) ts),En x.B aL kc (.int ((↑i:Int)) u8),En x.B ba kd (.ref rs),En x.B aH q1 (.int ((↑i:Int)) u8),En x.B aW q2 (.str (S w) v8)] 6,#[]⟩)::(rs,⟨.type "list",none,(.seq ((List.map (fun p=>Value.str (S p.fst) p.snd) ws).toArray) n),#[]⟩)::(a,⟨.type "generator",none,.fields #[.int ((↑g:Int)) 0,nm,qn],#[]⟩)::(be++rest)) 3 4 (by rfl') (aC (dc (l:=(w)) (l':=[34]) (by first|rfl|(simp[*];done)|(simp;omega))) aN) fun h2 N2 t2 Rp=>?_
 exact⟨rfl,K _ _ _ _ _ _ _ _ _ _ _ _ 0 _ G' eo Rp⟩
theorem wD(x:W2)(A:Around)(hh:A.handled=none)(hA:A.depth<800)(R:Result→Shared→Prop)(F a rs:Addr)(g:Nat)(nm qn:Value)(l:List Nat)(hl:l.length≤2^20)(s o n uo ka kb kc kd ta ts:Nat)(ws:List (List Nat×Nat))(lR:ws.length≤2^20)(q1 q2:Nat)(v1 v2:Value)(i:Nat)(w:List Nat)(av:List (Nat×List Nat))(gs:GenState)(cs:ae)(G:cE x ((i,w)::av) gs cs)
 (hw:w=[34]) (hs:s=o)
 (N t:Nat) (h:Heap) (gl:Array GenState) (hg:c7 gl g gs) (d os) (rest:ae)
 (Rp:Rep x.B N h ((F,d7 x l ka kb kc kd ta ts rs s (.int (o:Int) uo) [En x.B aH q1 v1,En x.B aW q2 v2] 6)::(rs,dQ ws n)::(a,cN g nm qn)::(cs++rest)) 0)
 (K:∀h' N' t' aY cQ be q1 q2 v1 v2 ts (u fS n:Nat),cE x av cQ be→c7 aY g cQ→Rep x.B N' h' ((F,d7 x l ka kb kc kd ta ts rs (i+1) .none [En x.B aH q1 v1,En x.B aW q2 v2] 6)::(rs,dQ ws n)::(a,cN g nm qn)::(be++rest)) 0→codeAny (MB x.B) A (dq x F a) R ⟨h',aY,d,t',os⟩):codeAny (MB x.B) A (dq x F a) R ⟨h,gl,d,t,os⟩:=by
 dsimp only[d7] at Rp
 refine af ?_
 refine seg_call hh Rp 13 [7] [true,true,true] (.call (.builtin "generator.__next__") ⟨[.ref a],[]⟩) ((F,⟨.type "frame",none,.dict #[En x.B ar ka (.str (S l) ta),En x.B bA kb (.int ((↑s:Int)) ts),En x.B aL kc (.int ((↑o:Int)) uo),En x.B ba kd (.ref rs),En x.B aH q1 (v1),En x.B aW q2 (v2)] 6,#[]⟩)::(rs,⟨.type "list",none,(.seq ((List.map (fun p=>Value.str (S p.fst) p.snd) ws).toArray) n),#[]⟩)::(a,⟨.type "generator",none,.fields #[.int ((↑g:Int)) 0,nm,qn],#[]⟩)::(cs++rest)) 0 0 (by rfl') fun h1 N1 t1 Rp=>?_
 refine cF x [_,_] (A.under _) hh (by show A.depth+0<900;exact fB hA) _ a g nm qn _ _ _ _ _ _ _ Rp hg G fun h8 N8 t8 aY a8 u8 v8 cQ be G' eo Rp=>?_
 dsimp only[List.cons_append,List.nil_append,dp] at Rp
 refine bI hh Rp [⟨.call (.builtin "str.__eq__") ⟨[.str (S w) v8,.str (S [34]) (t8+2)],[]⟩,fun _=>.bool true,0⟩,⟨.call (.builtin "int.__ne__") ⟨[.int ((↑s:Int)) ts,.int ((↑o:Int)) uo],[]⟩,fun _=>.bool false,0⟩] 115 [8,5,5,5,0,5,5,5,0,5,5,5,6,5,1,5,0,5,5,5,6,5,1,5,0,5,5,5,6,5,1,5,9,5,9,5,9,1,9,9,9,2,9,0,9,5,9,5] [false,false,false,false,true,true,true] (Fin.again (ai (ah x.B 115 4) (.ref a) (envOf (fdOf x.B 115) 115 F))) ((F,⟨.type "frame",none,.dict #[En x.B ar ka (.str (S l) ta),En x.B bA kb (.int ((↑i:Int)+1) (t8+4)),En x.B aL kc .none,En x.B ba kd (.ref rs),En x.B aH q1 (.int ((↑i:Int)) u8),En x.B aW q2 (.str (S w) v8)] 6,#[]⟩)::(rs,⟨.type "list",none,(.seq ((List.map (fun p=>Value.str (S p.fst) p.snd) ws).toArray) n),#[]⟩)::(a,⟨.type "generator",none,.fields #[.int ((↑g:Int)) 0,nm,qn],#[]⟩)::(be++rest)) 3 7 (by rfl') (aC (dc (l:=(w)) (l':=[34]) (by first|rfl|(simp[*];done)|(simp;omega))) (aC (pU (decide_eq_false (by omega))) aN)) fun h2 N2 t2 Rp=>?_
 exact⟨rfl,K _ _ _ _ _ _ _ _ _ _ _ 0 0 _ G' eo Rp⟩
theorem wC(x:W2)(A:Around)(hh:A.handled=none)(hA:A.depth<800)(R:Result→Shared→Prop)(F a rs:Addr)(g:Nat)(nm qn:Value)(l:List Nat)(hl:l.length≤2^20)(s o n uo ka kb kc kd ta ts:Nat)(ws:List (List Nat×Nat))(lR:ws.length≤2^20)(q1 q2:Nat)(v1 v2:Value)(i:Nat)(w:List Nat)(av:List (Nat×List Nat))(gs:GenState)(cs:ae)(G:cE x ((i,w)::av) gs cs)
 (hw:w=[34]) (hs:s≠o)
 (N t:Nat) (h:Heap) (gl:Array GenState) (hg:c7 gl g gs) (d os) (rest:ae)
 (Rp:Rep x.B N h ((F,d7 x l ka kb kc kd ta ts rs s (.int (o:Int) uo) [En x.B aH q1 v1,En x.B aW q2 v2] 6)::(rs,dQ ws n)::(a,cN g nm qn)::(cs++rest)) 0)
 (K:∀h' N' t' aY cQ be q1 q2 v1 v2 ts (u fS n:Nat),cE x av cQ be→c7 aY g cQ→Rep x.B N' h' ((F,d7 x l ka kb kc kd ta ts rs (i+1) .none [En x.B aH q1 v1,En x.B aW q2 v2] 6)::(rs,dQ (ws++[(eR l (some (s:Int)) (some (o:Int)),fS)]) n)::(a,cN g nm qn)::(be++rest)) 0→codeAny (MB x.B) A (dq x F a) R ⟨h',aY,d,t',os⟩):codeAny (MB x.B) A (dq x F a) R ⟨h,gl,d,t,os⟩:=by
 dsimp only[d7] at Rp
 refine af ?_
 refine seg_call hh Rp 13 [7] [true,true,true] (.call (.builtin "generator.__next__") ⟨[.ref a],[]⟩) ((F,⟨.type "frame",none,.dict #[En x.B ar ka (.str (S l) ta),En x.B bA kb (.int ((↑s:Int)) ts),En x.B aL kc (.int ((↑o:Int)) uo),En x.B ba kd (.ref rs),En x.B aH q1 (v1),En x.B aW q2 (v2)] 6,#[]⟩)::(rs,⟨.type "list",none,(.seq ((List.map (fun p=>Value.str (S p.fst) p.snd) ws).toArray) n),#[]⟩)::(a,⟨.type "generator",none,.fields #[.int ((↑g:Int)) 0,nm,qn],#[]⟩)::(cs++rest)) 0 0 (by rfl') fun h1 N1 t1 Rp=>?_
 refine cF x [_,_] (A.under _) hh (by show A.depth+0<900;exact fB hA) _ a g nm qn _ _ _ _ _ _ _ Rp hg G fun h8 N8 t8 aY a8 u8 v8 cQ be G' eo Rp=>?_
 dsimp only[List.cons_append,List.nil_append,dp] at Rp
 refine gj hh Rp [⟨.call (.builtin "str.__eq__") ⟨[.str (S w) v8,.str (S [34]) (t8+2)],[]⟩,fun _=>.bool true,0⟩,⟨.call (.builtin "int.__ne__") ⟨[.int ((↑s:Int)) ts,.int ((↑o:Int)) uo],[]⟩,fun _=>.bool true,0⟩] 108 [8,5,5,5,0,5,5,5,0,5,5,5,6,5,1,5,0,5,5,5,6,5,1,5,0,5,5,5,6,5,1,5,9,5,9,5,9,1,9,9,9,2,9,10,10,10,10,9,9,9] [true,false,false,false,false,true,true,true] (.call (.builtin "str.__getitem__") ⟨[.str (S l) ta,.ref (N8+3)],[]⟩) ((N8+3,⟨.type "slice",none,.fields #[.int ((↑s:Int)) ts,.int ((↑o:Int)) uo,.none],#[]⟩)::(F,⟨.type "frame",none,.dict #[En x.B ar ka (.str (S l) ta),En x.B bA kb (.int ((↑s:Int)) ts),En x.B aL kc (.int ((↑o:Int)) uo),En x.B ba kd (.ref rs),En x.B aH q1 (.int ((↑i:Int)) u8),En x.B aW q2 (.str (S w) v8)] 6,#[]⟩)::(rs,⟨.type "list",none,(.seq ((List.map (fun p=>Value.str (S p.fst) p.snd) ws).toArray) n),#[]⟩)::(a,⟨.type "generator",none,.fields #[.int ((↑g:Int)) 0,nm,qn],#[]⟩)::(be++rest)) 4 3 (by rfl') (aC (dc (l:=(w)) (l':=[34]) (by first|rfl|(simp[*];done)|(simp;omega))) (aC (pU (decide_eq_true (by omega))) aN)) fun h2 N2 t2 Rp=>?_
 refine nB hl Rp 0 (some ((s:Int),_)) (some ((o:Int),_)) rfl fun ty fS=>?_
 refine seg_call hh Rp 12 [] [false,true,true,true] (.call (.builtin "list.append") ⟨[.ref rs,(.str (S (eR l (Option.map (fun x=>x.fst) (some ((↑s:Int),ts))) (Option.map (fun x=>x.fst) (some ((↑o:Int),uo))))) fS)],[]⟩) ((F,⟨.type "frame",none,.dict #[En x.B ar ka (.str (S l) ta),En x.B bA kb (.int ((↑s:Int)) ts),En x.B aL kc (.int ((↑o:Int)) uo),En x.B ba kd (.ref rs),En x.B aH q1 (.int ((↑i:Int)) u8),En x.B aW q2 (.str (S w) v8)] 6,#[]⟩)::(rs,⟨.type "list",none,(.seq ((List.map (fun p=>Value.str (S p.fst) p.snd) ws).toArray) n),#[]⟩)::(a,⟨.type "generator",none,.fields #[.int ((↑g:Int)) 0,nm,qn],#[]⟩)::(be++rest)) 0 0 (by rfl') fun h3 N3 t3 Rp=>?_
 refine bn (items:=(ws.map fun p=>Value.str (S p.1) p.2).toArray) Rp 1 rfl (by simp;exact DH lR) rfl fun jw Rp=>?_
 dsimp only[bm] at Rp
 refine aE hh Rp 36 [5,0,5,1,5,1] [true,true,true] (Fin.again (ai (ah x.B 115 4) (.ref a) (envOf (fdOf x.B 115) 115 F))) ((F,⟨.type "frame",none,.dict #[En x.B ar ka (.str (S l) ta),En x.B bA kb (.int ((↑i:Int)+1) (t3+1)),En x.B aL kc .none,En x.B ba kd (.ref rs),En x.B aH q1 (.int ((↑i:Int)) u8),En x.B aW q2 (.str (S w) v8)] 6,#[]⟩)::(rs,⟨.type "list",none,(.seq ((List.map (fun p=>Value.str (S p.fst) p.snd) ws).toArray.push (Value.str (S (eR l (Option.map (fun x=>x.fst) (some ((↑s:Int),ts))) (Option.map (fun x=>x.fst) (some ((↑o:Int),uo))))) fS)) (n+1)),#[]⟩)::(a,⟨.type "generator",none,.fields #[.int ((↑g:Int)) 0,nm,qn],#[]⟩)::(be++rest)) 0 4 (by rfl') fun h4 N4 t4 Rp=>?_
 have e:((ws.map fun p=>Value.str (S p.1) p.2).toArray.push (Value.str (S (eR l (some (s:Int)) (some (o:Int)))) fS))=((ws++[(eR l (some (s:Int)) (some (o:Int)),fS)]).map fun p=>Value.str (S p.1) p.2).toArray:=by simp
 exact⟨rfl,K _ _ _ _ _ _ _ _ _ _ _ 0 fS _ G' eo (e▸Rp)⟩
theorem tm(x:W2)(A:Around)(hh:A.handled=none)(hA:A.depth<800)(R:Result→Shared→Prop)(F a rs:Addr)(fo ro:Obj)(g:Nat)(nm qn:Value)(gs:GenState)(cs:ae)(G:cE x [] gs cs)
 (N t:Nat) (h:Heap) (gl:Array GenState) (hg:c7 gl g gs) (d os) (rest:ae)
 (Rp:Rep x.B N h ((F,fo)::(rs,ro)::(a,cN g nm qn)::(cs++rest)) 0)
 (K:∀h' N' t' aY,AllBare aY→Rep x.B N' h' ((F,fo)::(rs,ro)::rest) 0→R (.ok .next) ⟨h',aY,d,t',os⟩):codeAny (MB x.B) A (dq x F a) R ⟨h,gl,d,t,os⟩:=by
 refine af ?_
 refine seg_call hh Rp 13 [7] [true,true,true] (.call (.builtin "generator.__next__") ⟨[.ref a],[]⟩) ((F,fo)::(rs,ro)::(a,⟨.type "generator",none,.fields #[.int ((↑g:Int)) 0,nm,qn],#[]⟩)::(cs++rest)) 0 0 (by rfl') fun h1 N1 t1 Rp=>?_
 refine cF x [_,_] (A.under _) hh (by show A.depth+0<900;exact fB hA) _ a g nm qn _ _ _ _ _ _ _ Rp hg G fun h8 N8 t8 aY a8 e8 q7 Rp=>?_
 dsimp only[List.cons_append,List.nil_append] at Rp
 refine aE hh Rp 12 [5] [false,true,true] (Fin.again (.block [] (envOf (fdOf x.B 115) 115 F))) ((F,fo)::(rs,ro)::rest) 0 0 (by rfl') fun h2 N2 t2 Rp=>?_
 refine⟨rfl,?_⟩
 refine bN hh Rp [] 11 [] [true,true] (.ok .next) ((F,fo)::(rs,ro)::rest) 0 0 (by rfl') aN fun h3 N3 t3 Rp=>?_
 exact K _ _ _ _ q7 Rp
noncomputable def jR(l:List Nat):List (Nat×List Nat)→Nat→Option Nat→List (List Nat)→Nat×List (List Nat)
 |[],s,_,cD=>(s,cD)
 |(i,w)::r,s,none,cD=>if w=[34] then jR l r s (some i) cD else jR l r s none cD
 |(i,w)::r,s,some o,cD=>if w=[34] then jR l r (i+1) none (if s=o then cD else cD++[eR l (some (s:Int)) (some (o:Int))]) else jR l r s (some o) cD
noncomputable def GK(o:Option Nat)(u:Nat):Value:=match o with
 |none=>.none
 |some o=>.int (o:Int) u
theorem ny(x:W2)(A:Around)(hh:A.handled=none)(hA:A.depth<800)(R:Result→Shared→Prop)(F a rs:Addr)(g:Nat)(nm qn:Value)(l:List Nat)(hl:l.length≤2^20)(ka kb kc kd ta:Nat)(d os)(rest:ae):
 ∀(av:List (Nat×List Nat)) (s n uo ts:Nat) (op:Option Nat) (ws:List (List Nat×Nat)) (_:ws.length+av.length≤2^20) (q1 q2:Nat) (v1 v2:Value) (gs:GenState) (cs:ae) (_:cE x av gs cs)
 (N t:Nat) (h:Heap) (gl:Array GenState) (_:c7 gl g gs)
 (_:Rep x.B N h ((F,d7 x l ka kb kc kd ta ts rs s (GK op uo) [En x.B aH q1 v1,En x.B aW q2 v2] 6)::(rs,dQ ws n)::(a,cN g nm qn)::(cs++rest)) 0)
 (_:∀h' N' t' aY q1 q2 v1 v2 ts mr n ia,ia.map (·.1)=(jR l av s op (ws.map (·.1))).2→ia.length≤2^20→AllBare aY→Rep x.B N' h' ((F,d7 x l ka kb kc kd ta ts rs (jR l av s op (ws.map (·.1))).1 mr [En x.B aH q1 v1,En x.B aW q2 v2] 6)::(rs,dQ ia n)::rest) 0→R (.ok .next) ⟨h',aY,d,t',os⟩),
 codeAny (MB x.B) A (dq x F a) R ⟨h,gl,d,t,os⟩:=by
 intro av
 induction av with
 |nil=>
  intro s n uo ts op ws lR q1 q2 v1 v2 gs cs G N t h gl hg Rp K
  exact tm x A hh hA R F a rs _ _ g nm qn gs cs G N t h gl hg d os rest Rp fun h' N' t' aY hb Rp=>K _ _ _ _ _ _ _ _ _ _ _ ws rfl (by simpa using lR) hb Rp
 |cons o av ih=>
  obtain⟨i,w⟩:=o
  intro s n uo ts op ws lR q1 q2 v1 v2 gs cs G N t h gl hg Rp K
  have li:ws.length+av.length≤2^20:=by simp at lR;omega
  have pZ:ws.length≤2^20:=by omega
  cases op with
  |none=>
   unfold jR at K
   by_cases hq:w=[34]
   ·rw[if_pos hq] at K
    exact wE x A hh hA R F a rs g nm qn l hl s 0 n uo ka kb kc kd ta ts ws pZ q1 q2 v1 v2 i w av gs cs G hq N t h gl hg d os rest Rp fun h' N' t' aY cQ be q1 q2 v1 v2 ts u fS n G' eo Rp=>
     ih s n u ts (some i) ws li q1 q2 v1 v2 cQ be G' _ _ _ _ eo Rp K
   ·rw[if_neg hq] at K
    exact AF x A hh hA R F a rs g nm qn l hl s 0 n uo ka kb kc kd ta ts ws pZ q1 q2 v1 v2 i w av gs cs G hq N t h gl hg d os rest Rp fun h' N' t' aY cQ be q1 q2 v1 v2 ts u fS n G' eo Rp=>
     ih s n uo ts none ws li q1 q2 v1 v2 cQ be G' _ _ _ _ eo Rp K
  |some o=>
   unfold jR at K
   by_cases hq:w=[34]
   ·rw[if_pos hq] at K
    by_cases hs:s=o
    ·rw[if_pos hs] at K
     exact wD x A hh hA R F a rs g nm qn l hl s o n uo ka kb kc kd ta ts ws pZ q1 q2 v1 v2 i w av gs cs G hq hs N t h gl hg d os rest Rp fun h' N' t' aY cQ be q1 q2 v1 v2 ts u fS n G' eo Rp=>
      ih (i+1) n uo ts none ws li q1 q2 v1 v2 cQ be G' _ _ _ _ eo Rp K
    ·rw[if_neg hs] at K
     refine wC x A hh hA R F a rs g nm qn l hl s o n uo ka kb kc kd ta ts ws pZ q1 q2 v1 v2 i w av gs cs G hq hs N t h gl hg d os rest Rp fun h' N' t' aY cQ be q1 q2 v1 v2 ts u fS n G' eo Rp=>?_
     have e:(ws++[(eR l (some (s:Int)) (some (o:Int)),fS)]).map (·.1)=ws.map (·.1)++[eR l (some (s:Int)) (some (o:Int))]:=by simp
     rw[←e] at K
     exact ih (i+1) n uo ts none _ (by simp at lR⊢;omega) q1 q2 v1 v2 cQ be G' _ _ _ _ eo Rp K
   ·rw[if_neg hq] at K
    exact wF x A hh hA R F a rs g nm qn l hl s o n uo ka kb kc kd ta ts ws pZ q1 q2 v1 v2 i w av gs cs G hq N t h gl hg d os rest Rp fun h' N' t' aY cQ be q1 q2 v1 v2 ts u fS n G' eo Rp=>
     ih s n uo ts (some o) ws li q1 q2 v1 v2 cQ be G' _ _ _ _ eo Rp K
noncomputable def yk(l:List Nat):Bool:=!(Builtin.Str.occurrences (S l) (S [34]) 0 (S l).length 1).isEmpty
noncomputable def kv(l:List Nat):List (List Nat):=
 let p:=jR l (ew false 0 l) 0 none []
 p.2++(if p.1<l.length then[eR l (some (p.1:Int)) none] else[])
noncomputable def ig(l:List Nat):List Nat:=if yk l then dX (kv l) else l
noncomputable def AO(l:List Nat):Bool:=l.all (·<128)&&decide (l.length≤2^10)&&decide ((ew false 0 l).length≤2^10)&&decide ((dX (kv l)).length≤2^20)&& !(Builtin.Str.tooLong (((kv l).map S).toArray.foldl (·+·.length+(S []).length) 0))
theorem pn{B:aQ}{A:Around}{R:Result→Shared→Prop}{h:Heap}{gl:Array GenState}{d:Drawn}{t:Nat}{os:OsState}{N u:Nat}{tab:ae}{l:List Nat}{sl:Addr}(hl:l.length≤2^20)(Rp:Rep B N h tab 0)(i:Nat)(lo hi:Option (Int×Tok))(F3 oV:Option Int)(hx:nth tab i=some (sl,⟨.type "slice",none,.fields #[partValue lo,partValue hi,.none],#[]⟩))(e1:lo.map (·.1)=F3)(e2:hi.map (·.1)=oV)
 (K:∀t' fS,R (.ok (.ret (.str (S (eR l F3 oV)) fS))) ⟨h,gl,d,t',os⟩):codeAny (MB B) A (.call (.builtin "str.__getitem__") ⟨[.str (S l) u,.ref sl],[]⟩) R ⟨h,gl,d,t,os⟩:=by
 subst e1 e2
 exact nB hl Rp i lo hi hx K
theorem tQ(r:List Nat)(i:Nat):ew true i r≠[]:=by
 cases r<;>exact fun z=>nomatch z
theorem rJ(c:Nat)(r:List Nat)(i:Nat):ew false i (c::r)≠[]:=by
 unfold ew
 split
 ·exact tQ r _
 ·exact fun z=>nomatch z
theorem tD{a b c d:Addr×Obj}{r:ae}:(a::b::c::d::r).Perm (d::c::a::b::r):=
 (List.perm_middle (l₁:=[a,b,c]) (a:=d) (l₂:=r)).trans (.cons _ (List.perm_middle (l₁:=[a,b]) (a:=c) (l₂:=r)))
theorem strip(x:W2)(A:Around)(hh:A.handled=none)(hA:A.depth<700)(R:Result→Shared→Prop)(l:List Nat)(fb:AO l=true)(u:Nat)(N t:Nat)(h:Heap)(gl d os)(fX:AllBare gl)(rest:ae)(Rp:Rep x.B N h rest 0)
 (K:∀h' N' t' aY v,AllBare aY→Rep x.B N' h' rest 0→R (.ok (.ret (.str (S (ig l)) v))) ⟨h',aY,d,t',os⟩):
 codeAny (MB x.B) A (.call (.ref 115) ⟨[.str (S l) u],[]⟩) R ⟨h,gl,d,t,os⟩:=by
 obtain⟨b,hb⟩:∃b,yk l=b:=⟨_,rfl⟩
 have Cm:(!(Builtin.Str.occurrences (S l) (S [34]) 0 (S l).length 1).isEmpty)=b:=hb
 simp only[AO,Bool.and_eq_true,decide_eq_true_eq,Bool.not_eq_true'] at fb
 obtain⟨⟨⟨⟨h1,h2⟩,h3⟩,h4⟩,h5⟩:=fb
 have uC:s5 l:=fun c hc=>by simpa using(List.all_eq_true.mp h1) c hc
 unfold ig at K
 refine enter hh Rp (by first|assumption|(simp only[Around.under,Code.weight,recursionLimit] at*;omega)) 18 [0,0,5,1] [] (am (fdOf x.B 115)) (envOf (fdOf x.B 115) 115 (N+0)) ((N+0,⟨.type "frame",none,.dict #[En x.B ar (t+0) (.str (S l) u)] 1,#[]⟩)::rest) 1 1 (by rfl') fun h6 N6 t6 Rp=>?_
 cases b with
 |false=>
  rw[hb,if_neg (by simp)] at K
  refine bI hh Rp [⟨.call (.builtin "str.__contains__") ⟨[.str (S l) u,.str (S [34]) (t6+0)],[]⟩,fun _=>.bool false,0⟩] 20 [5,1,5] [false] (Flow.ret (.str (S l) u)) (rest) 0 1 (by rfl') (aC (iD (l:=(l)) (l':=[34]) (by assumption)) aN) fun h7 N7 t7 Rp=>?_
  exact K _ _ _ _ _ fX Rp
 |true=>
  rw[hb,if_pos rfl] at K
  refine bS 4 ?_
  refine bI hh Rp [⟨.call (.builtin "str.__contains__") ⟨[.str (S l) u,.str (S [34]) (t6+0)],[]⟩,fun _=>.bool true,0⟩] 44 [5,1,5,1,5,1,6,2] [true,true] Flow.next ((N6+0,⟨.type "list",none,.seq #[] 0,#[]⟩)::(N+0,⟨.type "frame",none,.dict #[En x.B ar (t+0) (.str (S l) u),En x.B bA (t6+2) (.int 0 (t6+1)),En x.B aL (t6+3) .none,En x.B ba (t6+4) (.ref (N6+0))] 4,#[]⟩)::rest) 1 5 (by rfl') (aC (iD (l:=(l)) (l':=[34]) (by assumption)) aN) fun h7 N7 t7 Rp=>?_
  refine bS 1 ?_
  refine seg_call hh Rp 18 [0,6,0] [true,true] (.call (.ref 108) ⟨[.str (S l) u],[]⟩) ((N6+0,⟨.type "list",none,.seq #[] 0,#[]⟩)::(N+0,⟨.type "frame",none,.dict #[En x.B ar (t+0) (.str (S l) u),En x.B bA (t6+2) (.int 0 (t6+1)),En x.B aL (t6+3) .none,En x.B ba (t6+4) (.ref (N6+0))] 4,#[]⟩)::rest) 0 0 (by rfl') fun h8 N8 t8 Rp=>?_
  obtain⟨o,av,ho⟩:∃o av,ew false 0 l=o::av:=by
   cases e:ew false 0 l with
   |cons o av=>exact⟨_,_,rfl⟩
   |nil=>
    cases l with
    |nil=>exact absurd hb (by decide+kernel)
    |cons c r=>exact absurd e (rJ c r 0)
  obtain⟨i,w⟩:=o
  refine pL x (A.under _) hh (by show A.depth+1<900;omega) _ l _ _ _ _ _ _ _ _ Rp fun h' N' t' a F' ka nm qn Rp=>?_
  refine seg_call hh Rp 21 [5,5,0,5,5] [true,true,true,true] (ai (ah x.B 115 4) (.ref a) (envOf (fdOf x.B 115) 115 (N+0))) ((a,⟨.type "generator",none,.fields #[.int ((↑gl.size:Int)) 0,nm,qn],#[]⟩)::(F',⟨.type "frame",none,.dict #[En x.B ar ka (.str (S l) u)] 1,#[]⟩)::(N6+0,⟨.type "list",none,.seq #[] 0,#[]⟩)::(N+0,⟨.type "frame",none,.dict #[En x.B ar (t+0) (.str (S l) u),En x.B bA (t6+2) (.int 0 (t6+1)),En x.B aL (t6+3) .none,En x.B ba (t6+4) (.ref (N6+0))] 4,#[]⟩)::rest) 0 0 (by rfl') fun h9 N9 t9 Rp=>?_
  have hG:=ke x F' l uC ka u
  rw[ho] at hG
  have hg:c7 (gl.push (.fresh (cp x F'))) gl.size (.fresh (cp x F')):=⟨Array.getElem?_push_size,fX.push rfl⟩
  have Rp:=Rp.perm tD
  have F9:av.length≤2^10:=by rw[ho] at h3;simp at h3;omega
  have fin:∀h' N' t' aY q1 q2 v1 v2 ts mr n ia,ia.map (·.1)=(jR l (ew false 0 l) 0 none []).2→ia.length≤2^20→AllBare aY→Rep x.B N' h' ((N+0,d7 x l (t+0) (t6+2) (t6+3) (t6+4) u ts (N6+0) (jR l (ew false 0 l) 0 none []).1 mr [En x.B aH q1 v1,En x.B aW q2 v2] 6)::(N6+0,dQ ia n)::rest) 0→
   wpAny (MB x.B) (A.under (.func (am (fdOf x.B 115)) (envOf (fdOf x.B 115) 115 (N+0)))) (aj ((am (fdOf x.B 115)).drop 5) (envOf (fdOf x.B 115) 115 (N+0))) (fun f s'=>R (.ok (.ret (eT f))) s') (fun _ _=>False) ⟨h',aY,d,t',os⟩:=by
   intro h' N' t' aY q1 q2 v1 v2 ts mr n ia ju li q7 Rp
   unfold kv at K h4 h5
   dsimp only at K h4 h5
   generalize jR l (ew false 0 l) 0 none []=pp at*
   obtain⟨s,cD⟩:=pp
   dsimp only at ju Rp K h4 h5
   dsimp only[d7] at Rp
   by_cases c:s<l.length
   ·rw[if_pos c] at K h4 h5
    refine bS 1 ?_
    refine gj hh Rp [⟨.call (.builtin "len") ⟨[.str (S l) u],[]⟩,fun t=>.int ((l.length:Int)) (t+1),2⟩,⟨.call (.builtin "int.__lt__") ⟨[.int ((↑s:Int)) ts,.int ((↑l.length:Int)) (t'+1)],[]⟩,fun _=>.bool true,0⟩] 40 [5,0,0,5,1,2,5,6,6,6,6,5,5] [true,true,true] (.call (.builtin "str.__getitem__") ⟨[.str (S l) u,.ref (N'+0)],[]⟩) ((N'+0,⟨.type "slice",none,.fields #[.int ((↑s:Int)) ts,.none,.none],#[]⟩)::(N+0,⟨.type "frame",none,.dict #[En x.B ar (t+0) (.str (S l) u),En x.B bA (t6+2) (.int ((↑s:Int)) ts),En x.B aL (t6+3) (mr),En x.B ba (t6+4) (.ref (N6+0)),En x.B aH q1 (v1),En x.B aW q2 (v2)] 6,#[]⟩)::(N6+0,⟨.type "list",none,(.seq ((List.map (fun p=>Value.str (S p.fst) p.snd) ia).toArray) n),#[]⟩)::rest) 1 2 (by rfl') (aC (po (by first|rfl|assumption) (by exact DG h2)) (aC (iE (decide_eq_true (by omega))) aN)) fun lX mo fh Rp=>?_
    refine pn (by exact wT h2) Rp 0 (some ((s:Int),_)) none (some (s:Int)) none rfl rfl rfl fun ty fS=>?_
    refine seg_call hh Rp 12 [] [false,true,true] (.call (.builtin "list.append") ⟨[.ref (N6+0),.str (S (eR l (some (↑s:Int)) none)) fS],[]⟩) ((N+0,⟨.type "frame",none,.dict #[En x.B ar (t+0) (.str (S l) u),En x.B bA (t6+2) (.int ((↑s:Int)) ts),En x.B aL (t6+3) (mr),En x.B ba (t6+4) (.ref (N6+0)),En x.B aH q1 (v1),En x.B aW q2 (v2)] 6,#[]⟩)::(N6+0,⟨.type "list",none,(.seq ((List.map (fun p=>Value.str (S p.fst) p.snd) ia).toArray) n),#[]⟩)::rest) 0 0 (by rfl') fun m7 lc lC Rp=>?_
    refine bn (items:=(ia.map fun p=>Value.str (S p.1) p.2).toArray) Rp 1 rfl (by simp;exact DH li) rfl fun jw Rp=>?_
    dsimp only[bm] at Rp
    refine aE hh Rp 12 [] [true,true] Flow.next ((N+0,⟨.type "frame",none,.dict #[En x.B ar (t+0) (.str (S l) u),En x.B bA (t6+2) (.int ((↑s:Int)) ts),En x.B aL (t6+3) (mr),En x.B ba (t6+4) (.ref (N6+0)),En x.B aH q1 (v1),En x.B aW q2 (v2)] 6,#[]⟩)::(N6+0,⟨.type "list",none,(.seq ((List.map (fun p=>Value.str (S p.fst) p.snd) ia).toArray.push (Value.str (S (eR l (some (↑s:Int)) none)) fS)) (n+1)),#[]⟩)::rest) 0 0 (by rfl') fun q9 re lB Rp=>?_
    have e:((ia.map fun p=>Value.str (S p.1) p.2).toArray.push (Value.str (S (eR l (some (s:Int)) none)) fS))=((ia++[(eR l (some (s:Int)) none,fS)]).map fun p=>Value.str (S p.1) p.2).toArray:=by simp
    have Rp:=e▸Rp
    show wpAny _ _ (aj ..) ..
    refine seg_call hh Rp 18 [5] [true,true] (.call (.builtin "str.join") ⟨[.str (S []) (lB+0),.ref (N6+0)],[]⟩) ((N+0,⟨.type "frame",none,.dict #[En x.B ar (t+0) (.str (S l) u),En x.B bA (t6+2) (.int ((↑s:Int)) ts),En x.B aL (t6+3) (mr),En x.B ba (t6+4) (.ref (N6+0)),En x.B aH q1 (v1),En x.B aW q2 (v2)] 6,#[]⟩)::(N6+0,⟨.type "list",none,(.seq ((List.map (fun p=>Value.str (S p.fst) p.snd) (ia++[(eR l (some (↑s:Int)) none,fS)])).toArray) (n+1)),#[]⟩)::rest) 0 1 (by rfl') fun q8 rd sE Rp=>?_
    have e2:(ia++[(eR l (some (s:Int)) none,fS)]).map (·.1)=cD++[eR l (some (s:Int)) none]:=by simp[ju]
    refine mJ Rp 1 _ (ia++[(eR l (some (s:Int)) none,fS)]) _ rfl (by rw[e2];exact h4) (by rw[←h5,←e2];simp[Function.comp_def]) fun tz tf=>?_
    rw[e2]
    refine aE hh Rp 12 [] [false,false] (Flow.ret (.str (S (dX (cD++[eR l (some (↑s:Int)) none]))) tf)) (rest) 0 0 (by rfl') fun yo zb wB Rp=>?_
    exact K _ _ _ _ _ q7 Rp
   ·rw[if_neg c,List.append_nil] at K h4 h5
    refine bS 1 ?_
    refine bI hh Rp [⟨.call (.builtin "len") ⟨[.str (S l) u],[]⟩,fun t=>.int ((l.length:Int)) (t+1),2⟩,⟨.call (.builtin "int.__lt__") ⟨[.int ((↑s:Int)) ts,.int ((↑l.length:Int)) (t'+1)],[]⟩,fun _=>.bool false,0⟩] 25 [5,0,0,5,1,2] [true,true] Flow.next ((N+0,⟨.type "frame",none,.dict #[En x.B ar (t+0) (.str (S l) u),En x.B bA (t6+2) (.int ((↑s:Int)) ts),En x.B aL (t6+3) (mr),En x.B ba (t6+4) (.ref (N6+0)),En x.B aH q1 (v1),En x.B aW q2 (v2)] 6,#[]⟩)::(N6+0,⟨.type "list",none,(.seq ((List.map (fun p=>Value.str (S p.fst) p.snd) ia).toArray) n),#[]⟩)::rest) 0 2 (by rfl') (aC (po (by first|rfl|assumption) (by exact DG h2)) (aC (iE (decide_eq_false (by omega))) aN)) fun lX mo fh Rp=>?_
    show wpAny _ _ (aj ..) ..
    refine seg_call hh Rp 18 [5] [true,true] (.call (.builtin "str.join") ⟨[.str (S []) (fh+0),.ref (N6+0)],[]⟩) ((N+0,⟨.type "frame",none,.dict #[En x.B ar (t+0) (.str (S l) u),En x.B bA (t6+2) (.int ((↑s:Int)) ts),En x.B aL (t6+3) (mr),En x.B ba (t6+4) (.ref (N6+0)),En x.B aH q1 (v1),En x.B aW q2 (v2)] 6,#[]⟩)::(N6+0,⟨.type "list",none,(.seq ((List.map (fun p=>Value.str (S p.fst) p.snd) ia).toArray) n),#[]⟩)::rest) 0 1 (by rfl') fun m7 lc lC Rp=>?_
    refine mJ Rp 1 _ ia _ rfl (by rw[ju];exact h4) (by rw[←h5,←ju];simp[Function.comp_def]) fun tz tf=>?_
    rw[ju]
    refine aE hh Rp 12 [] [false,false] (Flow.ret (.str (S (dX cD)) tf)) (rest) 0 0 (by rfl') fun q9 re lB Rp=>?_
    exact K _ _ _ _ _ q7 Rp
  by_cases hq:w=[34]
  ·refine th x (A.under _) hh (by show A.depth+1<800;exact zz hA) _ (N+0) a (N6+0) gl.size nm qn l (by exact wT h2) 0 0 0 0 (t+0) (t6+2) (t6+3) (t6+4) u (t6+1) [] (by simp) i w av _ _ hG hq _ _ _ _ hg d os rest Rp fun h' N' t' aY cQ be q1 q2 v1 v2 ts ux fS n G' eo Rp=>?_
   refine ny x (A.under _) hh (by show A.depth+1<800;exact zz hA) _ (N+0) a (N6+0) gl.size nm qn l (by exact wT h2) (t+0) (t6+2) (t6+3) (t6+4) u d os rest av 0 n ux ts (some i) [] (by simp;exact DF F9) q1 q2 v1 v2 cQ be G' _ _ _ _ eo Rp fun h' N' t' aY q1 q2 v1 v2 ts mr n ia ju li q7 Rp=>?_
   have ez:jR l (ew false 0 l) 0 none []=jR l av 0 (some i) []:=by rw[ho];show(if w=[34] then _ else _)=_;rw[if_pos hq]
   have Rp:Rep x.B N' h' ((N+0,d7 x l (t+0) (t6+2) (t6+3) (t6+4) u ts (N6+0) (jR l av 0 (some i) []).1 mr [En x.B aH q1 v1,En x.B aW q2 v2] 6)::(N6+0,dQ ia n)::rest) 0:=Rp
   refine aE hh Rp 11 [] [true,true] Flow.next ((N+0,⟨.type "frame",none,.dict #[En x.B ar (t+0) (.str (S l) u),En x.B bA (t6+2) (.int ((↑(jR l av 0 (some i) []).fst:Int)) ts),En x.B aL (t6+3) (mr),En x.B ba (t6+4) (.ref (N6+0)),En x.B aH q1 (v1),En x.B aW q2 (v2)] 6,#[]⟩)::(N6+0,⟨.type "list",none,(.seq ((List.map (fun p=>Value.str (S p.fst) p.snd) ia).toArray) n),#[]⟩)::rest) 0 0 (by rfl') fun lX mo fh Rp=>?_
   show wpAny _ _ (aj ..) ..
   exact fin _ _ _ _ _ _ _ _ _ _ _ ia (by rw[ez];exact ju) li q7 (by rw[ez];exact Rp)
  ·refine wG x (A.under _) hh (by show A.depth+1<800;exact zz hA) _ (N+0) a (N6+0) gl.size nm qn l (by exact wT h2) 0 0 0 0 (t+0) (t6+2) (t6+3) (t6+4) u (t6+1) [] (by simp) i w av _ _ hG hq _ _ _ _ hg d os rest Rp fun h' N' t' aY cQ be q1 q2 v1 v2 ts ux fS n G' eo Rp=>?_
   refine ny x (A.under _) hh (by show A.depth+1<800;exact zz hA) _ (N+0) a (N6+0) gl.size nm qn l (by exact wT h2) (t+0) (t6+2) (t6+3) (t6+4) u d os rest av 0 n ux ts none [] (by simp;exact DF F9) q1 q2 v1 v2 cQ be G' _ _ _ _ eo Rp fun h' N' t' aY q1 q2 v1 v2 ts mr n ia ju li q7 Rp=>?_
   have ez:jR l (ew false 0 l) 0 none []=jR l av 0 none []:=by rw[ho];show(if w=[34] then _ else _)=_;rw[if_neg hq]
   have Rp:Rep x.B N' h' ((N+0,d7 x l (t+0) (t6+2) (t6+3) (t6+4) u ts (N6+0) (jR l av 0 none []).1 mr [En x.B aH q1 v1,En x.B aW q2 v2] 6)::(N6+0,dQ ia n)::rest) 0:=Rp
   refine aE hh Rp 11 [] [true,true] Flow.next ((N+0,⟨.type "frame",none,.dict #[En x.B ar (t+0) (.str (S l) u),En x.B bA (t6+2) (.int ((↑(jR l av 0 none []).fst:Int)) ts),En x.B aL (t6+3) (mr),En x.B ba (t6+4) (.ref (N6+0)),En x.B aH q1 (v1),En x.B aW q2 (v2)] 6,#[]⟩)::(N6+0,⟨.type "list",none,(.seq ((List.map (fun p=>Value.str (S p.fst) p.snd) ia).toArray) n),#[]⟩)::rest) 0 0 (by rfl') fun lX mo fh Rp=>?_
   show wpAny _ _ (aj ..) ..
   exact fin _ _ _ _ _ _ _ _ _ _ _ ia (by rw[ez];exact ju) li q7 (by rw[ez];exact Rp)
theorem uU{M:Model}{A:Around}{c:Code}{R:Result→Shared→Prop}{s:Shared}(P:Result→Shared→Prop)(h:codeAny M A c P s)(K:∀r s',P r s'→R r s'):codeAny M A c R s:=codeAny_mono h K
noncomputable def nr(l:List Nat):Bool:=match kE 0 (ew false 0 (ig l)) with
 |none=>false
 |some k=>decide (k=0)
noncomputable def AP(l:List Nat):Bool:=AO l&&(ig l).all (·<128)
theorem check(x:W2)(A:Around)(hh:A.handled=none)(hA:A.depth<600)(R:Result→Shared→Prop)(l:List Nat)(fb:AP l=true)(b:Bool)(hb:nr l=b)(u:Nat)(N t:Nat)(h:Heap)(gl d os)(fX:AllBare gl)(rest:ae)(Rp:Rep x.B N h rest 0)
 (K:∀h' N' t' aY,AllBare aY→Rep x.B N' h' rest 0→R (.ok (.ret (.bool b))) ⟨h',aY,d,t',os⟩):
 codeAny (MB x.B) A (.call (.ref 122) ⟨[.str (S l) u],[]⟩) R ⟨h,gl,d,t,os⟩:=by
 simp only[AP,Bool.and_eq_true] at fb
 obtain⟨fb,h1⟩:=fb
 have uC:s5 (ig l):=fun c hc=>by simpa using(List.all_eq_true.mp h1) c hc
 unfold nr at hb
 generalize hm:ig l=m at*
 refine enter hh Rp (by first|assumption|(simp only[Around.under,Code.weight,recursionLimit] at*;omega)) 18 [0,0,5,1] [] (am (fdOf x.B 122)) (envOf (fdOf x.B 122) 122 (N+0)) ((N+0,⟨.type "frame",none,.dict #[En x.B ar (t+0) (.str (S l) u)] 1,#[]⟩)::rest) 1 1 (by rfl') fun h2 N2 t2 Rp=>?_
 refine bS 1 ?_
 refine seg_call hh Rp 18 [0,5,0] [true] (.call (.ref 115) ⟨[.str (S l) u],[]⟩) ((N+0,⟨.type "frame",none,.dict #[En x.B ar (t+0) (.str (S l) u)] 1,#[]⟩)::rest) 0 0 (by rfl') fun h3 N3 t3 Rp=>?_
 refine strip x (A.under _) hh (by show A.depth+1<700;omega) _ l fb _ _ _ _ _ _ _ fX _ Rp fun h' N' t' aY v hgb' Rp=>?_
 rw[hm]
 refine aE hh Rp 19 [5,1] [true] Flow.next ((N+0,⟨.type "frame",none,.dict #[En x.B ar (t+0) (.str (S m) v)] 1,#[]⟩)::rest) 0 1 (by rfl') fun h4 N4 t4 Rp=>?_
 refine bS 1 ?_
 refine aE hh Rp 20 [5,1] [true] Flow.next ((N+0,⟨.type "frame",none,.dict #[En x.B ar (t+0) (.str (S m) v),En x.B cv (t4+1) (.int 0 (t4+0))] 2,#[]⟩)::rest) 0 2 (by rfl') fun h5 N5 t5 Rp=>?_
 refine bS 1 ?_
 refine seg_call hh Rp 18 [0,5,0] [true] (.call (.ref 108) ⟨[.str (S m) v],[]⟩) ((N+0,⟨.type "frame",none,.dict #[En x.B ar (t+0) (.str (S m) v),En x.B cv (t4+1) (.int 0 (t4+0))] 2,#[]⟩)::rest) 0 0 (by rfl') fun h6 N6 t6 Rp=>?_
 refine pL x (A.under _) hh (by show A.depth+1<900;omega) _ m _ _ _ _ _ _ _ _ Rp fun h' N' t' a F' ka nm qn Rp=>?_
 refine seg_call hh Rp 21 [5,5,0,5,5] [true,true,true] (ai (ah x.B 122 2) (.ref a) (envOf (fdOf x.B 122) 122 (N+0))) ((a,⟨.type "generator",none,.fields #[.int ((↑aY.size:Int)) 0,nm,qn],#[]⟩)::(F',⟨.type "frame",none,.dict #[En x.B ar ka (.str (S m) v)] 1,#[]⟩)::(N+0,⟨.type "frame",none,.dict #[En x.B ar (t+0) (.str (S m) v),En x.B cv (t4+1) (.int 0 (t4+0))] 2,#[]⟩)::rest) 0 0 (by rfl') fun h7 N7 t7 Rp=>?_
 have hG:=ke x F' m uC ka v
 have hg:c7 (aY.push (.fresh (cp x F'))) aY.size (.fresh (cp x F')):=⟨Array.getElem?_push_size,hgb'.push rfl⟩
 have Rp:=Rp.perm ((List.perm_middle (l₁:=[_,_])))
 refine uU (fun r s'=>AllBare s'.gens∧((r=.ok (.ret (.bool false))∧b=false∧∃h' N' t' aY,Rep x.B N' h' rest 0∧s'=⟨h',aY,d,t',os⟩)∨(r=.ok .next∧∃k h' N' t' aY tk q1 q2 v1 v2,decide (k=0)=b∧Rep x.B N' h' ((N+0,d4 x (t+0) (t4+1) tk (.str (S m) v) k [En x.B aH q1 v1,En x.B aW q2 v2] 4)::rest) 0∧s'=⟨h',aY,d,t',os⟩)
  ∨(r=.ok .next∧b=true∧∃h' N' t' aY tk,Rep x.B N' h' ((N+0,d4 x (t+0) (t4+1) tk (.str (S m) v) 0 [] 2)::rest) 0∧s'=⟨h',aY,d,t',os⟩))) ?_ ?_
 ·have go:∀(k:Int) (av:List (Nat×List Nat)) (hb:(match kE k av with|none=>false|some k=>decide (k=0))=b) (P:Result→Shared→Prop)
   (_:∀h' N' t' aY,AllBare aY→b=false→Rep x.B N' h' rest 0→P (.ok (.ret (.bool false))) ⟨h',aY,d,t',os⟩)
   (_:∀k h' N' t' aY tk q1 q2 v1 v2,AllBare aY→decide (k=0)=b→Rep x.B N' h' ((N+0,d4 x (t+0) (t4+1) tk (.str (S m) v) k [En x.B aH q1 v1,En x.B aW q2 v2] 4)::rest) 0→P (.ok .next) ⟨h',aY,d,t',os⟩)
   (tk q1 q2:Nat) (v1 v2:Value) (gs:GenState) (cs:ae) (_:cE x av gs cs) (N' t':Nat) (h':Heap) (m8:Array GenState) (_:c7 m8 aY.size gs)
   (_:Rep x.B N' h' ((N+0,d4 x (t+0) (t4+1) tk (.str (S m) v) k [En x.B aH q1 v1,En x.B aW q2 v2] 4)::(a,cN aY.size nm qn)::(cs++rest)) 0),
   codeAny (MB x.B) (A.under (.func (am (fdOf x.B 122)) (envOf (fdOf x.B 122) 122 (N+0)))) (dI x (N+0) a) P ⟨h',m8,d,t',os⟩:=by
   intro k av hb P K1 K2 tk q1 q2 v1 v2 gs cs G N' t' h' m8 hg Rp
   refine su x (A.under _) hh (by show A.depth+1<800;exact wS hA) P (N+0) a _ nm qn _ _ _ d os rest av k tk q1 q2 v1 v2 gs cs G N' t' h' m8 hg Rp (fun e h' N' t' aY hz Rp=>?_) (fun k' e h' N' t' aY tk q1 q2 v1 v2 hz Rp=>?_)
   ·rw[e] at hb
    exact K1 _ _ _ _ hz hb.symm Rp
   ·rw[e] at hb
    exact K2 _ _ _ _ _ _ _ _ _ _ hz hb Rp
  have P1:∀h' N' t' aY,AllBare aY→b=false→Rep x.B N' h' rest 0→(fun r s'=>AllBare s'.gens∧((r=.ok (.ret (.bool false))∧b=false∧∃h' N' t' aY,Rep x.B N' h' rest 0∧s'=(⟨h',aY,d,t',os⟩:Shared))∨(r=.ok .next∧∃k h' N' t' aY tk q1 q2 v1 v2,decide (k=0)=b∧Rep x.B N' h' ((N+0,d4 x (t+0) (t4+1) tk (.str (S m) v) k [En x.B aH q1 v1,En x.B aW q2 v2] 4)::rest) 0∧s'=⟨h',aY,d,t',os⟩)
   ∨(r=.ok .next∧b=true∧∃h' N' t' aY tk,Rep x.B N' h' ((N+0,d4 x (t+0) (t4+1) tk (.str (S m) v) 0 [] 2)::rest) 0∧s'=⟨h',aY,d,t',os⟩))) (Except.ok (Flow.ret (.bool false)):Result) ⟨h',aY,d,t',os⟩:=fun h' N' t' aY hz e Rp=>⟨hz,.inl ⟨rfl,e,_,_,_,_,Rp,rfl⟩⟩
  generalize ew false 0 m=av at*
  cases av with
  |nil=>
   refine qB x (A.under _) hh (by show A.depth+1<800;exact wS hA) _ (N+0) a _ _ nm qn _ _ hG _ _ _ _ hg d os rest Rp fun h' N' t' aY hz Rp=>?_
   exact⟨hz,.inr (.inr ⟨rfl,hb.symm,_,_,_,_,_,Rp,rfl⟩)⟩
  |cons o av=>
   obtain⟨i,w⟩:=o
   unfold kE at hb
   by_cases w1:w=[40]
   ·rw[if_pos w1] at hb
    refine yK x (A.under _) hh (by show A.depth+1<800;exact wS hA) _ (N+0) a _ nm qn _ 0 _ _ _ i w av _ _ hG w1 _ _ _ _ hg d os rest Rp fun h' N' t' aY cQ be q1 q2 v1 v2 tk G' eo Rp=>?_
    exact go (0+1) av hb _ P1 (fun k h' N' t' aY tk q1 q2 v1 v2 hz e Rp=>⟨hz,.inr (.inl ⟨rfl,_,_,_,_,_,_,_,_,_,_,e,Rp,rfl⟩)⟩) _ _ _ _ _ _ _ G' _ _ _ _ eo Rp
   rw[if_neg w1] at hb
   by_cases w2:w=[41]
   ·rw[if_pos w2,if_pos (by decide)] at hb
    exact yM x (A.under _) hh (by show A.depth+1<800;exact wS hA) _ (N+0) a _ nm qn _ 0 _ _ _ i w av _ _ hG w2 (by decide) _ _ _ _ hg d os rest Rp fun h' N' t' aY hz Rp=>⟨hz,.inl ⟨rfl,hb.symm,_,_,_,_,Rp,rfl⟩⟩
   ·rw[if_neg w2] at hb
    refine yL x (A.under _) hh (by show A.depth+1<800;exact wS hA) _ (N+0) a _ nm qn _ 0 _ _ _ i w av _ _ hG w1 w2 _ _ _ _ hg d os rest Rp fun h' N' t' aY cQ be q1 q2 v1 v2 tk G' eo Rp=>?_
    exact go 0 av hb _ P1 (fun k h' N' t' aY tk q1 q2 v1 v2 hz e Rp=>⟨hz,.inr (.inl ⟨rfl,_,_,_,_,_,_,_,_,_,_,e,Rp,rfl⟩)⟩) _ _ _ _ _ _ _ G' _ _ _ _ eo Rp
 ·clear Rp hG hg
  rintro r s' ⟨hz,(⟨rfl,gz,h',N',t',m8,Rp,rfl⟩|⟨rfl,k,h',N',t',m8,tk,q1,q2,v1,v2,hk,Rp,rfl⟩|⟨rfl,hb1,h',N',t',m8,tk,Rp,rfl⟩)⟩
  ·subst gz
   refine aE hh Rp 11 [] [] (Flow.ret (.bool false)) (rest) 0 0 (by rfl') fun h8 N8 t8 Rp=>?_
   exact K _ _ _ _ hz Rp
  ·dsimp only[d4] at Rp
   refine aE hh Rp 11 [] [true] Flow.next ((N+0,⟨.type "frame",none,.dict #[En x.B ar (t+0) (.str (S m) v),En x.B cv (t4+1) (.int (k) tk),En x.B aH q1 (v1),En x.B aW q2 (v2)] 4,#[]⟩)::rest) 0 0 (by rfl') fun h8 N8 t8 Rp=>?_
   show wpAny _ _ (aj ..) ..
   by_cases c:k=0
   ·rw[decide_eq_true c] at hk
    subst hk
    refine bI hh Rp [⟨.call (.builtin "int.__eq__") ⟨[.int (k) tk,.int 0 (t8+0)],[]⟩,fun _=>.bool true,0⟩] 18 [5,1] [false] (Flow.ret (.bool true)) (rest) 0 1 (by rfl') (aC (lP (decide_eq_true (by omega))) aN) fun h9 N9 t9 Rp=>?_
    exact K _ _ _ _ hz Rp
   ·rw[decide_eq_false c] at hk
    subst hk
    refine bI hh Rp [⟨.call (.builtin "int.__eq__") ⟨[.int (k) tk,.int 0 (t8+0)],[]⟩,fun _=>.bool false,0⟩] 18 [5,1] [false] (Flow.ret (.bool false)) (rest) 0 1 (by rfl') (aC (lP (decide_eq_false (by omega))) aN) fun h9 N9 t9 Rp=>?_
    exact K _ _ _ _ hz Rp
  ·dsimp only[d4] at Rp
   subst hb1
   refine aE hh Rp 11 [] [true] Flow.next ((N+0,⟨.type "frame",none,.dict #[En x.B ar (t+0) (.str (S m) v),En x.B cv (t4+1) (.int 0 tk)] 2,#[]⟩)::rest) 0 0 (by rfl') fun h8 N8 t8 Rp=>?_
   show wpAny _ _ (aj ..) ..
   refine aE hh Rp 20 [5,0] [false] (Flow.ret (.bool true)) (rest) 0 1 (by rfl') fun h9 N9 t9 Rp=>?_
   exact K _ _ _ _ hz Rp
noncomputable def bG(x:W2)(P:Addr)(w:List Nat):Prop:=∀(A:Around) (_:A.handled=none) (R:Result→Shared→Prop) (u:Nat) (N t:Nat) (h:Heap) (gl d os) (rest:ae) (_:Rep x.B N h rest 0)
 (_:∀h' N' t',Rep x.B N' h' rest 0→R (.ok (.ret .none)) ⟨h',gl,d,t',os⟩),codeAny (MB x.B) A (.call (.builtin "re.Pattern.search") ⟨[.ref P,.str (S w) u],[]⟩) R ⟨h,gl,d,t,os⟩
theorem nz(x:W2):bG x 132 [97]:=by
 intro A hh R u N t h gl d os rest Rp K
 refine aX hh Rp [] 19 (dA 0x1041) [] (.ok (.ret .none)) [] [] 0 0 ?_
 intro bT h1 N1 t1 Rp
 exact K _ _ _ Rp
theorem gQ(x:W2)(A:Around)(hh:A.handled=none)(hA:A.depth<600)(R:Result→Shared→Prop)(w:List Nat)(hs:bG x 132 w)(fj u:Nat)(N t:Nat)(h:Heap)(gl d os)(rest:ae)(Rp:Rep x.B N h rest 0)
 (K:∀h' N' t',Rep x.B N' h' rest 0→R (.ok (.ret (.str (S w) u))) ⟨h',gl,d,t',os⟩):
 codeAny (MB x.B) A (.call (.ref 167) ⟨[.ref fj,.str (S w) u],[(bK,.bool true)]⟩) R ⟨h,gl,d,t,os⟩:=by
 refine bE hh Rp (by exact A3 hA) 26 (dA 0x86086086041) (am (fdOf x.B 167)) (envOf (fdOf x.B 167) 167 (N+0)) [(N+0,oF #[En x.B eZ (t+0) (.ref fj),En x.B dT (t+1) (.str (S w) u),En x.B bK (t+2) (.bool true)] 3)] 1 3 (by rfl') ?_
 intro bT h1 N1 t1 Rp
 refine aa hh Rp [] 51 (dA 0x181041046086046041046041) [] (cB "re.Pattern.search" [.ref 132,.str (S w) u]) [] [.u (dU [] [En x.B nK (t1+0) (.ref 132)] 4)] 0 1 ?_
 intro bW h2 N2 t2 Rp dK
 refine hs (A.under _) hh _ _ _ _ _ _ _ _ _ Rp fun h' N' t' Rp=>?_
 refine ab hh Rp [] 16 (dA 0x6) [] (Flow.ret (.str (S w) u)) [] [.d] 0 0 ?_
 intro cC h3 N3 t3 Rp
 exact K _ _ _ Rp
theorem uS(x:W2)(A:Around)(hh:A.handled=none)(hA:A.depth<600)(R:Result→Shared→Prop)(w:List Nat)(hs:bG x 137 w)(fj u:Nat)(N t:Nat)(h:Heap)(gl d os)(rest:ae)(Rp:Rep x.B N h rest 0)
 (K:∀h' N' t',Rep x.B N' h' rest 0→R (.ok (.ret (.str (S w) u))) ⟨h',gl,d,t',os⟩):
 codeAny (MB x.B) A (.call (.ref 167) ⟨[.ref fj,.str (S w) u],[(bK,.bool false)]⟩) R ⟨h,gl,d,t,os⟩:=by
 refine bE hh Rp (by exact A3 hA) 26 (dA 0x86086086041) (am (fdOf x.B 167)) (envOf (fdOf x.B 167) 167 (N+0)) [(N+0,oF #[En x.B eZ (t+0) (.ref fj),En x.B dT (t+1) (.str (S w) u),En x.B bK (t+2) (.bool false)] 3)] 1 3 (by rfl') ?_
 intro bT h1 N1 t1 Rp
 refine aa hh Rp [] 51 (dA 0x181041046086046041046041) [] (cB "re.Pattern.search" [.ref 137,.str (S w) u]) [] [.u (dU [] [En x.B nK (t1+0) (.ref 137)] 4)] 0 1 ?_
 intro bW h2 N2 t2 Rp dK
 refine hs (A.under _) hh _ _ _ _ _ _ _ _ _ Rp fun h' N' t' Rp=>?_
 refine ab hh Rp [] 16 (dA 0x6) [] (Flow.ret (.str (S w) u)) [] [.d] 0 0 ?_
 intro cC h3 N3 t3 Rp
 exact K _ _ _ Rp
theorem uD(x:W2)(A:Around)(hh:A.handled=none)(hA:A.depth<600)(R:Result→Shared→Prop)(o D:Addr)(N t:Nat)(h:Heap)(gl d os)(rest:ae)(Rp:Rep x.B N h ((o,⟨.ref 266,some D,.plain,#[]⟩)::(D,⟨.type "dict",none,.dict #[] 0,#[]⟩)::rest) 0)
 (K:∀h' N' t' l kl,Rep x.B N' h' ((l,an #[] 0)::(o,⟨.ref 266,some D,.plain,#[]⟩)::(D,⟨.type "dict",none,.dict #[En x.B ef kl (.ref l)] 1,#[]⟩)::rest) 0→R (.ok (.ret .none)) ⟨h',gl,d,t',os⟩):
 codeAny (MB x.B) A (.call (.ref 160) ⟨[.ref o],[]⟩) R ⟨h,gl,d,t,os⟩:=by
 refine bE hh Rp (by exact A3 hA) 23 (dA 0x2182181041) (am (fdOf x.B 160)) (envOf (fdOf x.B 160) 160 (N+0)) [(N+0,oF #[En x.B eZ (t+0) (.ref o),En x.B n9 (t+1) .none] 2)] 1 2 (by rfl') ?_
 intro bT h1 N1 t1 Rp
 refine ab hh Rp [] 104 (dA 0x1821871861811811860461872452412010412012012010410481c70411811c10431c6) (dM 24) Flow.next [(N1+0,oL #[] 0)] [.d,.k,.u fun _=>oD #[En x.B ef (t1+2) (.ref (N1+0))] 1] 4 3 ?_
 intro bW h2 N2 t2 Rp
 exact K _ _ _ _ _ Rp
theorem F2(x:W2)(A:Around)(hh:A.handled=none)(hA:A.depth<500)(R:Result→Shared→Prop)(N t:Nat)(h:Heap)(gl d os)(rest:ae)(Rp:Rep x.B N h rest 0)
 (K:∀h' N' t' o D l kl,Rep x.B N' h' ((l,an #[] 0)::(o,⟨.ref 266,some D,.plain,#[]⟩)::(D,⟨.type "dict",none,.dict #[En x.B ef kl (.ref l)] 1,#[]⟩)::rest) 0→R (.ok (.ret (.ref o))) ⟨h',gl,d,t',os⟩):
 codeAny (MB x.B) A (.call (.ref 266) ⟨[],[]⟩) R ⟨h,gl,d,t,os⟩:=by
 refine af ?_
 refine ab hh Rp [] 13 (dA 0x41) [] (Fin.again (cB "type.__call__" [.ref 266])) [] [] 0 0 ?_
 intro bT h1 N1 t1 Rp
 refine⟨by first|rfl|decide+kernel,af ?_⟩
 refine ab hh Rp [] 12 (dA 0x1) [] (Fin.again (.builtin "type.__call__" ⟨[.ref 266],[]⟩)) [] [] 0 0 ?_
 intro bW h2 N2 t2 Rp
 refine⟨Code.quiet_builtin _ (by decide+kernel),af ?_⟩
 refine aa hh Rp [] 41 (dA 0x41041181181041041041041041041041041041) (dM 7) (cR 160 [.ref (N2+1)]) [(N2+1,⟨.ref 266,some (N2+0),.plain,#[]⟩),(N2+0,oD #[] 0)] [] 2 0 ?_
 intro cC h3 N3 t3 Rp eD
 refine uD x (A.under _) hh (by show A.depth+1<600;exact oS hA) _ _ _ _ _ _ _ _ _ _ Rp fun h' N' t' l kl Rp=>?_
 refine ab hh Rp [] 11 (dA 0x0) [] (Fin.done (Flow.ret (.ref (N2+1)))) [] [] 0 0 ?_
 intro db h4 N4 t4 Rp
 exact K _ _ _ _ _ _ _ Rp
noncomputable abbrev fQ(D:Addr):Obj:=⟨.ref 266,some D,.plain,#[]⟩
noncomputable abbrev fR(x:W2)(kl:Nat)(l:Addr):Obj:=⟨.type "dict",none,.dict #[En x.B ef kl (.ref l)] 1,#[]⟩
theorem j8(x:W2)(A:Around)(hh:A.handled=none)(hA:A.depth<500)(R:Result→Shared→Prop)(o D l:Addr)(kl n:Nat)(items:Array Value)(hi:items.size<1000)(w v:List Nat)(hw:bG x 132 w)(hv:bG x 137 v)(u1 u2:Nat)(N t:Nat)(h:Heap)(gl d os)(rest:ae)
 (Rp:Rep x.B N h ((l,an items n)::(o,fQ D)::(D,fR x kl l)::rest) 0)
 (K:∀h' N' t' a,Rep x.B N' h' ((a,⟨.type "tuple",none,.seq #[.str (S w) u1,.str (S v) u2] 0,#[]⟩)::(l,an (items.push (.ref a)) (n+1))::(o,fQ D)::(D,fR x kl l)::rest) 0→R (.ok (.ret .none)) ⟨h',gl,d,t',os⟩):
 codeAny (MB x.B) A (.call (.ref 263) ⟨[.ref o,.str (S w) u1,.str (S v) u2],[]⟩) R ⟨h,gl,d,t,os⟩:=by
 obtain⟨M,rfl⟩:=Nat.exists_eq_add_of_le' (show 289≤N from Rp.top)
 refine bE hh Rp (by exact sN hA) 31 (dA 0x86086086086041) (am (fdOf x.B 263)) (envOf (fdOf x.B 263) 263 (M+289+1)) [(M+289+1,oF #[En x.B eZ (t+0) (.ref o),En x.B rH (t+1) (.str (S w) u1),En x.B pJ (t+2) (.str (S v) u2),En x.B oa (t+3) (.ref (M+289+0))] 4),(M+289+0,oD #[] 0)] 2 4 (by rfl') ?_
 intro bT h1 N1 t1 Rp
 refine aa hh Rp [] 50 (dA 0x11cb28104104a04104a04104a1c70c7) (dM 3) (.call (.ref 167) ⟨[.ref o,.str (S v) u2],[(bK,.bool false)]⟩) [(N1+0,oL #[] 0)] [.u (dU [] [En x.B rF (t1+0) (.ref (N1+0))] 5)] 1 1 ?_
 intro bW h2 N2 t2 Rp dK
 refine uS x (A.under _) hh (by show A.depth+1<600;exact oS hA) _ v hv _ _ _ _ _ _ _ _ _ Rp fun h' N' t' Rp=>?_
 refine aa hh Rp [] 140 (dA 0x12cf38104104e04104e04104e2cd34d34f04e38104138104104e2c608618a2861860460462491860461882012082081c60861811c61861870c7) (dM 16) (.call (.ref 167) ⟨[.ref o,.str (S w) u1],[(bK,.bool true)]⟩) [] [.u fun _=>oL #[.str (S v) u2] 1,.u (dU [] [] 5)] 4 2 ?_
 intro cC h3 N3 t3 Rp eD
 refine gQ x (A.under _) hh (by show A.depth+1<600;exact oS hA) _ w hw _ _ _ _ _ _ _ _ _ Rp fun h' N' t' Rp=>?_
 refine aa hh Rp [] 27 (dA 0x186047) (dM 3) (cB "list.append" [.ref l,.ref (N'+0)]) [(N'+0,oT #[.str (S w) u1,.str (S v) u2])] [] 1 1 ?_
 intro db h4 N4 t4 Rp gr
 refine bn (items:=items) Rp 4 rfl (by omega) rfl fun jw Rp=>?_
 try dsimp only[bm] at Rp
 refine ab hh Rp [] 12 (dA 0x0) [] Flow.next [] [.k,.d,.d,.d] 0 0 ?_
 intro dv h5 N5 t5 Rp
 exact K _ _ _ _ Rp
noncomputable def IsL(l:List Nat):Prop:=l=[97]∨l=[97,98]
theorem dW(s:Int):IsL (jD s):=by unfold jD;split<;>first|exact .inl rfl|exact .inr rfl
noncomputable def fU(l:List Nat):List Nat:=l.map (·-32)
noncomputable def bj(r:Nat):List Nat:=match r with
 |0=>[]
 |1=>[92,41]
 |2=>[34,92,34,40,34]
 |_=>[92,34]
structure eO (ls:List (List Nat)) (l:List Nat) (k:Nat):Prop where
 lt:k<ls.length
 hit:ls[k]? =some l
 no:∀m,m<k→ls[m]?≠some l
section
variable (x:W2) {A:Around} {R:Result→Shared→Prop} {h:Heap} {gl:Array GenState} {d:Drawn} {t:Nat} {os:OsState} {N:Nat} {tab:ae}
theorem gk(hh:A.handled=none)(Rp:Rep x.B N h tab 0){l:List Nat}(hl:IsL l){u:Nat}
 (K:∀h' N' t' v,Rep x.B N' h' tab 0→R (.ok (.ret (.str (S (fU l)) v))) ⟨h',gl,d,t',os⟩):
 codeAny (MB x.B) A (.call (.builtin "str.upper") ⟨[.str (S l) u],[]⟩) R ⟨h,gl,d,t,os⟩:=
 bN hh Rp [] 13 [] [] (.ok (.ret (.str (S (fU l)) (t+0)))) tab 0 1 (by rcases hl with rfl|rfl<;>rfl') aN fun _ _ _ Rp=>K _ _ _ _ Rp
theorem ik(hh:A.handled=none)(Rp:Rep x.B N h tab 0){r:Nat}(hr:r<4){c:Nat}(hc:c=40∨c=41){u v:Nat}
 (K:∀h' N' t' v,Rep x.B N' h' tab 0→R (.ok (.ret (.str (S (bj r++[c])) v))) ⟨h',gl,d,t',os⟩):
 codeAny (MB x.B) A (.call (.builtin "str.__add__") ⟨[.str (S (bj r)) u,.str (S [c]) v],[]⟩) R ⟨h,gl,d,t,os⟩:=
 bN hh Rp [] 13 [] [] (.ok (.ret (.str (S (bj r++[c])) (match r with|0=>v|_=>t+0)))) tab 0 (match r with|0=>0|_=>1) (by
  rcases hc with rfl|rfl<;>obtain rfl|rfl|rfl|rfl:r=0∨r=1∨r=2∨r=3:=by exact wR hr
  all_goals rfl') aN fun _ _ _ Rp=>K _ _ _ _ Rp
noncomputable abbrev Cc(w:Nat→Nat):Obj:=⟨.type "tuple",none,.seq #[.str (S (bj 0)) (w 0),.str (S (bj 1)) (w 1),.str (S (bj 2)) (w 2),.str (S (bj 3)) (w 3)] 0,#[]⟩
theorem jQ(hh:A.handled=none){a:Addr}{w:Nat→Nat}{r u:Nat}(hr:r<4)(Rp:Rep x.B N h ((a,Cc w)::tab) 0)
 (K:∀h' N' t',Rep x.B N' h' tab 0→R (.ok (.ret (.str (S (bj r)) (w r)))) ⟨h',gl,d,t',os⟩):
 codeAny (MB x.B) A (.call (.builtin "tuple.__getitem__") ⟨[.ref a,.int r u],[]⟩) R ⟨h,gl,d,t,os⟩:=
 bN hh Rp [] 14 [5,5] [false] (.ok (.ret (.str (S (bj r)) (w r)))) tab 0 0 (by
  obtain rfl|rfl|rfl|rfl:r=0∨r=1∨r=2∨r=3:=by exact wR hr
  all_goals rfl') aN fun _ _ _ Rp=>K _ _ _ Rp
noncomputable abbrev iI(l0 l1 l2 l3:List Nat)(w0 w1 w2 w3:Nat)(n:Nat):Obj:=an #[.str (S l0) w0,.str (S l1) w1,.str (S l2) w2,.str (S l3) w3] n
theorem fr{l0 l1 l2 l3 l:List Nat}{w0 w1 w2 w3 n u k:Nat}{ll:Addr}(Rp:Rep x.B N h tab 0)(i:Nat)(hx:nth tab i=some (ll,iI l0 l1 l2 l3 w0 w1 w2 w3 n))(hk:eO [l0,l1,l2,l3] l k)
 (K:R (.ok (.ret (.int k t))) ⟨h,gl,d,t+1,os⟩):
 codeAny (MB x.B) A (.call (.builtin "list.index") ⟨[.ref ll,.str (S l) u],[]⟩) R ⟨h,gl,d,t,os⟩:=by
 have hl:=Rp.at hx
 have lt:=hk.lt
 have e4:∀m,m<4→∀v,(#[Value.str (S l0) w0,.str (S l1) w1,.str (S l2) w2,.str (S l3) w3]:Array Value)[m]? =some v→∃l' w',v=.str (S l') w'∧[l0,l1,l2,l3][m]? =some l':=by
  intro m hm v hv
  obtain rfl|rfl|rfl|rfl:m=0∨m=1∨m=2∨m=3:=by exact wR hm
  all_goals cases hv;exact⟨_,_,rfl,rfl⟩
 have lt':k<4:=lt
 refine gm PySem.F.slot_list_index ⟨_,hl,rfl⟩ PySem.F.entry_list_index (PySem.F.args_list_index_2 _ _) (PySem.MeetsSeq.list_index ll #[.str (S l0) w0,.str (S l1) w1,.str (S l2) w2,.str (S l3) w3] n (.str (S l) u) (fun y=>match y with| .str s _=>s.cps.toList==l|_=>false) (fun y hy=>?_) k lt' (by omega) ?_ fun m hm hmk=>?_) ⟨hl,K⟩
 ·simp only[List.mem_toArray,List.mem_cons,List.not_mem_nil,or_false] at hy
  rcases hy with rfl|rfl|rfl|rfl<;>exact PySem.SeqRoads2.EqGives.str _ _ _ _
 ·obtain⟨l',w',e1,e2⟩:=e4 k lt' _ (Array.getElem?_eq_getElem lt')
  rw[hk.hit] at e2
  cases e2
  rw[e1]
  exact beq_self_eq_true l
 ·have Gb:m<4:=hm
  obtain⟨l',w',e1,e2⟩:=e4 m Gb _ (Array.getElem?_eq_getElem Gb)
  rw[e1]
  have:l'≠l:=fun z=>hk.no m hmk (z▸e2)
  exact beq_eq_false_iff_ne.mpr this
end
theorem wJ(x:W2)(A:Around)(hh:A.handled=none)(hA:A.depth<310)(Q:Flow→Shared→Prop)(F cb b ll:Addr)(k8 k9 v9 bB:Nat)(ks kc kp up kd ud k1 v1 k2 v2 k3 k4 k5 k6 k7 v7:Nat)(P D sg sd CN:Int)(wd td el cl:Addr)(sl:Array (Option Value))
 (N t:Nat) (h:Heap) (gl d os) (rest:ae)
 (Rp:Rep x.B N h ((F,qo x ks kc cl k1 sg v1 k2 sd v2 k3 wd k4 td k5 wd k6 el k7 CN v7 kd D ud kp P up [En x.B aM k8 (.ref b),En x.B bH k9 (.int 0 v9),En x.B br bB (.ref ll)] 14 sl)::rest) 0)
 (K:∀h' N' t' bV bU kl o dh hl pc,Rep x.B N' h' ((pc,an #[] 0)::(hl,an #[] 0)::(o,fQ dh)::(dh,fR x kl hl)::(F,qo x ks kc cl k1 sg v1 k2 sd v2 k3 wd k4 td k5 wd k6 el k7 CN v7 kd D ud kp P up (fY x k8 b k9 v9 bB ll bU pc bV o []) 16 sl)::rest) 0→wpAny (MB x.B) A (aj (am (fdOf x.B 287) |>.drop 11) (au x F cb)) Q (fun _ _=>False) ⟨h',gl,d,t',os⟩):
 wpAny (MB x.B) A (aj (am (fdOf x.B 287) |>.drop 10) (au x F cb)) Q (fun _ _=>False) ⟨h,gl,d,t,os⟩:=by
 refine bS 1 ?_
 refine seg_call hh Rp 18 [0,0,0] [true] (.call (.ref 266) ⟨[],[]⟩) ((F,⟨.type "frame",none,.dict #[En x.B aq ks (.ref 288),En x.B aJ kc (.ref cl),En x.B aA kp (.int (P) up),En x.B bF kd (.int (D) ud),En x.B bw k1 (.int (sg) v1),En x.B bz k2 (.int (sd) v2),En x.B bu k3 (.ref wd),En x.B bv k4 (.ref td),En x.B cP k5 (.ref wd),En x.B bi k6 (.ref el),En x.B bl k7 (.int (CN) v7),En x.B aM k8 (.ref b),En x.B bH k9 (.int 0 v9),En x.B br bB (.ref ll)] 14,sl⟩)::rest) 0 0 (by rfl') fun h1 N1 t1 Rp=>?_
 refine F2 x A hh (by exact xi hA) _ _ _ _ _ _ _ _ Rp fun hx Nx tx o dh l kl Rp=>?_
 show wpAny ..
 refine aE hh Rp 73 [5,5,5,0,5,5,5,0,5,5,5,6,5,1,5,0,5,5,5,6,5,1,5,0,5,5,5,6,5,1,5,13,9,13,9] [false,false,false,false,true,true,true,true,true] Flow.next ((Nx+0,⟨.type "list",none,.seq #[] 0,#[]⟩)::(l,⟨.type "list",none,.seq #[] 0,#[]⟩)::(o,⟨.ref 266,some dh,.plain,#[]⟩)::(dh,⟨.type "dict",none,.dict #[En x.B ef kl (.ref l)] 1,#[]⟩)::(F,⟨.type "frame",none,.dict #[En x.B aq ks (.ref 288),En x.B aJ kc (.ref cl),En x.B aA kp (.int (P) up),En x.B bF kd (.int (D) ud),En x.B bw k1 (.int (sg) v1),En x.B bz k2 (.int (sd) v2),En x.B bu k3 (.ref wd),En x.B bv k4 (.ref td),En x.B cP k5 (.ref wd),En x.B bi k6 (.ref el),En x.B bl k7 (.int (CN) v7),En x.B aM k8 (.ref b),En x.B bH k9 (.int 0 v9),En x.B br bB (.ref ll),En x.B cr (tx+0) (.ref (Nx+0)),En x.B cS (tx+1) (.ref o)] 16,sl⟩)::rest) 5 2 (by rfl') fun h2 N2 t2 Rp=>?_
 exact K _ _ _ _ _ _ _ _ _ _ Rp
theorem wK(x:W2)(A:Around)(hh:A.handled=none)(hA:A.depth<310)(Q:Flow→Shared→Prop)(F cb b ll:Addr)(k8 k9 v9 bB:Nat)(ks kc k1 v1 k2 v2 k3 k4 k5 k6 kp up k7 v7:Nat)(P sg sd CN:Int)(wd td el cl:Addr)(sl:Array (Option Value))
 (N t:Nat) (h:Heap) (gl d os) (rest:ae)
 (Rp:Rep x.B N h ((F,Ad x ks kc cl k1 sg v1 k2 sd v2 k3 wd k4 td k5 wd k6 el k7 CN v7 kp P up [En x.B aM k8 (.ref b),En x.B bH k9 (.int 0 v9),En x.B br bB (.ref ll)] 13 sl)::rest) 0)
 (K:∀h' N' t' bV bU kl o dh hl pc,Rep x.B N' h' ((pc,an #[] 0)::(hl,an #[] 0)::(o,fQ dh)::(dh,fR x kl hl)::(F,Ad x ks kc cl k1 sg v1 k2 sd v2 k3 wd k4 td k5 wd k6 el k7 CN v7 kp P up (fY x k8 b k9 v9 bB ll bU pc bV o []) 15 sl)::rest) 0→wpAny (MB x.B) A (aj (am (fdOf x.B 287) |>.drop 11) (au x F cb)) Q (fun _ _=>False) ⟨h',gl,d,t',os⟩):
 wpAny (MB x.B) A (aj (am (fdOf x.B 287) |>.drop 10) (au x F cb)) Q (fun _ _=>False) ⟨h,gl,d,t,os⟩:=by
 refine bS 1 ?_
 refine seg_call hh Rp 18 [0,0,0] [true] (.call (.ref 266) ⟨[],[]⟩) ((F,⟨.type "frame",none,.dict #[En x.B aq ks (.ref 288),En x.B aJ kc (.ref cl),En x.B bw k1 (.int (sg) v1),En x.B bz k2 (.int (sd) v2),En x.B bu k3 (.ref wd),En x.B bv k4 (.ref td),En x.B cP k5 (.ref wd),En x.B bi k6 (.ref el),En x.B aA kp (.int (P) up),En x.B bl k7 (.int (CN) v7),En x.B aM k8 (.ref b),En x.B bH k9 (.int 0 v9),En x.B br bB (.ref ll)] 13,sl⟩)::rest) 0 0 (by rfl') fun h1 N1 t1 Rp=>?_
 refine F2 x A hh (by exact xi hA) _ _ _ _ _ _ _ _ Rp fun hx Nx tx o dh l kl Rp=>?_
 show wpAny ..
 refine aE hh Rp 73 [5,5,5,0,5,5,5,0,5,5,5,6,5,1,5,0,5,5,5,6,5,1,5,0,5,5,5,6,5,1,5,13,9,13,9] [false,false,false,false,true,true,true,true,true] Flow.next ((Nx+0,⟨.type "list",none,.seq #[] 0,#[]⟩)::(l,⟨.type "list",none,.seq #[] 0,#[]⟩)::(o,⟨.ref 266,some dh,.plain,#[]⟩)::(dh,⟨.type "dict",none,.dict #[En x.B ef kl (.ref l)] 1,#[]⟩)::(F,⟨.type "frame",none,.dict #[En x.B aq ks (.ref 288),En x.B aJ kc (.ref cl),En x.B bw k1 (.int (sg) v1),En x.B bz k2 (.int (sd) v2),En x.B bu k3 (.ref wd),En x.B bv k4 (.ref td),En x.B cP k5 (.ref wd),En x.B bi k6 (.ref el),En x.B aA kp (.int (P) up),En x.B bl k7 (.int (CN) v7),En x.B aM k8 (.ref b),En x.B bH k9 (.int 0 v9),En x.B br bB (.ref ll),En x.B cr (tx+0) (.ref (Nx+0)),En x.B cS (tx+1) (.ref o)] 15,sl⟩)::rest) 5 2 (by rfl') fun h2 N2 t2 Rp=>?_
 exact K _ _ _ _ _ _ _ _ _ _ Rp
theorem iO(x:W2):bG x 132 [97,98]:=by
 intro A hh R u N t h gl d os rest Rp K
 refine aX hh Rp [] 19 (dA 0x1041) [] (.ok (.ret .none)) [] [] 0 0 ?_
 intro bT h1 N1 t1 Rp
 exact K _ _ _ Rp
theorem to(x:W2):bG x 132 [65]:=by
 intro A hh R u N t h gl d os rest Rp K
 refine aX hh Rp [] 19 (dA 0x1041) [] (.ok (.ret .none)) [] [] 0 0 ?_
 intro bT h1 N1 t1 Rp
 exact K _ _ _ Rp
theorem rk(x:W2):bG x 132 [65,66]:=by
 intro A hh R u N t h gl d os rest Rp K
 refine aX hh Rp [] 19 (dA 0x1041) [] (.ok (.ret .none)) [] [] 0 0 ?_
 intro bT h1 N1 t1 Rp
 exact K _ _ _ Rp
theorem tv(x:W2):bG x 137 [48]:=by
 intro A hh R u N t h gl d os rest Rp K
 refine aX hh Rp [] 18 (dA 0x1041) [] (.ok (.ret .none)) [] [] 0 0 ?_
 intro bT h1 N1 t1 Rp
 exact K _ _ _ Rp
theorem tu(x:W2):bG x 137 [49]:=by
 intro A hh R u N t h gl d os rest Rp K
 refine aX hh Rp [] 18 (dA 0x1041) [] (.ok (.ret .none)) [] [] 0 0 ?_
 intro bT h1 N1 t1 Rp
 exact K _ _ _ Rp
theorem tq(x:W2):bG x 137 [50]:=by
 intro A hh R u N t h gl d os rest Rp K
 refine aX hh Rp [] 18 (dA 0x1041) [] (.ok (.ret .none)) [] [] 0 0 ?_
 intro bT h1 N1 t1 Rp
 exact K _ _ _ Rp
theorem tp(x:W2):bG x 137 [51]:=by
 intro A hh R u N t h gl d os rest Rp K
 refine aX hh Rp [] 18 (dA 0x1041) [] (.ok (.ret .none)) [] [] 0 0 ?_
 intro bT h1 N1 t1 Rp
 exact K _ _ _ Rp
noncomputable abbrev oX(x:W2):Expr:=me (ah x.B 205 1)
noncomputable abbrev aT(w v:List Nat)(u1 u2:Nat):Obj:=⟨.type "tuple",none,.seq #[.str (S w) u1,.str (S v) u2] 0,#[]⟩
theorem yy(x:W2)(A:Around)(hh:A.handled=none)(hA:A.depth<500)(R:Result→Shared→Prop)(o D l a0 a1 a2 a3:Addr)(kl n u u0 u1 u2 u3 v0 v1 v2 v3:Nat)(N t:Nat)(h:Heap)(gl d os)(rest:ae)
 (Rp:Rep x.B N h ((l,an #[.ref a0,.ref a1,.ref a2,.ref a3] n)::(o,fQ D)::(D,fR x kl l)::(a0,aT [97] [48] u0 v0)::(a1,aT [65] [49] u1 v1)::(a2,aT [97,98] [50] u2 v2)::(a3,aT [65,66] [51] u3 v3)::rest) 0)
 (K:∀h' N' t' r,Rep x.B N' h' ((r,an #[.str (S [48]) v0,.str (S [49]) v1] 2)::rest) 0→R (.ok (.ret (.ref r))) ⟨h',gl,d,t',os⟩):
 codeAny (MB x.B) A (.call (.ref 205) ⟨[.ref o,.str (S [65]) u],[]⟩) R ⟨h,gl,d,t,os⟩:=by
 obtain⟨M,rfl⟩:=Nat.exists_eq_add_of_le' (show 289≤N from Rp.top)
 refine bE hh Rp (by exact sN hA) 21 (dA 0x860c7041) (am (fdOf x.B 205)) (gP (envOf (fdOf x.B 205) 205 (M+289+0)) [(bK,M+289+1)]) [(M+289+1,oC (some (.str (S [65]) u))),(M+289+0,oF #[En x.B eZ (t+0) (.ref o)] 1)] 2 1 (by rfl') ?_
 intro bT h1 N1 t1 Rp
 refine bS 1 ?_
 refine aa hh Rp [] 44 (dA 0x1046289041041241041241041247) [] (.call (.ref 167) ⟨[.ref o,.str eI (t1+0)],[(bK,.bool true)]⟩) [] [] 0 1 ?_
 intro bW h2 N2 t2 Rp dK
 refine gQ x (A.under _) hh (by show A.depth+1<600;exact oS hA) _ _ (nz x) _ _ _ _ _ _ _ _ _ Rp fun h' N' t' Rp=>?_
 refine ab hh Rp [] 17 (dA 0x86) [] Flow.next [] [.u fun _=>oC (some (.str eI (t1+0)))] 0 0 ?_
 intro cC h3 N3 t3 Rp
 show wpAny _ _ (aj ..) ..
 refine aa hh Rp [] 43 (dA 0x6201208281249041049041041247) (dM 15) (.compStart (oX x) 0 (.ref (N3+0)) (.ref (N3+1)) (fc (gP (envOf (fdOf x.B 205) 205 (M+289+0)) [(bK,M+289+1)]) (oX x) (N3+2) [(bK,M+289+1)])) [(N3+2,oD #[] 0),(N3+1,oL #[] 0),(N3+0,oI "list_iterator" #[.ref l,.int 0 0])] [] 3 1 ?_
 intro db h4 N4 t4 Rp gr
 refine bP (by rfl') Rp 2 rfl ?_
 refine aX hh Rp [] 249 (dA 0x61082c82080480490514414514460861082c82080480490504014104060861082c82080481c31c704f3c13cf3c604904f3c13cf3c60861082c82080481c31c704e38138e38604904e38138e3860861082c8208048) (dM 4) (.ok .next) [] [.u fun _=>oD #[En x.B n8 (t4+0) (.ref a3)] 1,.u fun _=>oL #[.str (S [48]) v0,.str (S [49]) v1] 2,.d,.k,.k,.d,.d,.d,.d,.d,.d,.d] 2 14 ?_
 intro dv h5 N5 t5 Rp
 show wpAny ..
 refine ab hh Rp [] 16 (dA 0x2186) [] (Flow.ret (.ref (N3+1))) [] [.d,.k,.d,.d] 0 0 ?_
 intro eN h6 N6 t6 Rp
 exact K _ _ _ _ Rp
theorem yx(x:W2)(A:Around)(hh:A.handled=none)(hA:A.depth<500)(R:Result→Shared→Prop)(o D l a0 a1 a2 a3:Addr)(kl n u u0 u1 u2 u3 v0 v1 v2 v3:Nat)(N t:Nat)(h:Heap)(gl d os)(rest:ae)
 (Rp:Rep x.B N h ((l,an #[.ref a0,.ref a1,.ref a2,.ref a3] n)::(o,fQ D)::(D,fR x kl l)::(a0,aT [97,98] [48] u0 v0)::(a1,aT [65,66] [49] u1 v1)::(a2,aT [97] [50] u2 v2)::(a3,aT [65] [51] u3 v3)::rest) 0)
 (K:∀h' N' t' r,Rep x.B N' h' ((r,an #[.str (S [48]) v0,.str (S [49]) v1] 2)::rest) 0→R (.ok (.ret (.ref r))) ⟨h',gl,d,t',os⟩):
 codeAny (MB x.B) A (.call (.ref 205) ⟨[.ref o,.str (S [65,66]) u],[]⟩) R ⟨h,gl,d,t,os⟩:=by
 obtain⟨M,rfl⟩:=Nat.exists_eq_add_of_le' (show 289≤N from Rp.top)
 refine bE hh Rp (by exact sN hA) 21 (dA 0x860c7041) (am (fdOf x.B 205)) (gP (envOf (fdOf x.B 205) 205 (M+289+0)) [(bK,M+289+1)]) [(M+289+1,oC (some (.str (S [65,66]) u))),(M+289+0,oF #[En x.B eZ (t+0) (.ref o)] 1)] 2 1 (by rfl') ?_
 intro bT h1 N1 t1 Rp
 refine bS 1 ?_
 refine aa hh Rp [] 44 (dA 0x1046289041041241041241041247) [] (.call (.ref 167) ⟨[.ref o,.str ir (t1+0)],[(bK,.bool true)]⟩) [] [] 0 1 ?_
 intro bW h2 N2 t2 Rp dK
 refine gQ x (A.under _) hh (by show A.depth+1<600;exact oS hA) _ _ (iO x) _ _ _ _ _ _ _ _ _ Rp fun h' N' t' Rp=>?_
 refine ab hh Rp [] 17 (dA 0x86) [] Flow.next [] [.u fun _=>oC (some (.str ir (t1+0)))] 0 0 ?_
 intro cC h3 N3 t3 Rp
 show wpAny _ _ (aj ..) ..
 refine aa hh Rp [] 43 (dA 0x6201208281249041049041041247) (dM 15) (.compStart (oX x) 0 (.ref (N3+0)) (.ref (N3+1)) (fc (gP (envOf (fdOf x.B 205) 205 (M+289+0)) [(bK,M+289+1)]) (oX x) (N3+2) [(bK,M+289+1)])) [(N3+2,oD #[] 0),(N3+1,oL #[] 0),(N3+0,oI "list_iterator" #[.ref l,.int 0 0])] [] 3 1 ?_
 intro db h4 N4 t4 Rp gr
 refine bP (by rfl') Rp 2 rfl ?_
 refine aX hh Rp [] 249 (dA 0x61082c82080480490514414514460861082c82080480490504014104060861082c82080481c31c704f3c13cf3c604904f3c13cf3c60861082c82080481c31c704e38138e38604904e38138e3860861082c8208048) (dM 4) (.ok .next) [] [.u fun _=>oD #[En x.B n8 (t4+0) (.ref a3)] 1,.u fun _=>oL #[.str (S [48]) v0,.str (S [49]) v1] 2,.d,.k,.k,.d,.d,.d,.d,.d,.d,.d] 2 14 ?_
 intro dv h5 N5 t5 Rp
 show wpAny ..
 refine ab hh Rp [] 16 (dA 0x2186) [] (Flow.ret (.ref (N3+1))) [] [.d,.k,.d,.d] 0 0 ?_
 intro eN h6 N6 t6 Rp
 exact K _ _ _ _ Rp
theorem yw(x:W2)(A:Around)(hh:A.handled=none)(hA:A.depth<500)(R:Result→Shared→Prop)(o D l a0 a1 a2 a3:Addr)(kl n u u0 u1 u2 u3 v0 v1 v2 v3:Nat)(N t:Nat)(h:Heap)(gl d os)(rest:ae)
 (Rp:Rep x.B N h ((l,an #[.ref a0,.ref a1,.ref a2,.ref a3] n)::(o,fQ D)::(D,fR x kl l)::(a0,aT [97] [48] u0 v0)::(a1,aT [65,66] [49] u1 v1)::(a2,aT [97] [50] u2 v2)::(a3,aT [65,66] [51] u3 v3)::rest) 0)
 (K:∀h' N' t' r,Rep x.B N' h' ((r,an #[.str (S [48]) v0,.str (S [50]) v2] 2)::rest) 0→R (.ok (.ret (.ref r))) ⟨h',gl,d,t',os⟩):
 codeAny (MB x.B) A (.call (.ref 205) ⟨[.ref o,.str (S [65]) u],[]⟩) R ⟨h,gl,d,t,os⟩:=by
 obtain⟨M,rfl⟩:=Nat.exists_eq_add_of_le' (show 289≤N from Rp.top)
 refine bE hh Rp (by exact sN hA) 21 (dA 0x860c7041) (am (fdOf x.B 205)) (gP (envOf (fdOf x.B 205) 205 (M+289+0)) [(bK,M+289+1)]) [(M+289+1,oC (some (.str (S [65]) u))),(M+289+0,oF #[En x.B eZ (t+0) (.ref o)] 1)] 2 1 (by rfl') ?_
 intro bT h1 N1 t1 Rp
 refine bS 1 ?_
 refine aa hh Rp [] 44 (dA 0x1046289041041241041241041247) [] (.call (.ref 167) ⟨[.ref o,.str eI (t1+0)],[(bK,.bool true)]⟩) [] [] 0 1 ?_
 intro bW h2 N2 t2 Rp dK
 refine gQ x (A.under _) hh (by show A.depth+1<600;exact oS hA) _ _ (nz x) _ _ _ _ _ _ _ _ _ Rp fun h' N' t' Rp=>?_
 refine ab hh Rp [] 17 (dA 0x86) [] Flow.next [] [.u fun _=>oC (some (.str eI (t1+0)))] 0 0 ?_
 intro cC h3 N3 t3 Rp
 show wpAny _ _ (aj ..) ..
 refine aa hh Rp [] 43 (dA 0x6201208281249041049041041247) (dM 15) (.compStart (oX x) 0 (.ref (N3+0)) (.ref (N3+1)) (fc (gP (envOf (fdOf x.B 205) 205 (M+289+0)) [(bK,M+289+1)]) (oX x) (N3+2) [(bK,M+289+1)])) [(N3+2,oD #[] 0),(N3+1,oL #[] 0),(N3+0,oI "list_iterator" #[.ref l,.int 0 0])] [] 3 1 ?_
 intro db h4 N4 t4 Rp gr
 refine bP (by rfl') Rp 2 rfl ?_
 refine aX hh Rp [] 249 (dA 0x61082c82080480490514414514460861082c82080481c31c70504014104060490504014104060861082c820804804904f3c13cf3c60861082c82080481c31c704e38138e38604904e38138e3860861082c8208048) (dM 4) (.ok .next) [] [.u fun _=>oD #[En x.B n8 (t4+0) (.ref a3)] 1,.u fun _=>oL #[.str (S [48]) v0,.str (S [50]) v2] 2,.d,.k,.k,.d,.d,.d,.d,.d,.d,.d] 2 14 ?_
 intro dv h5 N5 t5 Rp
 show wpAny ..
 refine ab hh Rp [] 16 (dA 0x2186) [] (Flow.ret (.ref (N3+1))) [] [.d,.k,.d,.d] 0 0 ?_
 intro eN h6 N6 t6 Rp
 exact K _ _ _ _ Rp
theorem yv(x:W2)(A:Around)(hh:A.handled=none)(hA:A.depth<500)(R:Result→Shared→Prop)(o D l a0 a1 a2 a3:Addr)(kl n u u0 u1 u2 u3 v0 v1 v2 v3:Nat)(N t:Nat)(h:Heap)(gl d os)(rest:ae)
 (Rp:Rep x.B N h ((l,an #[.ref a0,.ref a1,.ref a2,.ref a3] n)::(o,fQ D)::(D,fR x kl l)::(a0,aT [97,98] [48] u0 v0)::(a1,aT [65] [49] u1 v1)::(a2,aT [97,98] [50] u2 v2)::(a3,aT [65] [51] u3 v3)::rest) 0)
 (K:∀h' N' t' r,Rep x.B N' h' ((r,an #[.str (S [48]) v0,.str (S [50]) v2] 2)::rest) 0→R (.ok (.ret (.ref r))) ⟨h',gl,d,t',os⟩):
 codeAny (MB x.B) A (.call (.ref 205) ⟨[.ref o,.str (S [65,66]) u],[]⟩) R ⟨h,gl,d,t,os⟩:=by
 obtain⟨M,rfl⟩:=Nat.exists_eq_add_of_le' (show 289≤N from Rp.top)
 refine bE hh Rp (by exact sN hA) 21 (dA 0x860c7041) (am (fdOf x.B 205)) (gP (envOf (fdOf x.B 205) 205 (M+289+0)) [(bK,M+289+1)]) [(M+289+1,oC (some (.str (S [65,66]) u))),(M+289+0,oF #[En x.B eZ (t+0) (.ref o)] 1)] 2 1 (by rfl') ?_
 intro bT h1 N1 t1 Rp
 refine bS 1 ?_
 refine aa hh Rp [] 44 (dA 0x1046289041041241041241041247) [] (.call (.ref 167) ⟨[.ref o,.str ir (t1+0)],[(bK,.bool true)]⟩) [] [] 0 1 ?_
 intro bW h2 N2 t2 Rp dK
 refine gQ x (A.under _) hh (by show A.depth+1<600;exact oS hA) _ _ (iO x) _ _ _ _ _ _ _ _ _ Rp fun h' N' t' Rp=>?_
 refine ab hh Rp [] 17 (dA 0x86) [] Flow.next [] [.u fun _=>oC (some (.str ir (t1+0)))] 0 0 ?_
 intro cC h3 N3 t3 Rp
 show wpAny _ _ (aj ..) ..
 refine aa hh Rp [] 43 (dA 0x6201208281249041049041041247) (dM 15) (.compStart (oX x) 0 (.ref (N3+0)) (.ref (N3+1)) (fc (gP (envOf (fdOf x.B 205) 205 (M+289+0)) [(bK,M+289+1)]) (oX x) (N3+2) [(bK,M+289+1)])) [(N3+2,oD #[] 0),(N3+1,oL #[] 0),(N3+0,oI "list_iterator" #[.ref l,.int 0 0])] [] 3 1 ?_
 intro db h4 N4 t4 Rp gr
 refine bP (by rfl') Rp 2 rfl ?_
 refine aX hh Rp [] 249 (dA 0x61082c82080480490514414514460861082c82080481c31c70504014104060490504014104060861082c820804804904f3c13cf3c60861082c82080481c31c704e38138e38604904e38138e3860861082c8208048) (dM 4) (.ok .next) [] [.u fun _=>oD #[En x.B n8 (t4+0) (.ref a3)] 1,.u fun _=>oL #[.str (S [48]) v0,.str (S [50]) v2] 2,.d,.k,.k,.d,.d,.d,.d,.d,.d,.d] 2 14 ?_
 intro dv h5 N5 t5 Rp
 show wpAny ..
 refine ab hh Rp [] 16 (dA 0x2186) [] (Flow.ret (.ref (N3+1))) [] [.d,.k,.d,.d] 0 0 ?_
 intro eN h6 N6 t6 Rp
 exact K _ _ _ _ Rp
theorem yu(x:W2)(A:Around)(hh:A.handled=none)(hA:A.depth<500)(R:Result→Shared→Prop)(o D l a0 a1 a2 a3:Addr)(kl n u u0 u1 u2 u3 v0 v1 v2 v3:Nat)(N t:Nat)(h:Heap)(gl d os)(rest:ae)
 (Rp:Rep x.B N h ((l,an #[.ref a0,.ref a1,.ref a2,.ref a3] n)::(o,fQ D)::(D,fR x kl l)::(a0,aT [97] [48] u0 v0)::(a1,aT [65,66] [49] u1 v1)::(a2,aT [97,98] [50] u2 v2)::(a3,aT [65] [51] u3 v3)::rest) 0)
 (K:∀h' N' t' r,Rep x.B N' h' ((r,an #[.str (S [48]) v0,.str (S [51]) v3] 2)::rest) 0→R (.ok (.ret (.ref r))) ⟨h',gl,d,t',os⟩):
 codeAny (MB x.B) A (.call (.ref 205) ⟨[.ref o,.str (S [65]) u],[]⟩) R ⟨h,gl,d,t,os⟩:=by
 obtain⟨M,rfl⟩:=Nat.exists_eq_add_of_le' (show 289≤N from Rp.top)
 refine bE hh Rp (by exact sN hA) 21 (dA 0x860c7041) (am (fdOf x.B 205)) (gP (envOf (fdOf x.B 205) 205 (M+289+0)) [(bK,M+289+1)]) [(M+289+1,oC (some (.str (S [65]) u))),(M+289+0,oF #[En x.B eZ (t+0) (.ref o)] 1)] 2 1 (by rfl') ?_
 intro bT h1 N1 t1 Rp
 refine bS 1 ?_
 refine aa hh Rp [] 44 (dA 0x1046289041041241041241041247) [] (.call (.ref 167) ⟨[.ref o,.str eI (t1+0)],[(bK,.bool true)]⟩) [] [] 0 1 ?_
 intro bW h2 N2 t2 Rp dK
 refine gQ x (A.under _) hh (by show A.depth+1<600;exact oS hA) _ _ (nz x) _ _ _ _ _ _ _ _ _ Rp fun h' N' t' Rp=>?_
 refine ab hh Rp [] 17 (dA 0x86) [] Flow.next [] [.u fun _=>oC (some (.str eI (t1+0)))] 0 0 ?_
 intro cC h3 N3 t3 Rp
 show wpAny _ _ (aj ..) ..
 refine aa hh Rp [] 43 (dA 0x6201208281249041049041041247) (dM 15) (.compStart (oX x) 0 (.ref (N3+0)) (.ref (N3+1)) (fc (gP (envOf (fdOf x.B 205) 205 (M+289+0)) [(bK,M+289+1)]) (oX x) (N3+2) [(bK,M+289+1)])) [(N3+2,oD #[] 0),(N3+1,oL #[] 0),(N3+0,oI "list_iterator" #[.ref l,.int 0 0])] [] 3 1 ?_
 intro db h4 N4 t4 Rp gr
 refine bP (by rfl') Rp 2 rfl ?_
 refine aX hh Rp [] 249 (dA 0x61082c82080481c31c70514414514460490514414514460861082c82080480490504014104060861082c820804804904f3c13cf3c60861082c82080481c31c704e38138e38604904e38138e3860861082c8208048) (dM 4) (.ok .next) [] [.u fun _=>oD #[En x.B n8 (t4+0) (.ref a3)] 1,.u fun _=>oL #[.str (S [48]) v0,.str (S [51]) v3] 2,.d,.k,.k,.d,.d,.d,.d,.d,.d,.d] 2 14 ?_
 intro dv h5 N5 t5 Rp
 show wpAny ..
 refine ab hh Rp [] 16 (dA 0x2186) [] (Flow.ret (.ref (N3+1))) [] [.d,.k,.d,.d] 0 0 ?_
 intro eN h6 N6 t6 Rp
 exact K _ _ _ _ Rp
theorem yt(x:W2)(A:Around)(hh:A.handled=none)(hA:A.depth<500)(R:Result→Shared→Prop)(o D l a0 a1 a2 a3:Addr)(kl n u u0 u1 u2 u3 v0 v1 v2 v3:Nat)(N t:Nat)(h:Heap)(gl d os)(rest:ae)
 (Rp:Rep x.B N h ((l,an #[.ref a0,.ref a1,.ref a2,.ref a3] n)::(o,fQ D)::(D,fR x kl l)::(a0,aT [97,98] [48] u0 v0)::(a1,aT [65] [49] u1 v1)::(a2,aT [97] [50] u2 v2)::(a3,aT [65,66] [51] u3 v3)::rest) 0)
 (K:∀h' N' t' r,Rep x.B N' h' ((r,an #[.str (S [48]) v0,.str (S [51]) v3] 2)::rest) 0→R (.ok (.ret (.ref r))) ⟨h',gl,d,t',os⟩):
 codeAny (MB x.B) A (.call (.ref 205) ⟨[.ref o,.str (S [65,66]) u],[]⟩) R ⟨h,gl,d,t,os⟩:=by
 obtain⟨M,rfl⟩:=Nat.exists_eq_add_of_le' (show 289≤N from Rp.top)
 refine bE hh Rp (by exact sN hA) 21 (dA 0x860c7041) (am (fdOf x.B 205)) (gP (envOf (fdOf x.B 205) 205 (M+289+0)) [(bK,M+289+1)]) [(M+289+1,oC (some (.str (S [65,66]) u))),(M+289+0,oF #[En x.B eZ (t+0) (.ref o)] 1)] 2 1 (by rfl') ?_
 intro bT h1 N1 t1 Rp
 refine bS 1 ?_
 refine aa hh Rp [] 44 (dA 0x1046289041041241041241041247) [] (.call (.ref 167) ⟨[.ref o,.str ir (t1+0)],[(bK,.bool true)]⟩) [] [] 0 1 ?_
 intro bW h2 N2 t2 Rp dK
 refine gQ x (A.under _) hh (by show A.depth+1<600;exact oS hA) _ _ (iO x) _ _ _ _ _ _ _ _ _ Rp fun h' N' t' Rp=>?_
 refine ab hh Rp [] 17 (dA 0x86) [] Flow.next [] [.u fun _=>oC (some (.str ir (t1+0)))] 0 0 ?_
 intro cC h3 N3 t3 Rp
 show wpAny _ _ (aj ..) ..
 refine aa hh Rp [] 43 (dA 0x6201208281249041049041041247) (dM 15) (.compStart (oX x) 0 (.ref (N3+0)) (.ref (N3+1)) (fc (gP (envOf (fdOf x.B 205) 205 (M+289+0)) [(bK,M+289+1)]) (oX x) (N3+2) [(bK,M+289+1)])) [(N3+2,oD #[] 0),(N3+1,oL #[] 0),(N3+0,oI "list_iterator" #[.ref l,.int 0 0])] [] 3 1 ?_
 intro db h4 N4 t4 Rp gr
 refine bP (by rfl') Rp 2 rfl ?_
 refine aX hh Rp [] 249 (dA 0x61082c82080481c31c70514414514460490514414514460861082c82080480490504014104060861082c820804804904f3c13cf3c60861082c82080481c31c704e38138e38604904e38138e3860861082c8208048) (dM 4) (.ok .next) [] [.u fun _=>oD #[En x.B n8 (t4+0) (.ref a3)] 1,.u fun _=>oL #[.str (S [48]) v0,.str (S [51]) v3] 2,.d,.k,.k,.d,.d,.d,.d,.d,.d,.d] 2 14 ?_
 intro dv h5 N5 t5 Rp
 show wpAny ..
 refine ab hh Rp [] 16 (dA 0x2186) [] (Flow.ret (.ref (N3+1))) [] [.d,.k,.d,.d] 0 0 ?_
 intro eN h6 N6 t6 Rp
 exact K _ _ _ _ Rp
theorem AA(bb:Bool)(x:W2)(A:Around)(hh:A.handled=none)(hA:A.depth<320)(R:Result→Shared→Prop)(F cb e it ll o dh hl pc b:Addr)(k8 k9 v9 bB bV bU kl w0 w1 w2 w3 nl np nh:Nat)(ks kc kp up kd ud k1 v1 k2 v2 k3 k4 k5 k6 k7 v7:Nat)(P D sg sd CN:Int)(wd td el cl:Addr)(sl:Array (Option Value))(old:Value)(ps fC:Array Value)(kJ:ps.size<60)(fG:fC.size<60)(l0 l1 l2 l3:List Nat)(il:IsL l0)(hw:bG x 132 l0)(hv:bG x 137 [48])(ic:eO [l0,l1,l2,l3] l0 0)
 (c0 c1 c2 c3 c4 c5:Int) (u0 u1 u2 u3 u4 u5 nc r:Nat) (h0:0≤c0) (gN:r<4) (hr:(c0/96+0)%4=r)
 (N t:Nat) (h:Heap) (gl d os) (rest:ae)
 (Rp:Rep x.B N h ((e,bf .none (.ref it) ((0:Nat):Int) old)::(it,aD ll ((0:Nat):Int))::(ll,iI l0 l1 l2 l3 w0 w1 w2 w3 nl)::(cl,an #[.int c0 u0,.int c1 u1,.int c2 u2,.int c3 u3,.int c4 u4,.int c5 u5] nc)::(pc,an ps np)::(hl,an fC nh)::(o,fQ dh)::(dh,fR x kl hl)::(F,eQ bb x ks kc cl k1 sg v1 k2 sd v2 k3 wd k4 td k5 wd k6 el k7 CN v7 kd D ud kp P up (fY x k8 b k9 v9 bB ll bU pc bV o []) (cond bb 16 15) sl)::rest) 0)
 (K:∀h' N' t' kp up cf ca ce b9 a wa va wp,Rep x.B N' h' ((e,bf .none (.ref it) ((1:Nat):Int) (.str (S l0) w0))::(it,aD ll ((1:Nat):Int))::(ll,iI l0 l1 l2 l3 w0 w1 w2 w3 nl)::(cl,an #[.int c0 u0,.int c1 u1,.int c2 u2,.int c3 u3,.int c4 u4,.int c5 u5] nc)::(pc,an (ps.push (.str (S (bj r++[40])) wp)) (np+1))::(hl,an (fC.push (.ref a)) (nh+1))::(o,fQ dh)::(dh,fR x kl hl)::(F,eQ bb x ks kc cl k1 sg v1 k2 sd v2 k3 wd k4 td k5 wd k6 el k7 CN v7 kd D ud kp 0 up (fY x k8 b k9 v9 bB ll bU pc bV o [En x.B aw cf (.str (S l0) ca),En x.B az ce (.str (S (bj r)) b9)]) (cond bb 18 17) sl)::(a,aT l0 [48] wa va)::rest) 0→codeAny (MB x.B) A (ai (ah x.B 287 11) (.ref e) (au x F cb)) R ⟨h',gl,d,t',os⟩):
 codeAny (MB x.B) A (ai (ah x.B 287 11) (.ref e) (au x F cb)) R ⟨h,gl,d,t,os⟩:=by
 let sb:=bb
 cases bb
 all_goals
  obtain⟨q,hq⟩:∃q,c0/96=q:=⟨_,rfl⟩
  rw[hq] at hr
  refine bZ (bh ⟨_,Rp.at (n:=0) rfl,rfl⟩ PySem.F.slot_enumerate_next (fA hh old Rp (by rfl) fun qk za vi yS jJ Rp=>?_))
  refine cI (by rfl') Rp 1 rfl rfl fun sZ Rp=>?_
  refine ab hh Rp [] 71 (dA 0xe48e4860861c61860460861c61860460861c6186046186046186) (dM 8) () [] [.k,.k,.k,.k,.k,.k,.k,.k,.k,.u (dU [(cond sb 2 8,.int 0 jJ)] [En x.B aw (vi+1) (.str (S l0) w0)] (cond sb 17 16))] 3 2 ?_
  intro bT h1 N1 t1 Rp
  refine aa hh Rp [aI "int.__mod__" [.int 0 jJ,.int 2 (t1+0)] (0)] 68 (dA 0x104104104f0413c108f38d04104134104134104134f) [] (cR 263 [.ref o,.str (S l0) w0,.str (S [48]) (t1+2)]) [] [.d] 0 3 ?_ (aC (aG (by decide) (by rw[Int.fmod_eq_emod_of_nonneg _ (by decide)];decide)) aN)
  intro bW h2 N2 t2 Rp dK
  refine j8 x (A.under _) hh (by show A.depth+0<500;exact vW hA) _ _ _ _ _ _ _ (by exact vV fG) _ _ hw hv _ _ _ _ _ _ _ _ _ (((Rp.mov 5 0).mov 6 1).mov 7 2) fun sY kj c8 yR Rp=>?_
  show wpAny ..
  have Rp:=(((Rp.mov 0 9).mov 0 7).mov 0 7).mov 0 7
  refine aa hh Rp [aI "int.__floordiv__" [.int (c0) u0,.int 96 (c8+5)] (q),aI "int.__mod__" [.int (q+0) (c8+7),.int 4 (c8+8)] ((r:Int))] 48 (dA 0x18618304f08a28128a28f) (dM 3) (cB "tuple.__getitem__" [.ref (kj+0),.int ((↑r:Int)) (c8+9)]) [(kj+0,oT #[.str (S []) (c8+0),.str (S [92,41]) (c8+1),.str (S [34,92,34,40,34]) (c8+2),.str (S [92,34]) (c8+3)])] [] 1 10 ?_ (aC (da (by decide) (by first|assumption|decide|rfl) (by first|assumption|(rw[Int.fdiv_eq_ediv_of_nonneg _ (by decide)];exact vU hq))) (aC (aG (by decide) (by rw[Int.fmod_eq_emod_of_nonneg _ (by decide)];exact Hg hr)) aN))
  intro cC h3 N3 t3 Rp eD
  refine jQ x hh (w:=fun i=>c8+i) gN Rp fun qi qP oG Rp=>?_
  show wpAny ..
  refine aa hh Rp [] 42 (dA 0xe20820838e28a28a38a381) [] (cB "list.index" [.ref ll,.str (S l0) w0]) [] [.k,.k,.k,.k,.k,.k,.k,.k,.u (dU [] [En x.B az (oG+0) (.str (S (bj r)) (c8+r))] (cond sb 18 17))] 0 1 ?_
  intro db h4 N4 t4 Rp gr
  refine fr x Rp 2 rfl ic ?_
  show wpAny ..
  refine aa hh Rp [] 22 (dA 0x4e) [] (cB "str.__add__" [.str (S (bj r)) (c8+r),.str (S [40]) (t4+1+0)]) [] [] 0 1 ?_
  intro dv h5 N5 t5 Rp mU
  refine ik x hh Rp gN (.inl rfl) fun qh qO o7 o3 Rp=>?_
  show wpAny ..
  refine aa hh Rp [] 12 (dA 0x0) [] (cB "list.append" [.ref pc,.str (S (bj r++[40])) o3]) [] [] 0 0 ?_
  intro eN h6 N6 t6 Rp j4
  refine bn Rp 4 rfl (by exact jt kJ) rfl fun yn Rp=>?_
  show wpAny ..
  refine ab hh Rp [] 12 (dA 0x0) [] Flow.next [] [] 0 0 ?_
  intro ie h7 N7 t7 Rp
  exact K _ _ _ _ _ _ _ _ _ _ _ _ _ Rp
theorem Az(bb:Bool)(x:W2)(A:Around)(hh:A.handled=none)(hA:A.depth<320)(R:Result→Shared→Prop)(F cb e it ll o dh hl pc b:Addr)(k8 k9 v9 bB bV bU kl w0 w1 w2 w3 nl np nh:Nat)(ks kc kp up kd ud k1 v1 k2 v2 k3 k4 k5 k6 k7 v7:Nat)(P D sg sd CN:Int)(wd td el cl:Addr)(sl:Array (Option Value))(lp:List Nat)(rp cf ca ce b9:Nat)(old:Value)(ps fC:Array Value)(kJ:ps.size<60)(fG:fC.size<60)(l0 l1 l2 l3:List Nat)(il:IsL l1)(hw:bG x 132 (fU l1))(hv:bG x 137 [49])(ic:eO [l0,l1,l2,l3] l1 1)
 (c0 c1 c2 c3 c4 c5:Int) (u0 u1 u2 u3 u4 u5 nc r:Nat) (h0:0≤c0) (gN:r<4) (hr:(c0/96+1)%4=r)
 (N t:Nat) (h:Heap) (gl d os) (rest:ae)
 (Rp:Rep x.B N h ((e,bf .none (.ref it) ((1:Nat):Int) old)::(it,aD ll ((1:Nat):Int))::(ll,iI l0 l1 l2 l3 w0 w1 w2 w3 nl)::(cl,an #[.int c0 u0,.int c1 u1,.int c2 u2,.int c3 u3,.int c4 u4,.int c5 u5] nc)::(pc,an ps np)::(hl,an fC nh)::(o,fQ dh)::(dh,fR x kl hl)::(F,eQ bb x ks kc cl k1 sg v1 k2 sd v2 k3 wd k4 td k5 wd k6 el k7 CN v7 kd D ud kp 0 up (fY x k8 b k9 v9 bB ll bU pc bV o [En x.B aw cf (.str (S lp) ca),En x.B az ce (.str (S (bj rp)) b9)]) (cond bb 18 17) sl)::rest) 0)
 (K:∀h' N' t' kp up cf ca ce b9 a wa va wp,Rep x.B N' h' ((e,bf .none (.ref it) ((2:Nat):Int) (.str (S l1) w1))::(it,aD ll ((2:Nat):Int))::(ll,iI l0 l1 l2 l3 w0 w1 w2 w3 nl)::(cl,an #[.int c0 u0,.int c1 u1,.int c2 u2,.int c3 u3,.int c4 u4,.int c5 u5] nc)::(pc,an (ps.push (.str (S (bj r++[40])) wp)) (np+1))::(hl,an (fC.push (.ref a)) (nh+1))::(o,fQ dh)::(dh,fR x kl hl)::(F,eQ bb x ks kc cl k1 sg v1 k2 sd v2 k3 wd k4 td k5 wd k6 el k7 CN v7 kd D ud kp 1 up (fY x k8 b k9 v9 bB ll bU pc bV o [En x.B aw cf (.str (S l1) ca),En x.B az ce (.str (S (bj r)) b9)]) (cond bb 18 17) sl)::(a,aT (fU l1) [49] wa va)::rest) 0→codeAny (MB x.B) A (ai (ah x.B 287 11) (.ref e) (au x F cb)) R ⟨h',gl,d,t',os⟩):
 codeAny (MB x.B) A (ai (ah x.B 287 11) (.ref e) (au x F cb)) R ⟨h,gl,d,t,os⟩:=by
 let sb:=bb
 cases bb
 all_goals
  obtain⟨q,hq⟩:∃q,c0/96=q:=⟨_,rfl⟩
  rw[hq] at hr
  refine bZ (bh ⟨_,Rp.at (n:=0) rfl,rfl⟩ PySem.F.slot_enumerate_next (fA hh old Rp (by rfl) fun qk za vi yS jJ Rp=>?_))
  refine cI (by rfl') Rp 1 rfl rfl fun sZ Rp=>?_
  refine ab hh Rp [] 71 (dA 0xe48e4860861c61860460861c61860460861c6186046186046186) (dM 8) () [] [.k,.k,.k,.k,.k,.k,.k,.k,.k,.u (dU [(cond sb 2 8,.int 1 jJ),(cond sb 16 15,.str (S l1) w1)] [] (cond sb 18 17))] 3 2 ?_
  intro bT h1 N1 t1 Rp
  refine aa hh Rp [aI "int.__mod__" [.int 1 jJ,.int 2 (t1+0)] (1)] 45 (dA 0x3c108f38d04104134104134104134f) [] (cB "str.upper" [.str (S l1) w1]) [] [.d] 0 2 ?_ (aC (aG (by decide) (by rw[Int.fmod_eq_emod_of_nonneg _ (by decide)];decide)) aN)
  intro bW h2 N2 t2 Rp dK
  refine gk x hh Rp il fun qj qQ o8 o4 Rp=>?_
  show wpAny ..
  refine aa hh Rp [] 38 (dA 0x104104104e041) [] (cR 263 [.ref o,.str (S (fU l1)) o4,.str (S [49]) (o8+0)]) [] [] 0 1 ?_
  intro cC h3 N3 t3 Rp eD
  refine j8 x (A.under _) hh (by show A.depth+0<500;exact vW hA) _ _ _ _ _ _ _ (by exact vV fG) _ _ hw hv _ _ _ _ _ _ _ _ _ (((Rp.mov 5 0).mov 6 1).mov 7 2) fun sY kj c8 yR Rp=>?_
  show wpAny ..
  have Rp:=(((Rp.mov 0 9).mov 0 7).mov 0 7).mov 0 7
  refine aa hh Rp [aI "int.__floordiv__" [.int (c0) u0,.int 96 (c8+5)] (q),aI "int.__mod__" [.int (q+1) (c8+7),.int 4 (c8+8)] ((r:Int))] 48 (dA 0x18618304f08a28128a28f) (dM 3) (cB "tuple.__getitem__" [.ref (kj+0),.int ((↑r:Int)) (c8+9)]) [(kj+0,oT #[.str (S []) (c8+0),.str (S [92,41]) (c8+1),.str (S [34,92,34,40,34]) (c8+2),.str (S [92,34]) (c8+3)])] [] 1 10 ?_ (aC (da (by decide) (by first|assumption|decide|rfl) (by first|assumption|(rw[Int.fdiv_eq_ediv_of_nonneg _ (by decide)];exact vU hq))) (aC (aG (by decide) (by rw[Int.fmod_eq_emod_of_nonneg _ (by decide)];exact FS hr)) aN))
  intro db h4 N4 t4 Rp gr
  refine jQ x hh (w:=fun i=>c8+i) gN Rp fun qi qP oG Rp=>?_
  show wpAny ..
  refine aa hh Rp [] 42 (dA 0xe20820838e28a28a38a381) [] (cB "list.index" [.ref ll,.str (S l1) w1]) [] [.k,.k,.k,.k,.k,.k,.k,.k,.u (dU [(cond sb 17 16,.str (S (bj r)) (c8+r))] [] (cond sb 18 17))] 0 1 ?_
  intro dv h5 N5 t5 Rp mU
  refine fr x Rp 2 rfl ic ?_
  show wpAny ..
  refine aa hh Rp [] 22 (dA 0x4e) [] (cB "str.__add__" [.str (S (bj r)) (c8+r),.str (S [40]) (t5+1+0)]) [] [] 0 1 ?_
  intro eN h6 N6 t6 Rp j4
  refine ik x hh Rp gN (.inl rfl) fun qh qO o7 o3 Rp=>?_
  show wpAny ..
  refine aa hh Rp [] 12 (dA 0x0) [] (cB "list.append" [.ref pc,.str (S (bj r++[40])) o3]) [] [] 0 0 ?_
  intro ie h7 N7 t7 Rp sT
  refine bn Rp 4 rfl (by exact jt kJ) rfl fun yn Rp=>?_
  show wpAny ..
  refine ab hh Rp [] 12 (dA 0x0) [] Flow.next [] [] 0 0 ?_
  intro iG h8 N8 t8 Rp
  exact K _ _ _ _ _ _ _ _ _ _ _ _ _ Rp
theorem Ay(bb:Bool)(x:W2)(A:Around)(hh:A.handled=none)(hA:A.depth<320)(R:Result→Shared→Prop)(F cb e it ll o dh hl pc b:Addr)(k8 k9 v9 bB bV bU kl w0 w1 w2 w3 nl np nh:Nat)(ks kc kp up kd ud k1 v1 k2 v2 k3 k4 k5 k6 k7 v7:Nat)(P D sg sd CN:Int)(wd td el cl:Addr)(sl:Array (Option Value))(lp:List Nat)(rp cf ca ce b9:Nat)(old:Value)(ps fC:Array Value)(kJ:ps.size<60)(fG:fC.size<60)(l0 l1 l2 l3:List Nat)(il:IsL l1)(hw:bG x 132 (fU l1))(hv:bG x 137 [49])(k:Nat)(hk:k<1)(ic:eO [l0,l1,l2,l3] l1 k)
 (c0 c1 c2 c3 c4 c5:Int) (u0 u1 u2 u3 u4 u5 nc r:Nat) (h0:0≤c0) (gN:r<4) (hr:(c0/96+1)%4=r)
 (N t:Nat) (h:Heap) (gl d os) (rest:ae)
 (Rp:Rep x.B N h ((e,bf .none (.ref it) ((1:Nat):Int) old)::(it,aD ll ((1:Nat):Int))::(ll,iI l0 l1 l2 l3 w0 w1 w2 w3 nl)::(cl,an #[.int c0 u0,.int c1 u1,.int c2 u2,.int c3 u3,.int c4 u4,.int c5 u5] nc)::(pc,an ps np)::(hl,an fC nh)::(o,fQ dh)::(dh,fR x kl hl)::(F,eQ bb x ks kc cl k1 sg v1 k2 sd v2 k3 wd k4 td k5 wd k6 el k7 CN v7 kd D ud kp 0 up (fY x k8 b k9 v9 bB ll bU pc bV o [En x.B aw cf (.str (S lp) ca),En x.B az ce (.str (S (bj rp)) b9)]) (cond bb 18 17) sl)::rest) 0)
 (K:∀h' N' t' kp up cf ca ce b9 a wa va wp,Rep x.B N' h' ((e,bf .none (.ref it) ((2:Nat):Int) (.str (S l1) w1))::(it,aD ll ((2:Nat):Int))::(ll,iI l0 l1 l2 l3 w0 w1 w2 w3 nl)::(cl,an #[.int c0 u0,.int c1 u1,.int c2 u2,.int c3 u3,.int c4 u4,.int c5 u5] nc)::(pc,an (ps.push (.str (S (bj r++[41])) wp)) (np+1))::(hl,an (fC.push (.ref a)) (nh+1))::(o,fQ dh)::(dh,fR x kl hl)::(F,eQ bb x ks kc cl k1 sg v1 k2 sd v2 k3 wd k4 td k5 wd k6 el k7 CN v7 kd D ud kp 1 up (fY x k8 b k9 v9 bB ll bU pc bV o [En x.B aw cf (.str (S l1) ca),En x.B az ce (.str (S (bj r)) b9)]) (cond bb 18 17) sl)::(a,aT (fU l1) [49] wa va)::rest) 0→codeAny (MB x.B) A (ai (ah x.B 287 11) (.ref e) (au x F cb)) R ⟨h',gl,d,t',os⟩):
 codeAny (MB x.B) A (ai (ah x.B 287 11) (.ref e) (au x F cb)) R ⟨h,gl,d,t,os⟩:=by
 let sb:=bb
 cases bb
 all_goals
  obtain⟨q,hq⟩:∃q,c0/96=q:=⟨_,rfl⟩
  rw[hq] at hr
  refine bZ (bh ⟨_,Rp.at (n:=0) rfl,rfl⟩ PySem.F.slot_enumerate_next (fA hh old Rp (by rfl) fun qk za vi yS jJ Rp=>?_))
  refine cI (by rfl') Rp 1 rfl rfl fun sZ Rp=>?_
  refine ab hh Rp [] 71 (dA 0xe48e4860861c61860460861c61860460861c6186046186046186) (dM 8) () [] [.k,.k,.k,.k,.k,.k,.k,.k,.k,.u (dU [(cond sb 2 8,.int 1 jJ),(cond sb 16 15,.str (S l1) w1)] [] (cond sb 18 17))] 3 2 ?_
  intro bT h1 N1 t1 Rp
  refine aa hh Rp [aI "int.__mod__" [.int 1 jJ,.int 2 (t1+0)] (1)] 45 (dA 0x3c108f38d04104134104134104134f) [] (cB "str.upper" [.str (S l1) w1]) [] [.d] 0 2 ?_ (aC (aG (by decide) (by rw[Int.fmod_eq_emod_of_nonneg _ (by decide)];decide)) aN)
  intro bW h2 N2 t2 Rp dK
  refine gk x hh Rp il fun qj qQ o8 o4 Rp=>?_
  show wpAny ..
  refine aa hh Rp [] 38 (dA 0x104104104e041) [] (cR 263 [.ref o,.str (S (fU l1)) o4,.str (S [49]) (o8+0)]) [] [] 0 1 ?_
  intro cC h3 N3 t3 Rp eD
  refine j8 x (A.under _) hh (by show A.depth+0<500;exact vW hA) _ _ _ _ _ _ _ (by exact vV fG) _ _ hw hv _ _ _ _ _ _ _ _ _ (((Rp.mov 5 0).mov 6 1).mov 7 2) fun sY kj c8 yR Rp=>?_
  show wpAny ..
  have Rp:=(((Rp.mov 0 9).mov 0 7).mov 0 7).mov 0 7
  refine aa hh Rp [aI "int.__floordiv__" [.int (c0) u0,.int 96 (c8+5)] (q),aI "int.__mod__" [.int (q+1) (c8+7),.int 4 (c8+8)] ((r:Int))] 48 (dA 0x18618304f08a28128a28f) (dM 3) (cB "tuple.__getitem__" [.ref (kj+0),.int ((↑r:Int)) (c8+9)]) [(kj+0,oT #[.str (S []) (c8+0),.str (S [92,41]) (c8+1),.str (S [34,92,34,40,34]) (c8+2),.str (S [92,34]) (c8+3)])] [] 1 10 ?_ (aC (da (by decide) (by first|assumption|decide|rfl) (by first|assumption|(rw[Int.fdiv_eq_ediv_of_nonneg _ (by decide)];exact vU hq))) (aC (aG (by decide) (by rw[Int.fmod_eq_emod_of_nonneg _ (by decide)];exact FS hr)) aN))
  intro db h4 N4 t4 Rp gr
  refine jQ x hh (w:=fun i=>c8+i) gN Rp fun qi qP oG Rp=>?_
  show wpAny ..
  refine aa hh Rp [] 42 (dA 0xe20820838e28a28a38a381) [] (cB "list.index" [.ref ll,.str (S l1) w1]) [] [.k,.k,.k,.k,.k,.k,.k,.k,.u (dU [(cond sb 17 16,.str (S (bj r)) (c8+r))] [] (cond sb 18 17))] 0 1 ?_
  intro dv h5 N5 t5 Rp mU
  refine fr x Rp 2 rfl ic ?_
  show wpAny ..
  refine aa hh Rp [aB "int.__eq__" [.int ((↑k:Int)) t5,.int 1 jJ] false] 20 (dA 0x8e) [] (cB "str.__add__" [.str (S (bj r)) (c8+r),.str (S [41]) (t5+1+0)]) [] [] 0 1 ?_ (aC (lP (decide_eq_false (by exact Hf hk))) aN)
  intro eN h6 N6 t6 Rp j4
  refine ik x hh Rp gN (.inr rfl) fun qh qO o7 o3 Rp=>?_
  show wpAny ..
  refine aa hh Rp [] 12 (dA 0x0) [] (cB "list.append" [.ref pc,.str (S (bj r++[41])) o3]) [] [] 0 0 ?_
  intro ie h7 N7 t7 Rp sT
  refine bn Rp 4 rfl (by exact jt kJ) rfl fun yn Rp=>?_
  show wpAny ..
  refine ab hh Rp [] 12 (dA 0x0) [] Flow.next [] [] 0 0 ?_
  intro iG h8 N8 t8 Rp
  exact K _ _ _ _ _ _ _ _ _ _ _ _ _ Rp
theorem Ax(bb:Bool)(x:W2)(A:Around)(hh:A.handled=none)(hA:A.depth<320)(R:Result→Shared→Prop)(F cb e it ll o dh hl pc b:Addr)(k8 k9 v9 bB bV bU kl w0 w1 w2 w3 nl np nh:Nat)(ks kc kp up kd ud k1 v1 k2 v2 k3 k4 k5 k6 k7 v7:Nat)(P D sg sd CN:Int)(wd td el cl:Addr)(sl:Array (Option Value))(lp:List Nat)(rp cf ca ce b9:Nat)(old:Value)(ps fC:Array Value)(kJ:ps.size<60)(fG:fC.size<60)(l0 l1 l2 l3:List Nat)(il:IsL l2)(hw:bG x 132 l2)(hv:bG x 137 [50])(ic:eO [l0,l1,l2,l3] l2 2)
 (c0 c1 c2 c3 c4 c5:Int) (u0 u1 u2 u3 u4 u5 nc r:Nat) (h0:0≤c0) (gN:r<4) (hr:(c0/96+2)%4=r)
 (N t:Nat) (h:Heap) (gl d os) (rest:ae)
 (Rp:Rep x.B N h ((e,bf .none (.ref it) ((2:Nat):Int) old)::(it,aD ll ((2:Nat):Int))::(ll,iI l0 l1 l2 l3 w0 w1 w2 w3 nl)::(cl,an #[.int c0 u0,.int c1 u1,.int c2 u2,.int c3 u3,.int c4 u4,.int c5 u5] nc)::(pc,an ps np)::(hl,an fC nh)::(o,fQ dh)::(dh,fR x kl hl)::(F,eQ bb x ks kc cl k1 sg v1 k2 sd v2 k3 wd k4 td k5 wd k6 el k7 CN v7 kd D ud kp 1 up (fY x k8 b k9 v9 bB ll bU pc bV o [En x.B aw cf (.str (S lp) ca),En x.B az ce (.str (S (bj rp)) b9)]) (cond bb 18 17) sl)::rest) 0)
 (K:∀h' N' t' kp up cf ca ce b9 a wa va wp,Rep x.B N' h' ((e,bf .none (.ref it) ((3:Nat):Int) (.str (S l2) w2))::(it,aD ll ((3:Nat):Int))::(ll,iI l0 l1 l2 l3 w0 w1 w2 w3 nl)::(cl,an #[.int c0 u0,.int c1 u1,.int c2 u2,.int c3 u3,.int c4 u4,.int c5 u5] nc)::(pc,an (ps.push (.str (S (bj r++[40])) wp)) (np+1))::(hl,an (fC.push (.ref a)) (nh+1))::(o,fQ dh)::(dh,fR x kl hl)::(F,eQ bb x ks kc cl k1 sg v1 k2 sd v2 k3 wd k4 td k5 wd k6 el k7 CN v7 kd D ud kp 2 up (fY x k8 b k9 v9 bB ll bU pc bV o [En x.B aw cf (.str (S l2) ca),En x.B az ce (.str (S (bj r)) b9)]) (cond bb 18 17) sl)::(a,aT l2 [50] wa va)::rest) 0→codeAny (MB x.B) A (ai (ah x.B 287 11) (.ref e) (au x F cb)) R ⟨h',gl,d,t',os⟩):
 codeAny (MB x.B) A (ai (ah x.B 287 11) (.ref e) (au x F cb)) R ⟨h,gl,d,t,os⟩:=by
 let sb:=bb
 cases bb
 all_goals
  obtain⟨q,hq⟩:∃q,c0/96=q:=⟨_,rfl⟩
  rw[hq] at hr
  refine bZ (bh ⟨_,Rp.at (n:=0) rfl,rfl⟩ PySem.F.slot_enumerate_next (fA hh old Rp (by rfl) fun qk za vi yS jJ Rp=>?_))
  refine cI (by rfl') Rp 1 rfl rfl fun sZ Rp=>?_
  refine ab hh Rp [] 71 (dA 0xe48e4860861c61860460861c61860460861c6186046186046186) (dM 8) () [] [.k,.k,.k,.k,.k,.k,.k,.k,.k,.u (dU [(cond sb 2 8,.int 2 jJ),(cond sb 16 15,.str (S l2) w2)] [] (cond sb 18 17))] 3 2 ?_
  intro bT h1 N1 t1 Rp
  refine aa hh Rp [aI "int.__mod__" [.int 2 jJ,.int 2 (t1+0)] (0)] 68 (dA 0x104104104f0413c108f38d04104134104134104134f) [] (cR 263 [.ref o,.str (S l2) w2,.str (S [50]) (t1+2)]) [] [.d] 0 3 ?_ (aC (aG (by decide) (by rw[Int.fmod_eq_emod_of_nonneg _ (by decide)];decide)) aN)
  intro bW h2 N2 t2 Rp dK
  refine j8 x (A.under _) hh (by show A.depth+0<500;exact vW hA) _ _ _ _ _ _ _ (by exact vV fG) _ _ hw hv _ _ _ _ _ _ _ _ _ (((Rp.mov 5 0).mov 6 1).mov 7 2) fun sY kj c8 yR Rp=>?_
  show wpAny ..
  have Rp:=(((Rp.mov 0 9).mov 0 7).mov 0 7).mov 0 7
  refine aa hh Rp [aI "int.__floordiv__" [.int (c0) u0,.int 96 (c8+5)] (q),aI "int.__mod__" [.int (q+2) (c8+7),.int 4 (c8+8)] ((r:Int))] 48 (dA 0x18618304f08a28128a28f) (dM 3) (cB "tuple.__getitem__" [.ref (kj+0),.int ((↑r:Int)) (c8+9)]) [(kj+0,oT #[.str (S []) (c8+0),.str (S [92,41]) (c8+1),.str (S [34,92,34,40,34]) (c8+2),.str (S [92,34]) (c8+3)])] [] 1 10 ?_ (aC (da (by decide) (by first|assumption|decide|rfl) (by first|assumption|(rw[Int.fdiv_eq_ediv_of_nonneg _ (by decide)];exact vU hq))) (aC (aG (by decide) (by rw[Int.fmod_eq_emod_of_nonneg _ (by decide)];exact FR hr)) aN))
  intro cC h3 N3 t3 Rp eD
  refine jQ x hh (w:=fun i=>c8+i) gN Rp fun qi qP oG Rp=>?_
  show wpAny ..
  refine aa hh Rp [] 42 (dA 0xe20820838e28a28a38a381) [] (cB "list.index" [.ref ll,.str (S l2) w2]) [] [.k,.k,.k,.k,.k,.k,.k,.k,.u (dU [(cond sb 17 16,.str (S (bj r)) (c8+r))] [] (cond sb 18 17))] 0 1 ?_
  intro db h4 N4 t4 Rp gr
  refine fr x Rp 2 rfl ic ?_
  show wpAny ..
  refine aa hh Rp [] 22 (dA 0x4e) [] (cB "str.__add__" [.str (S (bj r)) (c8+r),.str (S [40]) (t4+1+0)]) [] [] 0 1 ?_
  intro dv h5 N5 t5 Rp mU
  refine ik x hh Rp gN (.inl rfl) fun qh qO o7 o3 Rp=>?_
  show wpAny ..
  refine aa hh Rp [] 12 (dA 0x0) [] (cB "list.append" [.ref pc,.str (S (bj r++[40])) o3]) [] [] 0 0 ?_
  intro eN h6 N6 t6 Rp j4
  refine bn Rp 4 rfl (by exact jt kJ) rfl fun yn Rp=>?_
  show wpAny ..
  refine ab hh Rp [] 12 (dA 0x0) [] Flow.next [] [] 0 0 ?_
  intro ie h7 N7 t7 Rp
  exact K _ _ _ _ _ _ _ _ _ _ _ _ _ Rp
theorem Aw(bb:Bool)(x:W2)(A:Around)(hh:A.handled=none)(hA:A.depth<320)(R:Result→Shared→Prop)(F cb e it ll o dh hl pc b:Addr)(k8 k9 v9 bB bV bU kl w0 w1 w2 w3 nl np nh:Nat)(ks kc kp up kd ud k1 v1 k2 v2 k3 k4 k5 k6 k7 v7:Nat)(P D sg sd CN:Int)(wd td el cl:Addr)(sl:Array (Option Value))(lp:List Nat)(rp cf ca ce b9:Nat)(old:Value)(ps fC:Array Value)(kJ:ps.size<60)(fG:fC.size<60)(l0 l1 l2 l3:List Nat)(il:IsL l2)(hw:bG x 132 l2)(hv:bG x 137 [50])(k:Nat)(hk:k<2)(ic:eO [l0,l1,l2,l3] l2 k)
 (c0 c1 c2 c3 c4 c5:Int) (u0 u1 u2 u3 u4 u5 nc r:Nat) (h0:0≤c0) (gN:r<4) (hr:(c0/96+2)%4=r)
 (N t:Nat) (h:Heap) (gl d os) (rest:ae)
 (Rp:Rep x.B N h ((e,bf .none (.ref it) ((2:Nat):Int) old)::(it,aD ll ((2:Nat):Int))::(ll,iI l0 l1 l2 l3 w0 w1 w2 w3 nl)::(cl,an #[.int c0 u0,.int c1 u1,.int c2 u2,.int c3 u3,.int c4 u4,.int c5 u5] nc)::(pc,an ps np)::(hl,an fC nh)::(o,fQ dh)::(dh,fR x kl hl)::(F,eQ bb x ks kc cl k1 sg v1 k2 sd v2 k3 wd k4 td k5 wd k6 el k7 CN v7 kd D ud kp 1 up (fY x k8 b k9 v9 bB ll bU pc bV o [En x.B aw cf (.str (S lp) ca),En x.B az ce (.str (S (bj rp)) b9)]) (cond bb 18 17) sl)::rest) 0)
 (K:∀h' N' t' kp up cf ca ce b9 a wa va wp,Rep x.B N' h' ((e,bf .none (.ref it) ((3:Nat):Int) (.str (S l2) w2))::(it,aD ll ((3:Nat):Int))::(ll,iI l0 l1 l2 l3 w0 w1 w2 w3 nl)::(cl,an #[.int c0 u0,.int c1 u1,.int c2 u2,.int c3 u3,.int c4 u4,.int c5 u5] nc)::(pc,an (ps.push (.str (S (bj r++[41])) wp)) (np+1))::(hl,an (fC.push (.ref a)) (nh+1))::(o,fQ dh)::(dh,fR x kl hl)::(F,eQ bb x ks kc cl k1 sg v1 k2 sd v2 k3 wd k4 td k5 wd k6 el k7 CN v7 kd D ud kp 2 up (fY x k8 b k9 v9 bB ll bU pc bV o [En x.B aw cf (.str (S l2) ca),En x.B az ce (.str (S (bj r)) b9)]) (cond bb 18 17) sl)::(a,aT l2 [50] wa va)::rest) 0→codeAny (MB x.B) A (ai (ah x.B 287 11) (.ref e) (au x F cb)) R ⟨h',gl,d,t',os⟩):
 codeAny (MB x.B) A (ai (ah x.B 287 11) (.ref e) (au x F cb)) R ⟨h,gl,d,t,os⟩:=by
 let sb:=bb
 cases bb
 all_goals
  obtain⟨q,hq⟩:∃q,c0/96=q:=⟨_,rfl⟩
  rw[hq] at hr
  refine bZ (bh ⟨_,Rp.at (n:=0) rfl,rfl⟩ PySem.F.slot_enumerate_next (fA hh old Rp (by rfl) fun qk za vi yS jJ Rp=>?_))
  refine cI (by rfl') Rp 1 rfl rfl fun sZ Rp=>?_
  refine ab hh Rp [] 71 (dA 0xe48e4860861c61860460861c61860460861c6186046186046186) (dM 8) () [] [.k,.k,.k,.k,.k,.k,.k,.k,.k,.u (dU [(cond sb 2 8,.int 2 jJ),(cond sb 16 15,.str (S l2) w2)] [] (cond sb 18 17))] 3 2 ?_
  intro bT h1 N1 t1 Rp
  refine aa hh Rp [aI "int.__mod__" [.int 2 jJ,.int 2 (t1+0)] (0)] 68 (dA 0x104104104f0413c108f38d04104134104134104134f) [] (cR 263 [.ref o,.str (S l2) w2,.str (S [50]) (t1+2)]) [] [.d] 0 3 ?_ (aC (aG (by decide) (by rw[Int.fmod_eq_emod_of_nonneg _ (by decide)];decide)) aN)
  intro bW h2 N2 t2 Rp dK
  refine j8 x (A.under _) hh (by show A.depth+0<500;exact vW hA) _ _ _ _ _ _ _ (by exact vV fG) _ _ hw hv _ _ _ _ _ _ _ _ _ (((Rp.mov 5 0).mov 6 1).mov 7 2) fun sY kj c8 yR Rp=>?_
  show wpAny ..
  have Rp:=(((Rp.mov 0 9).mov 0 7).mov 0 7).mov 0 7
  refine aa hh Rp [aI "int.__floordiv__" [.int (c0) u0,.int 96 (c8+5)] (q),aI "int.__mod__" [.int (q+2) (c8+7),.int 4 (c8+8)] ((r:Int))] 48 (dA 0x18618304f08a28128a28f) (dM 3) (cB "tuple.__getitem__" [.ref (kj+0),.int ((↑r:Int)) (c8+9)]) [(kj+0,oT #[.str (S []) (c8+0),.str (S [92,41]) (c8+1),.str (S [34,92,34,40,34]) (c8+2),.str (S [92,34]) (c8+3)])] [] 1 10 ?_ (aC (da (by decide) (by first|assumption|decide|rfl) (by first|assumption|(rw[Int.fdiv_eq_ediv_of_nonneg _ (by decide)];exact vU hq))) (aC (aG (by decide) (by rw[Int.fmod_eq_emod_of_nonneg _ (by decide)];exact FR hr)) aN))
  intro cC h3 N3 t3 Rp eD
  refine jQ x hh (w:=fun i=>c8+i) gN Rp fun qi qP oG Rp=>?_
  show wpAny ..
  refine aa hh Rp [] 42 (dA 0xe20820838e28a28a38a381) [] (cB "list.index" [.ref ll,.str (S l2) w2]) [] [.k,.k,.k,.k,.k,.k,.k,.k,.u (dU [(cond sb 17 16,.str (S (bj r)) (c8+r))] [] (cond sb 18 17))] 0 1 ?_
  intro db h4 N4 t4 Rp gr
  refine fr x Rp 2 rfl ic ?_
  show wpAny ..
  refine aa hh Rp [aB "int.__eq__" [.int ((↑k:Int)) t4,.int 2 jJ] false] 20 (dA 0x8e) [] (cB "str.__add__" [.str (S (bj r)) (c8+r),.str (S [41]) (t4+1+0)]) [] [] 0 1 ?_ (aC (lP (decide_eq_false (by exact He hk))) aN)
  intro dv h5 N5 t5 Rp mU
  refine ik x hh Rp gN (.inr rfl) fun qh qO o7 o3 Rp=>?_
  show wpAny ..
  refine aa hh Rp [] 12 (dA 0x0) [] (cB "list.append" [.ref pc,.str (S (bj r++[41])) o3]) [] [] 0 0 ?_
  intro eN h6 N6 t6 Rp j4
  refine bn Rp 4 rfl (by exact jt kJ) rfl fun yn Rp=>?_
  show wpAny ..
  refine ab hh Rp [] 12 (dA 0x0) [] Flow.next [] [] 0 0 ?_
  intro ie h7 N7 t7 Rp
  exact K _ _ _ _ _ _ _ _ _ _ _ _ _ Rp
theorem Av(bb:Bool)(x:W2)(A:Around)(hh:A.handled=none)(hA:A.depth<320)(R:Result→Shared→Prop)(F cb e it ll o dh hl pc b:Addr)(k8 k9 v9 bB bV bU kl w0 w1 w2 w3 nl np nh:Nat)(ks kc kp up kd ud k1 v1 k2 v2 k3 k4 k5 k6 k7 v7:Nat)(P D sg sd CN:Int)(wd td el cl:Addr)(sl:Array (Option Value))(lp:List Nat)(rp cf ca ce b9:Nat)(old:Value)(ps fC:Array Value)(kJ:ps.size<60)(fG:fC.size<60)(l0 l1 l2 l3:List Nat)(il:IsL l3)(hw:bG x 132 (fU l3))(hv:bG x 137 [51])(k:Nat)(hk:k<3)(ic:eO [l0,l1,l2,l3] l3 k)
 (c0 c1 c2 c3 c4 c5:Int) (u0 u1 u2 u3 u4 u5 nc r:Nat) (h0:0≤c0) (gN:r<4) (hr:(c0/96+3)%4=r)
 (N t:Nat) (h:Heap) (gl d os) (rest:ae)
 (Rp:Rep x.B N h ((e,bf .none (.ref it) ((3:Nat):Int) old)::(it,aD ll ((3:Nat):Int))::(ll,iI l0 l1 l2 l3 w0 w1 w2 w3 nl)::(cl,an #[.int c0 u0,.int c1 u1,.int c2 u2,.int c3 u3,.int c4 u4,.int c5 u5] nc)::(pc,an ps np)::(hl,an fC nh)::(o,fQ dh)::(dh,fR x kl hl)::(F,eQ bb x ks kc cl k1 sg v1 k2 sd v2 k3 wd k4 td k5 wd k6 el k7 CN v7 kd D ud kp 2 up (fY x k8 b k9 v9 bB ll bU pc bV o [En x.B aw cf (.str (S lp) ca),En x.B az ce (.str (S (bj rp)) b9)]) (cond bb 18 17) sl)::rest) 0)
 (K:∀h' N' t' kp up cf ca ce b9 a wa va wp,Rep x.B N' h' ((e,bf .none (.ref it) ((4:Nat):Int) (.str (S l3) w3))::(it,aD ll ((4:Nat):Int))::(ll,iI l0 l1 l2 l3 w0 w1 w2 w3 nl)::(cl,an #[.int c0 u0,.int c1 u1,.int c2 u2,.int c3 u3,.int c4 u4,.int c5 u5] nc)::(pc,an (ps.push (.str (S (bj r++[41])) wp)) (np+1))::(hl,an (fC.push (.ref a)) (nh+1))::(o,fQ dh)::(dh,fR x kl hl)::(F,eQ bb x ks kc cl k1 sg v1 k2 sd v2 k3 wd k4 td k5 wd k6 el k7 CN v7 kd D ud kp 3 up (fY x k8 b k9 v9 bB ll bU pc bV o [En x.B aw cf (.str (S l3) ca),En x.B az ce (.str (S (bj r)) b9)]) (cond bb 18 17) sl)::(a,aT (fU l3) [51] wa va)::rest) 0→codeAny (MB x.B) A (ai (ah x.B 287 11) (.ref e) (au x F cb)) R ⟨h',gl,d,t',os⟩):
 codeAny (MB x.B) A (ai (ah x.B 287 11) (.ref e) (au x F cb)) R ⟨h,gl,d,t,os⟩:=by
 let sb:=bb
 cases bb
 all_goals
  obtain⟨q,hq⟩:∃q,c0/96=q:=⟨_,rfl⟩
  rw[hq] at hr
  refine bZ (bh ⟨_,Rp.at (n:=0) rfl,rfl⟩ PySem.F.slot_enumerate_next (fA hh old Rp (by rfl) fun qk za vi yS jJ Rp=>?_))
  refine cI (by rfl') Rp 1 rfl rfl fun sZ Rp=>?_
  refine ab hh Rp [] 71 (dA 0xe48e4860861c61860460861c61860460861c6186046186046186) (dM 8) () [] [.k,.k,.k,.k,.k,.k,.k,.k,.k,.u (dU [(cond sb 2 8,.int 3 jJ),(cond sb 16 15,.str (S l3) w3)] [] (cond sb 18 17))] 3 2 ?_
  intro bT h1 N1 t1 Rp
  refine aa hh Rp [aI "int.__mod__" [.int 3 jJ,.int 2 (t1+0)] (1)] 45 (dA 0x3c108f38d04104134104134104134f) [] (cB "str.upper" [.str (S l3) w3]) [] [.d] 0 2 ?_ (aC (aG (by decide) (by rw[Int.fmod_eq_emod_of_nonneg _ (by decide)];decide)) aN)
  intro bW h2 N2 t2 Rp dK
  refine gk x hh Rp il fun qj qQ o8 o4 Rp=>?_
  show wpAny ..
  refine aa hh Rp [] 38 (dA 0x104104104e041) [] (cR 263 [.ref o,.str (S (fU l3)) o4,.str (S [51]) (o8+0)]) [] [] 0 1 ?_
  intro cC h3 N3 t3 Rp eD
  refine j8 x (A.under _) hh (by show A.depth+0<500;exact vW hA) _ _ _ _ _ _ _ (by exact vV fG) _ _ hw hv _ _ _ _ _ _ _ _ _ (((Rp.mov 5 0).mov 6 1).mov 7 2) fun sY kj c8 yR Rp=>?_
  show wpAny ..
  have Rp:=(((Rp.mov 0 9).mov 0 7).mov 0 7).mov 0 7
  refine aa hh Rp [aI "int.__floordiv__" [.int (c0) u0,.int 96 (c8+5)] (q),aI "int.__mod__" [.int (q+3) (c8+7),.int 4 (c8+8)] ((r:Int))] 48 (dA 0x18618304f08a28128a28f) (dM 3) (cB "tuple.__getitem__" [.ref (kj+0),.int ((↑r:Int)) (c8+9)]) [(kj+0,oT #[.str (S []) (c8+0),.str (S [92,41]) (c8+1),.str (S [34,92,34,40,34]) (c8+2),.str (S [92,34]) (c8+3)])] [] 1 10 ?_ (aC (da (by decide) (by first|assumption|decide|rfl) (by first|assumption|(rw[Int.fdiv_eq_ediv_of_nonneg _ (by decide)];exact vU hq))) (aC (aG (by decide) (by rw[Int.fmod_eq_emod_of_nonneg _ (by decide)];exact Hd hr)) aN))
  intro db h4 N4 t4 Rp gr
  refine jQ x hh (w:=fun i=>c8+i) gN Rp fun qi qP oG Rp=>?_
  show wpAny ..
  refine aa hh Rp [] 42 (dA 0xe20820838e28a28a38a381) [] (cB "list.index" [.ref ll,.str (S l3) w3]) [] [.k,.k,.k,.k,.k,.k,.k,.k,.u (dU [(cond sb 17 16,.str (S (bj r)) (c8+r))] [] (cond sb 18 17))] 0 1 ?_
  intro dv h5 N5 t5 Rp mU
  refine fr x Rp 2 rfl ic ?_
  show wpAny ..
  refine aa hh Rp [aB "int.__eq__" [.int ((↑k:Int)) t5,.int 3 jJ] false] 20 (dA 0x8e) [] (cB "str.__add__" [.str (S (bj r)) (c8+r),.str (S [41]) (t5+1+0)]) [] [] 0 1 ?_ (aC (lP (decide_eq_false (by exact Hb hk))) aN)
  intro eN h6 N6 t6 Rp j4
  refine ik x hh Rp gN (.inr rfl) fun qh qO o7 o3 Rp=>?_
  show wpAny ..
  refine aa hh Rp [] 12 (dA 0x0) [] (cB "list.append" [.ref pc,.str (S (bj r++[41])) o3]) [] [] 0 0 ?_
  intro ie h7 N7 t7 Rp sT
  refine bn Rp 4 rfl (by exact jt kJ) rfl fun yn Rp=>?_
  show wpAny ..
  refine ab hh Rp [] 12 (dA 0x0) [] Flow.next [] [] 0 0 ?_
  intro iG h8 N8 t8 Rp
  exact K _ _ _ _ _ _ _ _ _ _ _ _ _ Rp
noncomputable def lf(ls:List (List Nat))(l:List Nat)(j c:Nat):Prop:=(eO ls l j∧c=40)∨(∃k,k<j∧eO ls l k∧c=41)
theorem pd(x:W2){l:List Nat}(h:IsL l):bG x 132 l:=by rcases h with rfl|rfl<;>first|exact nz x|exact iO x
theorem pb(x:W2){l:List Nat}(h:IsL l):bG x 132 (fU l):=by rcases h with rfl|rfl<;>first|exact to x|exact rk x
theorem GH(bb:Bool)(x:W2)(A:Around)(hh:A.handled=none)(hA:A.depth<320)(R:Result→Shared→Prop)(F cb e it ll o dh hl pc b:Addr)(k8 k9 v9 bB bV bU kl w0 w1 w2 w3 nl np nh:Nat)(ks kc kp up kd ud k1 v1 k2 v2 k3 k4 k5 k6 k7 v7:Nat)(P D sg sd CN:Int)(wd td el cl:Addr)(sl:Array (Option Value))(old:Value)(ps fC:Array Value)(kJ:ps.size<60)(fG:fC.size<60)(l0 l1 l2 l3:List Nat)(il:IsL l0)(hw:bG x 132 l0)(hv:bG x 137 [48])(c:Nat)(ic:lf [l0,l1,l2,l3] l0 0 c)
 (c0 c1 c2 c3 c4 c5:Int) (u0 u1 u2 u3 u4 u5 nc r:Nat) (h0:0≤c0) (gN:r<4) (hr:(c0/96+0)%4=r)
 (N t:Nat) (h:Heap) (gl d os) (rest:ae)
 (Rp:Rep x.B N h ((e,bf .none (.ref it) ((0:Nat):Int) old)::(it,aD ll ((0:Nat):Int))::(ll,iI l0 l1 l2 l3 w0 w1 w2 w3 nl)::(cl,an #[.int c0 u0,.int c1 u1,.int c2 u2,.int c3 u3,.int c4 u4,.int c5 u5] nc)::(pc,an ps np)::(hl,an fC nh)::(o,fQ dh)::(dh,fR x kl hl)::(F,eQ bb x ks kc cl k1 sg v1 k2 sd v2 k3 wd k4 td k5 wd k6 el k7 CN v7 kd D ud kp P up (fY x k8 b k9 v9 bB ll bU pc bV o []) (cond bb 16 15) sl)::rest) 0)
 (K:∀h' N' t' kp up cf ca ce b9 a wa va wp,Rep x.B N' h' ((e,bf .none (.ref it) ((1:Nat):Int) (.str (S l0) w0))::(it,aD ll ((1:Nat):Int))::(ll,iI l0 l1 l2 l3 w0 w1 w2 w3 nl)::(cl,an #[.int c0 u0,.int c1 u1,.int c2 u2,.int c3 u3,.int c4 u4,.int c5 u5] nc)::(pc,an (ps.push (.str (S (bj r++[c])) wp)) (np+1))::(hl,an (fC.push (.ref a)) (nh+1))::(o,fQ dh)::(dh,fR x kl hl)::(F,eQ bb x ks kc cl k1 sg v1 k2 sd v2 k3 wd k4 td k5 wd k6 el k7 CN v7 kd D ud kp 0 up (fY x k8 b k9 v9 bB ll bU pc bV o [En x.B aw cf (.str (S l0) ca),En x.B az ce (.str (S (bj r)) b9)]) (cond bb 18 17) sl)::(a,aT l0 [48] wa va)::rest) 0→codeAny (MB x.B) A (ai (ah x.B 287 11) (.ref e) (au x F cb)) R ⟨h',gl,d,t',os⟩):
 codeAny (MB x.B) A (ai (ah x.B 287 11) (.ref e) (au x F cb)) R ⟨h,gl,d,t,os⟩:=by
 let sb:=bb
 cases bb
 all_goals
  rcases ic with⟨ic,rfl⟩|⟨k,hk,ic,rfl⟩
  ·exact AA sb x A hh hA R F cb e it ll o dh hl pc b k8 k9 v9 bB bV bU kl w0 w1 w2 w3 nl np nh ks kc kp up kd ud k1 v1 k2 v2 k3 k4 k5 k6 k7 v7 P D sg sd CN wd td el cl sl old ps fC kJ fG l0 l1 l2 l3 il hw hv ic c0 c1 c2 c3 c4 c5 u0 u1 u2 u3 u4 u5 nc r h0 gN hr N t h gl d os rest Rp K
  ·exact absurd hk (by exact Ha)
theorem GG(bb:Bool)(x:W2)(A:Around)(hh:A.handled=none)(hA:A.depth<320)(R:Result→Shared→Prop)(F cb e it ll o dh hl pc b:Addr)(k8 k9 v9 bB bV bU kl w0 w1 w2 w3 nl np nh:Nat)(ks kc kp up kd ud k1 v1 k2 v2 k3 k4 k5 k6 k7 v7:Nat)(P D sg sd CN:Int)(wd td el cl:Addr)(sl:Array (Option Value))(lp:List Nat)(rp cf ca ce b9:Nat)(old:Value)(ps fC:Array Value)(kJ:ps.size<60)(fG:fC.size<60)(l0 l1 l2 l3:List Nat)(il:IsL l1)(hw:bG x 132 (fU l1))(hv:bG x 137 [49])(c:Nat)(ic:lf [l0,l1,l2,l3] l1 1 c)
 (c0 c1 c2 c3 c4 c5:Int) (u0 u1 u2 u3 u4 u5 nc r:Nat) (h0:0≤c0) (gN:r<4) (hr:(c0/96+1)%4=r)
 (N t:Nat) (h:Heap) (gl d os) (rest:ae)
 (Rp:Rep x.B N h ((e,bf .none (.ref it) ((1:Nat):Int) old)::(it,aD ll ((1:Nat):Int))::(ll,iI l0 l1 l2 l3 w0 w1 w2 w3 nl)::(cl,an #[.int c0 u0,.int c1 u1,.int c2 u2,.int c3 u3,.int c4 u4,.int c5 u5] nc)::(pc,an ps np)::(hl,an fC nh)::(o,fQ dh)::(dh,fR x kl hl)::(F,eQ bb x ks kc cl k1 sg v1 k2 sd v2 k3 wd k4 td k5 wd k6 el k7 CN v7 kd D ud kp 0 up (fY x k8 b k9 v9 bB ll bU pc bV o [En x.B aw cf (.str (S lp) ca),En x.B az ce (.str (S (bj rp)) b9)]) (cond bb 18 17) sl)::rest) 0)
 (K:∀h' N' t' kp up cf ca ce b9 a wa va wp,Rep x.B N' h' ((e,bf .none (.ref it) ((2:Nat):Int) (.str (S l1) w1))::(it,aD ll ((2:Nat):Int))::(ll,iI l0 l1 l2 l3 w0 w1 w2 w3 nl)::(cl,an #[.int c0 u0,.int c1 u1,.int c2 u2,.int c3 u3,.int c4 u4,.int c5 u5] nc)::(pc,an (ps.push (.str (S (bj r++[c])) wp)) (np+1))::(hl,an (fC.push (.ref a)) (nh+1))::(o,fQ dh)::(dh,fR x kl hl)::(F,eQ bb x ks kc cl k1 sg v1 k2 sd v2 k3 wd k4 td k5 wd k6 el k7 CN v7 kd D ud kp 1 up (fY x k8 b k9 v9 bB ll bU pc bV o [En x.B aw cf (.str (S l1) ca),En x.B az ce (.str (S (bj r)) b9)]) (cond bb 18 17) sl)::(a,aT (fU l1) [49] wa va)::rest) 0→codeAny (MB x.B) A (ai (ah x.B 287 11) (.ref e) (au x F cb)) R ⟨h',gl,d,t',os⟩):
 codeAny (MB x.B) A (ai (ah x.B 287 11) (.ref e) (au x F cb)) R ⟨h,gl,d,t,os⟩:=by
 let sb:=bb
 cases bb
 all_goals
  rcases ic with⟨ic,rfl⟩|⟨k,hk,ic,rfl⟩
  ·exact Az sb x A hh hA R F cb e it ll o dh hl pc b k8 k9 v9 bB bV bU kl w0 w1 w2 w3 nl np nh ks kc kp up kd ud k1 v1 k2 v2 k3 k4 k5 k6 k7 v7 P D sg sd CN wd td el cl sl lp rp cf ca ce b9 old ps fC kJ fG l0 l1 l2 l3 il hw hv ic c0 c1 c2 c3 c4 c5 u0 u1 u2 u3 u4 u5 nc r h0 gN hr N t h gl d os rest Rp K
  ·exact Ay sb x A hh hA R F cb e it ll o dh hl pc b k8 k9 v9 bB bV bU kl w0 w1 w2 w3 nl np nh ks kc kp up kd ud k1 v1 k2 v2 k3 k4 k5 k6 k7 v7 P D sg sd CN wd td el cl sl lp rp cf ca ce b9 old ps fC kJ fG l0 l1 l2 l3 il hw hv k hk ic c0 c1 c2 c3 c4 c5 u0 u1 u2 u3 u4 u5 nc r h0 gN hr N t h gl d os rest Rp K
theorem GF(bb:Bool)(x:W2)(A:Around)(hh:A.handled=none)(hA:A.depth<320)(R:Result→Shared→Prop)(F cb e it ll o dh hl pc b:Addr)(k8 k9 v9 bB bV bU kl w0 w1 w2 w3 nl np nh:Nat)(ks kc kp up kd ud k1 v1 k2 v2 k3 k4 k5 k6 k7 v7:Nat)(P D sg sd CN:Int)(wd td el cl:Addr)(sl:Array (Option Value))(lp:List Nat)(rp cf ca ce b9:Nat)(old:Value)(ps fC:Array Value)(kJ:ps.size<60)(fG:fC.size<60)(l0 l1 l2 l3:List Nat)(il:IsL l2)(hw:bG x 132 l2)(hv:bG x 137 [50])(c:Nat)(ic:lf [l0,l1,l2,l3] l2 2 c)
 (c0 c1 c2 c3 c4 c5:Int) (u0 u1 u2 u3 u4 u5 nc r:Nat) (h0:0≤c0) (gN:r<4) (hr:(c0/96+2)%4=r)
 (N t:Nat) (h:Heap) (gl d os) (rest:ae)
 (Rp:Rep x.B N h ((e,bf .none (.ref it) ((2:Nat):Int) old)::(it,aD ll ((2:Nat):Int))::(ll,iI l0 l1 l2 l3 w0 w1 w2 w3 nl)::(cl,an #[.int c0 u0,.int c1 u1,.int c2 u2,.int c3 u3,.int c4 u4,.int c5 u5] nc)::(pc,an ps np)::(hl,an fC nh)::(o,fQ dh)::(dh,fR x kl hl)::(F,eQ bb x ks kc cl k1 sg v1 k2 sd v2 k3 wd k4 td k5 wd k6 el k7 CN v7 kd D ud kp 1 up (fY x k8 b k9 v9 bB ll bU pc bV o [En x.B aw cf (.str (S lp) ca),En x.B az ce (.str (S (bj rp)) b9)]) (cond bb 18 17) sl)::rest) 0)
 (K:∀h' N' t' kp up cf ca ce b9 a wa va wp,Rep x.B N' h' ((e,bf .none (.ref it) ((3:Nat):Int) (.str (S l2) w2))::(it,aD ll ((3:Nat):Int))::(ll,iI l0 l1 l2 l3 w0 w1 w2 w3 nl)::(cl,an #[.int c0 u0,.int c1 u1,.int c2 u2,.int c3 u3,.int c4 u4,.int c5 u5] nc)::(pc,an (ps.push (.str (S (bj r++[c])) wp)) (np+1))::(hl,an (fC.push (.ref a)) (nh+1))::(o,fQ dh)::(dh,fR x kl hl)::(F,eQ bb x ks kc cl k1 sg v1 k2 sd v2 k3 wd k4 td k5 wd k6 el k7 CN v7 kd D ud kp 2 up (fY x k8 b k9 v9 bB ll bU pc bV o [En x.B aw cf (.str (S l2) ca),En x.B az ce (.str (S (bj r)) b9)]) (cond bb 18 17) sl)::(a,aT l2 [50] wa va)::rest) 0→codeAny (MB x.B) A (ai (ah x.B 287 11) (.ref e) (au x F cb)) R ⟨h',gl,d,t',os⟩):
 codeAny (MB x.B) A (ai (ah x.B 287 11) (.ref e) (au x F cb)) R ⟨h,gl,d,t,os⟩:=by
 let sb:=bb
 cases bb
 all_goals
  rcases ic with⟨ic,rfl⟩|⟨k,hk,ic,rfl⟩
  ·exact Ax sb x A hh hA R F cb e it ll o dh hl pc b k8 k9 v9 bB bV bU kl w0 w1 w2 w3 nl np nh ks kc kp up kd ud k1 v1 k2 v2 k3 k4 k5 k6 k7 v7 P D sg sd CN wd td el cl sl lp rp cf ca ce b9 old ps fC kJ fG l0 l1 l2 l3 il hw hv ic c0 c1 c2 c3 c4 c5 u0 u1 u2 u3 u4 u5 nc r h0 gN hr N t h gl d os rest Rp K
  ·exact Aw sb x A hh hA R F cb e it ll o dh hl pc b k8 k9 v9 bB bV bU kl w0 w1 w2 w3 nl np nh ks kc kp up kd ud k1 v1 k2 v2 k3 k4 k5 k6 k7 v7 P D sg sd CN wd td el cl sl lp rp cf ca ce b9 old ps fC kJ fG l0 l1 l2 l3 il hw hv k hk ic c0 c1 c2 c3 c4 c5 u0 u1 u2 u3 u4 u5 nc r h0 gN hr N t h gl d os rest Rp K
theorem tl(bb:Bool)(x:W2)(A:Around)(hh:A.handled=none)(hA:A.depth<320)(R:Result→Shared→Prop)(F cb e it ll o dh hl pc b:Addr)(k8 k9 v9 bB bV bU kl w0 w1 w2 w3 nl:Nat)(ks kc kp up kd ud k1 v1 k2 v2 k3 k4 k5 k6 k7 v7:Nat)(P D sg sd CN:Int)(wd td el cl:Addr)(sl:Array (Option Value))(l0 l1 l2 l3:List Nat)(i0:IsL l0)(i1:IsL l1)(i2:IsL l2)(i3:IsL l3)(b1 b2 kq:Nat)(B1:eO [l0,l1,l2,l3] l0 0)(yc:lf [l0,l1,l2,l3] l1 1 b1)(yb:lf [l0,l1,l2,l3] l2 2 b2)(yg:kq<3)(ya:eO [l0,l1,l2,l3] l3 kq)
 (c0 c1 c2 c3 c4 c5:Int) (u0 u1 u2 u3 u4 u5 nc r0 r1 r2 r3:Nat) (oW:0≤c0) (g0:r0<4) (g1:r1<4) (g2:r2<4) (g3:r3<4) (e0:(c0/96+0)%4=r0) (e1:(c0/96+1)%4=r1) (e2:(c0/96+2)%4=r2) (e3:(c0/96+3)%4=r3)
 (N t:Nat) (h:Heap) (gl d os) (rest:ae)
 (Rp:Rep x.B N h ((e,bf .none (.ref it) ((0:Nat):Int) .none)::(it,aD ll ((0:Nat):Int))::(ll,iI l0 l1 l2 l3 w0 w1 w2 w3 nl)::(cl,an #[.int c0 u0,.int c1 u1,.int c2 u2,.int c3 u3,.int c4 u4,.int c5 u5] nc)::(pc,an #[] 0)::(hl,an #[] 0)::(o,fQ dh)::(dh,fR x kl hl)::(F,eQ bb x ks kc cl k1 sg v1 k2 sd v2 k3 wd k4 td k5 wd k6 el k7 CN v7 kd D ud kp P up (fY x k8 b k9 v9 bB ll bU pc bV o []) (cond bb 16 15) sl)::rest) 0)
 (K:∀h' N' t' kp up cf ca ce b9 a0 a1 a2 a3 lr lq ln lk lx lw lv lu f' fZ gD gY,Rep x.B N' h' ((ll,iI l0 l1 l2 l3 w0 w1 w2 w3 nl)::(pc,an #[.str (S (bj r0++[40])) f',.str (S (bj r1++[b1])) fZ,.str (S (bj r2++[b2])) gD,.str (S (bj r3++[41])) gY] 4)::(F,eQ bb x ks kc cl k1 sg v1 k2 sd v2 k3 wd k4 td k5 wd k6 el k7 CN v7 kd D ud kp 3 up (fY x k8 b k9 v9 bB ll bU pc bV o [En x.B aw cf (.str (S l3) ca),En x.B az ce (.str (S (bj r3)) b9)]) (cond bb 18 17) sl)::(hl,an #[.ref a0,.ref a1,.ref a2,.ref a3] 4)::(o,fQ dh)::(dh,fR x kl hl)::(a0,aT l0 [48] lr lx)::(a1,aT (fU l1) [49] lq lw)::(a2,aT l2 [50] ln lv)::(a3,aT (fU l3) [51] lk lu)::rest) 0→R (.ok .next) ⟨h',gl,d,t',os⟩):
 codeAny (MB x.B) A (ai (ah x.B 287 11) (.ref e) (au x F cb)) R ⟨h,gl,d,t,os⟩:=by
 let sb:=bb
 cases bb
 all_goals
  refine GH sb x A hh hA R F cb e it ll o dh hl pc b k8 k9 v9 bB bV bU kl w0 w1 w2 w3 nl _ _ _ _ _ _ _ _ _ _ _ _ _ _ _ _ _ _ _ _ _ _ _ _ _ _ _ sl .none _ _ (by simp) (by simp) l0 l1 l2 l3 i0 (pd x i0) (tv x) 40 (.inl ⟨B1,rfl⟩) c0 c1 c2 c3 c4 c5 u0 u1 u2 u3 u4 u5 nc r0 oW g0 e0 _ _ _ gl d os _ Rp fun h0 N0 t0 kp0 up0 kx0 wx0 ky0 wy0 a0 lr lx f' Rp=>?_
  refine GG sb x A hh hA R F cb e it ll o dh hl pc b k8 k9 v9 bB bV bU kl w0 w1 w2 w3 nl _ _ _ _ _ _ _ _ _ _ _ _ _ _ _ _ _ _ 0 _ _ _ _ _ _ _ _ sl _ _ _ _ _ _ _ _ _ (by simp) (by simp) l0 l1 l2 l3 i1 (pb x i1) (tu x) b1 yc c0 c1 c2 c3 c4 c5 u0 u1 u2 u3 u4 u5 nc r1 oW g1 e1 _ _ _ gl d os _ Rp fun h1 N1 t1 kp1 up1 kx1 wx1 ky1 wy1 a1 lq lw fZ Rp=>?_
  refine GF sb x A hh hA R F cb e it ll o dh hl pc b k8 k9 v9 bB bV bU kl w0 w1 w2 w3 nl _ _ _ _ _ _ _ _ _ _ _ _ _ _ _ _ _ _ 0 _ _ _ _ _ _ _ _ sl _ _ _ _ _ _ _ _ _ (by simp) (by simp) l0 l1 l2 l3 i2 (pd x i2) (tq x) b2 yb c0 c1 c2 c3 c4 c5 u0 u1 u2 u3 u4 u5 nc r2 oW g2 e2 _ _ _ gl d os _ Rp fun h2 N2 t2 kp2 up2 kx2 wx2 ky2 wy2 a2 ln lv gD Rp=>?_
  refine Av sb x A hh hA R F cb e it ll o dh hl pc b k8 k9 v9 bB bV bU kl w0 w1 w2 w3 nl _ _ _ _ _ _ _ _ _ _ _ _ _ _ _ _ _ _ 0 _ _ _ _ _ _ _ _ sl _ _ _ _ _ _ _ _ _ (by simp) (by simp) l0 l1 l2 l3 i3 (pb x i3) (tp x) kq yg ya c0 c1 c2 c3 c4 c5 u0 u1 u2 u3 u4 u5 nc r3 oW g3 e3 _ _ _ gl d os _ Rp fun h3 N3 t3 kp3 up3 kx3 wx3 ky3 wy3 a3 lk lu gY Rp=>?_
  refine bZ (bh ⟨_,Rp.at (n:=0) rfl,rfl⟩ PySem.F.slot_enumerate_next (kU hh _ Rp (by rfl) fun h7 N7 t7 a7 v7 Rp=>?_))
  refine⟨⟨_,Rp.at (n:=0) rfl,rfl⟩,?_⟩
  show codeAny _ _ (.block (qp (ah x.B 287 11)) (au x F cb)) _ _
  refine aX hh Rp [] 11 (dA 0x0) [] (.ok .next) [] [.d,.k,.d] 0 0 ?_
  intro db h4 N4 t4 Rp
  exact K _ _ _ _ _ _ _ _ _ _ _ _ _ _ _ _ _ _ _ _ _ _ _ _ _ ((((Rp.mov 5 2).mov 9 6).mov 9 7).mov 9 8)
theorem l8{B:aQ}{A:Around}{R:Result→Shared→Prop}{h:Heap}{gl:Array GenState}{d:Drawn}{t:Nat}{os:OsState}{N n:Nat}{tab:ae}{l:Addr}{items:Array Value}(hh:A.handled=none)(Rp:Rep B N h tab 0)(i:Nat)(hx:nth tab i=some (l,an items n))
 (K:∀h' N' t' e it,Rep B N' h' ((e,bf .none (.ref it) 0 .none)::(it,aD l ((0:Nat):Int))::tab) 0→R (.ok (.ret (.ref e))) ⟨h',gl,d,t',os⟩):codeAny (MB B) A (.call (.type "enumerate") ⟨[.ref l],[]⟩) R ⟨h,gl,d,t,os⟩:=by
 refine af ?_
 refine ab hh Rp [] 11 (dA 0x0) [] (Fin.again (.builtin "type.__call__" ⟨[.type "enumerate",.ref l],[]⟩)) [] [] 0 0 ?_
 intro bT h1 N1 t1 Rp
 refine⟨Code.quiet_builtin _ (by decide+kernel),af ?_⟩
 refine aa hh Rp [] 11 (dA 0x0) [] (cB "enumerate.__new__" [.type "enumerate",.ref l]) [] [] 0 0 ?_
 intro bW h2 N2 t2 Rp dK
 refine sk hh Rp i hx fun hx Nx tx e it Rp=>?_
 show wpAny ..
 refine ab hh Rp [] 18 (dA 0x6181186) [] (Fin.done (Flow.ret (.ref e))) [] [] 0 0 ?_
 intro cC h3 N3 t3 Rp
 exact K _ _ _ _ _ Rp
theorem wI(bb:Bool)(x:W2)(A:Around)(hh:A.handled=none)(hA:A.depth<310)(Q:Flow→Shared→Prop)(F cb ll o dh hl pc b:Addr)(k8 k9 v9 bB bV bU kl w0 w1 w2 w3 nl:Nat)(ks kc kp up kd ud k1 v1 k2 v2 k3 k4 k5 k6 k7 v7:Nat)(P D sg sd CN:Int)(wd td el cl:Addr)(sl:Array (Option Value))(l0 l1 l2 l3:List Nat)(i0:IsL l0)(i1:IsL l1)(i2:IsL l2)(i3:IsL l3)(b1 b2 kq:Nat)(B1:eO [l0,l1,l2,l3] l0 0)(yc:lf [l0,l1,l2,l3] l1 1 b1)(yb:lf [l0,l1,l2,l3] l2 2 b2)(yg:kq<3)(ya:eO [l0,l1,l2,l3] l3 kq)
 (c0 c1 c2 c3 c4 c5:Int) (u0 u1 u2 u3 u4 u5 nc r0 r1 r2 r3:Nat) (oW:0≤c0) (g0:r0<4) (g1:r1<4) (g2:r2<4) (g3:r3<4) (e0:(c0/96+0)%4=r0) (e1:(c0/96+1)%4=r1) (e2:(c0/96+2)%4=r2) (e3:(c0/96+3)%4=r3)
 (N t:Nat) (h:Heap) (gl d os) (rest:ae)
 (Rp:Rep x.B N h ((ll,iI l0 l1 l2 l3 w0 w1 w2 w3 nl)::(cl,an #[.int c0 u0,.int c1 u1,.int c2 u2,.int c3 u3,.int c4 u4,.int c5 u5] nc)::(pc,an #[] 0)::(hl,an #[] 0)::(o,fQ dh)::(dh,fR x kl hl)::(F,eQ bb x ks kc cl k1 sg v1 k2 sd v2 k3 wd k4 td k5 wd k6 el k7 CN v7 kd D ud kp P up (fY x k8 b k9 v9 bB ll bU pc bV o []) (cond bb 16 15) sl)::rest) 0)
 (K:∀h' N' t' kp up cf ca ce b9 a0 a1 a2 a3 lr lq ln lk lx lw lv lu f' fZ gD gY,Rep x.B N' h' ((ll,iI l0 l1 l2 l3 w0 w1 w2 w3 nl)::(pc,an #[.str (S (bj r0++[40])) f',.str (S (bj r1++[b1])) fZ,.str (S (bj r2++[b2])) gD,.str (S (bj r3++[41])) gY] 4)::(F,eQ bb x ks kc cl k1 sg v1 k2 sd v2 k3 wd k4 td k5 wd k6 el k7 CN v7 kd D ud kp 3 up (fY x k8 b k9 v9 bB ll bU pc bV o [En x.B aw cf (.str (S l3) ca),En x.B az ce (.str (S (bj r3)) b9)]) (cond bb 18 17) sl)::(hl,an #[.ref a0,.ref a1,.ref a2,.ref a3] 4)::(o,fQ dh)::(dh,fR x kl hl)::(a0,aT l0 [48] lr lx)::(a1,aT (fU l1) [49] lq lw)::(a2,aT l2 [50] ln lv)::(a3,aT (fU l3) [51] lk lu)::rest) 0→wpAny (MB x.B) A (aj (am (fdOf x.B 287) |>.drop 12) (au x F cb)) Q (fun _ _=>False) ⟨h',gl,d,t',os⟩):
 wpAny (MB x.B) A (aj (am (fdOf x.B 287) |>.drop 11) (au x F cb)) Q (fun _ _=>False) ⟨h,gl,d,t,os⟩:=by
 let sb:=bb
 cases bb
 all_goals
  refine bS 1 ?_
  refine aa hh Rp [] 18 (dA 0xc041) [] (.call (.type "enumerate") ⟨[.ref ll],[]⟩) [] [] 0 0 ?_
  intro bT h1 N1 t1 Rp eE
  refine l8 hh Rp 0 rfl fun hx Nx tx e it Rp=>?_
  show wpAny ..
  refine aa hh Rp [] 21 (dA 0x6181186) [] (ai (ah x.B 287 11) (.ref e) (au x F cb)) [] [] 0 0 ?_
  intro bW h2 N2 t2 Rp dK
  refine tl sb x A hh (by exact A8 hA) _ F cb e it ll o dh hl pc b k8 k9 v9 bB bV bU kl w0 w1 w2 w3 nl ks kc kp up kd ud k1 v1 k2 v2 k3 k4 k5 k6 k7 v7 P D sg sd CN wd td el cl sl l0 l1 l2 l3 i0 i1 i2 i3 b1 b2 kq B1 yc yb yg ya c0 c1 c2 c3 c4 c5 u0 u1 u2 u3 u4 u5 nc r0 r1 r2 r3 oW g0 g1 g2 g3 e0 e1 e2 e3 _ _ _ gl d os _ Rp fun h' N' t' kp up cf ca ce b9 a0 a1 a2 a3 lr lq ln lk lx lw lv lu f' fZ gD gY Rp=>?_
  show wpAny ..
  refine ab hh Rp [] 11 (dA 0x0) [] Flow.next [] [] 0 0 ?_
  intro cC h3 N3 t3 Rp
  exact K _ _ _ _ _ _ _ _ _ _ _ _ _ _ _ _ _ _ _ _ _ _ _ _ _ Rp
noncomputable def gK(B:aQ)(A:Around)(s:Shared)(op:CmpOp)(a b:Value)(r:Bool):Prop:=∀(Q:Value→Shared→Prop) (E:Value→Shared→Prop),Q (.bool r) s→wpAny (MB B) A (compareOp op a b) Q E s
theorem lN{op:CmpOp}(h:op=.NotEq∨op=.Eq)(e:Expr)(bk:Env):markedEach [op] [e] (evalEach [e] bk)=[eval e bk]:=by
 have ho:(op==.In||op==.NotIn)=false:=by rcases h with rfl|rfl<;>rfl
 show[markedBehindIn op e (eval e bk)]=_
 have hb:behindInMarks op e=false:=by
  cases e
  case Set l k p=>
   show(k==0&&(op==.In||op==.NotIn)&&l.all (constantsAlone 8))=false
   rw[ho,Bool.and_false,Bool.false_and]
  all_goals rfl
 unfold markedBehindIn
 rw[hb]
set_option backward.match.sparseCases false
noncomputable def pR:Stmt→Expr
 | .If t _ _ _=>t
 | .Return (some e) _=>e
 |_=>default
noncomputable def vZ:Stmt→List Stmt
 | .If _ b _ _=>b
 |_=>[]
noncomputable def vk:Stmt→Pos
 | .If _ _ _ p| .Return _ p=>p
 |_=>default
noncomputable def oB:Expr→Expr
 | .Compare l _ _ _=>l
 |_=>default
noncomputable def nk:Expr→Expr
 | .Compare _ _ [r] _=>r
 |_=>default
noncomputable def wg:Expr→Pos
 | .Compare _ _ _ p| .BoolOp _ _ p=>p
 |_=>default
noncomputable def Gu:Expr→List Expr
 | .BoolOp _ l _=>l
 |_=>default
noncomputable abbrev BU(s:Stmt):Expr:=oB (pR s)
noncomputable abbrev BS(s:Stmt):Expr:=nk (pR s)
noncomputable abbrev hH(op:CmpOp)(e:Expr):Expr:=.Compare (oB e) [op] [nk e] (wg e)
noncomputable abbrev z9(op:CmpOp)(s:Stmt):Stmt:=.If (hH op (pR s)) (vZ s) [] (vk s)
noncomputable abbrev pv(s:Stmt):Expr:=(Gu (pR s)).headD default
noncomputable abbrev pr(s:Stmt):Expr:=(Gu (pR s)).tail.headD default
noncomputable abbrev retS(s:Stmt):Stmt:=.Return (some (.BoolOp .And [hH .Eq (pv s),hH .Eq (pr s)] (wg (pR s)))) (vk s)
set_option backward.match.sparseCases true
section
variable {B:aQ} {A:Around} {bk:Env} {s:Stmt} {l:List Stmt} {E:Value→Shared→Prop} {eu:Shared}
theorem uV{op:CmpOp}{e e':Expr}{k:Value→Sem α}{Q:α→Shared→Prop}(ho:op=.NotEq∨op=.Eq)(nE:Bool)(p:Pos)
 (h:wpAny (MB B) A (eval e bk) (fun a cG=>wpAny (MB B) A (eval e' bk) (fun b dj=>gK B A dj op a b nE∧wpAny (MB B) A (k (.bool nE)) Q E dj) E cG) E eu):
 wpAny (MB B) A (eval e bk >>= fun v=>(markedEach [op] [e'] (evalEach [e'] bk)).headD (pure .none) |> fun r=>holding [v] r >>= fun rv=>standAt p >>= fun _=>operate [v,rv] (compareOp op v rv) >>= k) Q E eu:=by
 refine wpAny_bind (wpAny_mono h (fun a cG q=>?_) fun _ _ q=>q)
 rw[lN ho]
 refine wpAny_bind (wpAny_holding (wpAny_mono q (fun b dj q=>?_) fun _ _ q=>q))
 exact wpAny_bind (wpAny_standAt (wpAny_bind (wpAny_operating (q.1 _ _ q.2))))
theorem qC{op:CmpOp}{e:Expr}{Q:Value→Shared→Prop}(ho:op=.NotEq∨op=.Eq)(nE:Bool)
 (h:wpAny (MB B) A (eval (oB e) bk) (fun a cG=>wpAny (MB B) A (eval (nk e) bk) (fun b dj=>gK B A dj op a b nE∧Q (.bool nE) dj) E cG) E eu):wpAny (MB B) A (eval (hH op e) bk) Q E eu:=by
 show wpAny (MB B) A (eval (oB e) bk >>= fun v=>compareChain (wg e) v [op] (markedEach [op] [nk e] (evalEach [nk e] bk))) Q E eu
 refine wpAny_bind (wpAny_mono h (fun a cG q=>?_) fun _ _ q=>q)
 rw[lN ho]
 exact wpAny_bind (wpAny_holding (wpAny_mono q (fun b dj q=>wpAny_bind (wpAny_standAt (wpAny_operating (q.1 _ _ q.2)))) fun _ _ q=>q))
theorem pQ{op:CmpOp}{Q:Flow→Shared→Prop}(ho:op=.NotEq∨op=.Eq)(hl:l=[s])(ht:s=z9 op s)(nE:Bool)
 (h:wpAny (MB B) A (fN (BU s) bk) (fun a cG=>wpAny (MB B) A (fN (BS s) bk) (fun b dj=>gK B A dj op a b nE∧cond nE (wpAny (MB B) A (aj (vZ s) bk) Q E dj) (Q .next dj)) E cG) E eu):wpAny (MB B) A (aj l bk) Q E eu:=by
 subst hl
 rw[←cX] at h⊢
 rw[←jg] at h
 rw[ht]
 show wpAny (MB B) A (exec (z9 op s) bk >>= fun f=>match f with| .next=>execs [] bk|f=>pure f) Q E eu
 refine wpAny_bind ?_
 show wpAny (MB B) A (standAt (vk s) >>= fun _=>(isTrue (hH op (pR s)) bk (eval (hH op (pR s)) bk)) >>= fun b=>if b then execs (vZ s) bk else execs [] bk) _ E eu
 refine wpAny_bind (wpAny_standAt (wpAny_bind ?_))
 refine uV (k:=fun c=>holding [c] (truthy c)) ho nE (wg (pR s)) (wpAny_mono h (fun a cG q=>wpAny_mono q (fun b dj q=>⟨q.1,wpAny_holding (wpAny_truthy_bool ?_)⟩) fun _ _ q=>q) fun _ _ q=>q)
 have q:=q.2
 cases nE
 ·exact wpAny_pure (wpAny_pure q)
 ·refine wpAny_mono q (fun f lD q=>?_) fun _ _ q=>q
  cases f<;>exact wpAny_pure q
theorem lO{Q:Flow→Shared→Prop}(hl:l=[s])(ht:s=z9 .NotEq s)
 (h:wpAny (MB B) A (fN (BU s) bk) (fun a cG=>wpAny (MB B) A (fN (BS s) bk) (fun b dj=>gK B A dj .NotEq a b false∧Q .next dj) E cG) E eu):wpAny (MB B) A (aj l bk) Q E eu:=pQ (.inl rfl) hl ht false h
theorem nN{Q:Flow→Shared→Prop}(hl:l=[s])(ht:s=z9 .Eq s)(nE:Bool)
 (h:wpAny (MB B) A (fN (BU s) bk) (fun a cG=>wpAny (MB B) A (fN (BS s) bk) (fun b dj=>gK B A dj .Eq a b nE∧cond nE (wpAny (MB B) A (aj (vZ s) bk) Q E dj) (Q .next dj)) E cG) E eu):wpAny (MB B) A (aj l bk) Q E eu:=pQ (.inr rfl) hl ht nE h
theorem kD{Q:Flow→Shared→Prop}(hl:l=[s])(ht:s=retS s)
 (h:wpAny (MB B) A (fN (oB (pv s)) bk) (fun a cG=>wpAny (MB B) A (fN (nk (pv s)) bk) (fun b dj=>gK B A dj .Eq a b true∧
  wpAny (MB B) A (fN (oB (pr s)) bk) (fun a lD=>wpAny (MB B) A (fN (nk (pr s)) bk) (fun b mG=>gK B A mG .Eq a b true∧Q (.ret (.bool true)) mG) E lD) E dj) E cG) E eu):wpAny (MB B) A (aj l bk) Q E eu:=by
 subst hl
 rw[←cX]
 rw[←jg] at h
 rw[ht]
 show wpAny (MB B) A (execs [.Return (some (.BoolOp .And [hH .Eq (pv s),hH .Eq (pr s)] (wg (pR s)))) (vk s)] bk) Q E eu
 generalize pv s=e1 at h⊢
 generalize pr s=e2 at h⊢
 generalize wg (pR s)=p3
 show wpAny (MB B) A (exec (.Return (some (.BoolOp .And [hH .Eq e1,hH .Eq e2] p3)) (vk s)) bk >>= fun f=>match f with| .next=>execs [] bk|f=>pure f) Q E eu
 refine wpAny_bind ?_
 show wpAny (MB B) A (standAt (vk s) >>= fun _=>(eval (.BoolOp .And [hH .Eq e1,hH .Eq e2] p3) bk) >>= fun v=>pure (Flow.ret v)) _ E eu
 refine wpAny_bind (wpAny_standAt (wpAny_bind ?_))
 show wpAny (MB B) A (eval (hH .Eq e1) bk >>= fun v=>standAt p3 >>= fun _=>holding [v] (truthy v) >>= fun t=>match BoolOp.And,t with
  | .And,false| .Or,true=>pure v
  |_,_=>boolOp p3 .And [eval (hH .Eq e2) bk]) _ E eu
 refine wpAny_bind ?_
 refine qC (.inr rfl) true (wpAny_mono h (fun a cG q=>wpAny_mono q (fun b dj q=>⟨q.1,?_⟩) fun _ _ q=>q) fun _ _ q=>q)
 refine wpAny_bind (wpAny_standAt (wpAny_bind (wpAny_holding (wpAny_truthy_bool ?_))))
 exact qC (.inr rfl) true (wpAny_mono q.2 (fun a cG q=>wpAny_mono q (fun b dj q=>⟨q.1,wpAny_pure (wpAny_pure q.2)⟩) fun _ _ q=>q) fun _ _ q=>q)
end
section
variable {B:aQ} {A:Around} {R:Result→Shared→Prop} {h:Heap} {gl:Array GenState} {d:Drawn} {t:Nat} {os:OsState} {N:Nat} {tab:ae}
theorem eq_str(l:List Nat)(u v:Nat)(A:Around)(s:Shared):PySem.SeqAt.EqAt A s (.str (S l) u) (.str (S l) v) true:=by
 have q:=PySem.SeqAt.EqAt.str_str (A:=A) (s:=s) (S l) u (S l) v
 rw[beq_self_eq_true] at q
 exact q
theorem eq_int(a:Int)(u v:Nat)(A:Around)(s:Shared):PySem.SeqAt.EqAt A s (.int a u) (.int a v) true:=by
 have q:=PySem.SeqAt.EqAt.int_int (A:=A) (s:=s) a u a v
 rw[beq_self_eq_true] at q
 exact q
theorem gn(Rp:Rep B N h tab 0)(i n:Nat)(ws:List (List Nat×Nat)){a:Addr}{u:Nat}{items:Array Value}(hx:nth tab i=some (a,an items n))(hi:items=(ws.map fun p=>Value.str (S p.1) p.2).toArray){ls:List (List Nat)}(hl:ws.map (·.1)=ls)(h1:(dX ls).length≤2^20)
 (h2:Builtin.Str.tooLong ((ls.map S).toArray.foldl (·+·.length+(S []).length) 0)=false)
 (K:∀t' fS,R (.ok (.ret (.str (S (dX ls)) fS))) ⟨h,gl,d,t',os⟩):codeAny (MB B) A (.call (.builtin "str.join") ⟨[.str (S []) u,.ref a],[]⟩) R ⟨h,gl,d,t,os⟩:=by
 subst hl hi
 refine mJ Rp i n ws a hx h1 ?_ K
 have e:((ws.map fun p=>(S p.1,p.2)).map (·.1))=(ws.map (·.1)).map S:=by simp[Function.comp_def]
 rw[e]
 exact h2
end
section
variable {B:aQ} {A:Around} {h:Heap} {gl:Array GenState} {d:Drawn} {t:Nat} {os:OsState} {N:Nat} {tab:ae}
theorem hC(hu:A.units<cLine)(Rp:Rep B N h tab 0){l b:Addr}{a0 a1 b0 b1:Value}{n n2:Nat}(i j:Nat)(hx:nth tab i=some (l,an #[a0,a1] n))(hy:nth tab j=some (b,an #[b0,b1] n2))
 (e0:∀(A:Around) (s:Shared),PySem.SeqAt.EqAt A s a0 b0 true) (e1:∀(A:Around) (s:Shared),PySem.SeqAt.EqAt A s a1 b1 true):gK B A ⟨h,gl,d,t,os⟩ .NotEq (.ref l) (.ref b) false:=by
 intro Q E hq
 refine richCompare_meets_room (op:=.NotEq) ⟨_,Rp.at hx,rfl⟩ ⟨_,Rp.at hy,rfl⟩ PySem.F.slot_list_ne PySem.F.entry_list_ne (PySem.F.args_list_ne_2 _ _) (PySem.SeqAt.list_neAt l b #[a0,a1] #[b0,b1] n n2 none none #[] #[] rfl (fun _=>true))
  ⟨Rp.at hx,Rp.at hy,fun j h1 h2=>?_,⟨(fun x=>nomatch x),hq⟩⟩ hu
 have hj:j<2:=h1
 obtain rfl|rfl:j=0∨j=1:=by exact F0 hj
 ·exact e0 _ _
 ·exact e1 _ _
end
structure JF (ls:List (List Nat)) (b:Bool):Prop where
 len:(dX ls).length≤2^20
 tl:Builtin.Str.tooLong ((ls.map S).toArray.foldl (·+·.length+(S []).length) 0)=false
 ok:AP (dX ls)=true
 ck:nr (dX ls)=b
noncomputable def vm(m r:Nat):List (List Nat):=[bj (r%4)++[40],bj ((r+1)%4)++[if m=1 then 41 else 40],bj ((r+2)%4)++[if m=1 then 40 else 41],bj ((r+3)%4)++[41]]
theorem tV(r:Nat)(hr:r<4):JF ((vm 1 r).take 2) true∧JF ((vm 2 r).take 3) false∧JF ((vm 3 r).take 4) true:=by
 obtain rfl|rfl|rfl|rfl:r=0∨r=1∨r=2∨r=3:=by exact wR hr
 all_goals exact⟨⟨by decide+kernel,by decide+kernel,by decide+kernel,by decide+kernel⟩,⟨by decide+kernel,by decide+kernel,by decide+kernel,by decide+kernel⟩,⟨by decide+kernel,by decide+kernel,by decide+kernel,by decide+kernel⟩⟩
theorem tU(r:Nat)(hr:r<4):JF (vm 1 r).reverse false∧JF (vm 2 r).reverse false∧JF (vm 3 r).reverse false:=by
 obtain rfl|rfl|rfl|rfl:r=0∨r=1∨r=2∨r=3:=by exact wR hr
 all_goals exact⟨⟨by decide+kernel,by decide+kernel,by decide+kernel,by decide+kernel⟩,⟨by decide+kernel,by decide+kernel,by decide+kernel,by decide+kernel⟩,⟨by decide+kernel,by decide+kernel,by decide+kernel,by decide+kernel⟩⟩
structure iH (m:Nat) (l0 l1 l2 l3:List Nat):Prop where
 i0:IsL l0
 ne:(if m=1 then l2 else l1)≠l0
 p:(m=1∧l1=l0∧l3=l2∧IsL l2)∨(m=2∧l2=l0∧l3=l1∧IsL l1)∨(m=3∧l3=l0∧l2=l1∧IsL l1)
theorem yB(x:W2)(A:Around)(hh:A.handled=none)(hA:A.depth<500)(R:Result→Shared→Prop)(l0 l1 l2 l3:List Nat)(hp:iH 1 l0 l1 l2 l3)(o dh l a0 a1 a2 a3:Addr)(kl n u u0 u1 u2 u3 v0 v1 v2 v3:Nat)(N t:Nat)(h:Heap)(gl d os)(rest:ae)
 (Rp:Rep x.B N h ((l,an #[.ref a0,.ref a1,.ref a2,.ref a3] n)::(o,fQ dh)::(dh,fR x kl l)::(a0,aT l0 [48] u0 v0)::(a1,aT (fU l1) [49] u1 v1)::(a2,aT l2 [50] u2 v2)::(a3,aT (fU l3) [51] u3 v3)::rest) 0)
 (K:∀h' N' t' r,Rep x.B N' h' ((r,an #[.str (S [48]) v0,.str (S [49]) v1] 2)::rest) 0→R (.ok (.ret (.ref r))) ⟨h',gl,d,t',os⟩):
 codeAny (MB x.B) A (.call (.ref 205) ⟨[.ref o,.str (S (fU l0)) u],[]⟩) R ⟨h,gl,d,t,os⟩:=by
 obtain⟨i0,ne,hp⟩:=hp
 have hp:l1=l0∧l3=l2∧IsL l2:=by
  rcases hp with⟨e,q⟩|⟨e,q⟩|⟨e,q⟩<;>first|exact q|exact absurd e (by decide)
 obtain⟨rfl,rfl,j⟩:=hp
 rcases i0 with rfl|rfl<;>rcases j with rfl|rfl
 ·exact absurd rfl ne
 ·exact yy x A hh hA R o dh l a0 a1 a2 a3 kl n u u0 u1 u2 u3 v0 v1 v2 v3 N t h gl d os rest Rp K
 ·exact yx x A hh hA R o dh l a0 a1 a2 a3 kl n u u0 u1 u2 u3 v0 v1 v2 v3 N t h gl d os rest Rp K
 ·exact absurd rfl ne
theorem yA(x:W2)(A:Around)(hh:A.handled=none)(hA:A.depth<500)(R:Result→Shared→Prop)(l0 l1 l2 l3:List Nat)(hp:iH 2 l0 l1 l2 l3)(o dh l a0 a1 a2 a3:Addr)(kl n u u0 u1 u2 u3 v0 v1 v2 v3:Nat)(N t:Nat)(h:Heap)(gl d os)(rest:ae)
 (Rp:Rep x.B N h ((l,an #[.ref a0,.ref a1,.ref a2,.ref a3] n)::(o,fQ dh)::(dh,fR x kl l)::(a0,aT l0 [48] u0 v0)::(a1,aT (fU l1) [49] u1 v1)::(a2,aT l2 [50] u2 v2)::(a3,aT (fU l3) [51] u3 v3)::rest) 0)
 (K:∀h' N' t' r,Rep x.B N' h' ((r,an #[.str (S [48]) v0,.str (S [50]) v2] 2)::rest) 0→R (.ok (.ret (.ref r))) ⟨h',gl,d,t',os⟩):
 codeAny (MB x.B) A (.call (.ref 205) ⟨[.ref o,.str (S (fU l0)) u],[]⟩) R ⟨h,gl,d,t,os⟩:=by
 obtain⟨i0,ne,hp⟩:=hp
 have hp:l2=l0∧l3=l1∧IsL l1:=by
  rcases hp with⟨e,q⟩|⟨e,q⟩|⟨e,q⟩<;>first|exact q|exact absurd e (by decide)
 obtain⟨rfl,rfl,j⟩:=hp
 rcases i0 with rfl|rfl<;>rcases j with rfl|rfl
 ·exact absurd rfl ne
 ·exact yw x A hh hA R o dh l a0 a1 a2 a3 kl n u u0 u1 u2 u3 v0 v1 v2 v3 N t h gl d os rest Rp K
 ·exact yv x A hh hA R o dh l a0 a1 a2 a3 kl n u u0 u1 u2 u3 v0 v1 v2 v3 N t h gl d os rest Rp K
 ·exact absurd rfl ne
theorem yz(x:W2)(A:Around)(hh:A.handled=none)(hA:A.depth<500)(R:Result→Shared→Prop)(l0 l1 l2 l3:List Nat)(hp:iH 3 l0 l1 l2 l3)(o dh l a0 a1 a2 a3:Addr)(kl n u u0 u1 u2 u3 v0 v1 v2 v3:Nat)(N t:Nat)(h:Heap)(gl d os)(rest:ae)
 (Rp:Rep x.B N h ((l,an #[.ref a0,.ref a1,.ref a2,.ref a3] n)::(o,fQ dh)::(dh,fR x kl l)::(a0,aT l0 [48] u0 v0)::(a1,aT (fU l1) [49] u1 v1)::(a2,aT l2 [50] u2 v2)::(a3,aT (fU l3) [51] u3 v3)::rest) 0)
 (K:∀h' N' t' r,Rep x.B N' h' ((r,an #[.str (S [48]) v0,.str (S [51]) v3] 2)::rest) 0→R (.ok (.ret (.ref r))) ⟨h',gl,d,t',os⟩):
 codeAny (MB x.B) A (.call (.ref 205) ⟨[.ref o,.str (S (fU l0)) u],[]⟩) R ⟨h,gl,d,t,os⟩:=by
 obtain⟨i0,ne,hp⟩:=hp
 have hp:l3=l0∧l2=l1∧IsL l1:=by
  rcases hp with⟨e,q⟩|⟨e,q⟩|⟨e,q⟩<;>first|exact q|exact absurd e (by decide)
 obtain⟨rfl,rfl,j⟩:=hp
 rcases i0 with rfl|rfl<;>rcases j with rfl|rfl
 ·exact absurd rfl ne
 ·exact yu x A hh hA R o dh l a0 a1 a2 a3 kl n u u0 u1 u2 u3 v0 v1 v2 v3 N t h gl d os rest Rp K
 ·exact yt x A hh hA R o dh l a0 a1 a2 a3 kl n u u0 u1 u2 u3 v0 v1 v2 v3 N t h gl d os rest Rp K
 ·exact absurd rfl ne
theorem pa(bb:Bool)(x:W2)(A:Around)(hh:A.handled=none)(hA:A.depth<310)(hU:A.units<cLine)(Q:Flow→Shared→Prop)(F cb ll o dh hl pc b a0 a1 a2 a3:Addr)(k8 k9 v9 bB bV bU kl cf ca ce b9 lr lq ln lk lx lw lv lu f' fZ gD gY w0 w1 w2 w3 nl ub vb r rz:Nat)(n0 n1:Int)(lz l0 l1 l2 l3:List Nat)(ks kc kp up kd ud k1 v1 k2 v2 k3 k4 k5 k6 k7 v7:Nat)(P D sg sd CN:Int)(wd td el cl:Addr)(sl:Array (Option Value))(hm:n0%2=0)(hr:r<4)(hp:iH 1 l0 l1 l2 l3)
 (N t:Nat) (h:Heap) (gl d os) (fX:AllBare gl) (rest:ae)
 (Rp:Rep x.B N h ((b,an #[.int n0 ub,.int n1 vb] 2)::(F,eQ bb x ks kc cl k1 sg v1 k2 sd v2 k3 wd k4 td k5 wd k6 el k7 CN v7 kd D ud kp 3 up (fY x k8 b k9 v9 bB ll bU pc bV o [En x.B aw cf (.str (S lz) ca),En x.B az ce (.str (S (bj rz)) b9)]) (cond bb 18 17) sl)::(ll,iI l0 l1 l2 l3 w0 w1 w2 w3 nl)::(pc,an #[.str (S (bj (r%4)++[40])) f',.str (S (bj ((r+1)%4)++[41])) fZ,.str (S (bj ((r+2)%4)++[40])) gD,.str (S (bj ((r+3)%4)++[41])) gY] 4)::(hl,an #[.ref a0,.ref a1,.ref a2,.ref a3] 4)::(o,fQ dh)::(dh,fR x kl hl)::(a0,aT l0 [48] lr lx)::(a1,aT (fU l1) [49] lq lw)::(a2,aT l2 [50] ln lv)::(a3,aT (fU l3) [51] lk lu)::rest) 0)
 (K:∀h' N' t' aY ek ei,AllBare aY→Rep x.B N' h' ((b,an #[.int n0 ub,.int n1 vb] 2)::(F,eQ bb x ks kc cl k1 sg v1 k2 sd v2 k3 wd k4 td k5 wd k6 el k7 CN v7 kd D ud kp 3 up (fY x k8 b k9 v9 bB ll bU pc bV o [En x.B aw cf (.str (S lz) ca),En x.B az ce (.str (S (bj rz)) b9),En x.B cg ek (.int 1 ei)]) (cond bb 19 18) sl)::rest) 0→wpAny (MB x.B) A (aj (am (fdOf x.B 287) |>.drop 16) (au x F cb)) Q (fun _ _=>False) ⟨h',aY,d,t',os⟩):
 wpAny (MB x.B) A (aj (am (fdOf x.B 287) |>.drop 12) (au x F cb)) Q (fun _ _=>False) ⟨h,gl,d,t,os⟩:=by
 let sb:=bb
 cases bb
 all_goals
  have j1:=(tV r hr).1
  have j2:=(tU r hr).1
  refine bS 1 ?_
  refine ab hh Rp [aI "int.__mod__" [.int (n0) ub,.int 2 (t+1)] (0)] 41 (dA 0x31c1086181186187) [] Flow.next [] [.k,.u (dU [] [En x.B cg (t+5) (.int 1 (t+4))] (cond sb 19 18))] 0 6 ?_ (aC (aG (by decide) (by rw[Int.fmod_eq_emod_of_nonneg _ (by decide)];exact tK hm)) aN)
  intro bT h1 N1 t1 Rp
  show wpAny _ _ (aj ..) ..
  refine bS 1 ?_
  refine lO (s:=ah x.B 287 13) (by rfl') (by rfl') ?_
  refine aa hh Rp [] 45 (dA 0x820120820730b0410412c10412c10412c7) [] (cB "str.upper" [.str (S l0) w0]) [] [] 0 1 ?_
  intro bW h2 N2 t2 Rp dK
  refine gk x hh Rp hp.i0 fun qj qQ o8 o4 Rp=>?_
  show wpAny ..
  refine aa hh Rp [] 14 (dA 0x1) [] (cR 205 [.ref o,.str (S (fU l0)) o4]) [] [] 0 0 ?_
  intro cC h3 N3 t3 Rp eD
  refine yB x A hh (by exact xi hA) _ l0 l1 l2 l3 hp _ _ _ _ _ _ _ _ _ _ _ _ _ _ _ _ _ _ _ _ _ gl d os _ ((((Rp.mov 2 10).mov 2 10).mov 1 10).mov 0 10) fun sY kj c8 ra Rp=>?_
  show wpAny ..
  refine ab hh Rp [] 12 (dA 0x0) [] (.ref ra) [] [] 0 0 ?_
  intro db h4 N4 t4 Rp
  refine ab hh Rp [] 38 (dA 0x41041049041) (dM 3) (.ref (N4+0)) [(N4+0,oL #[.str (S [48]) (t4+0),.str (S [49]) (t4+1)] 0)] [] 1 2 ?_
  intro dv h5 N5 t5 Rp
  refine⟨hC hU Rp 1 0 rfl rfl (eq_str _ _ _) (eq_str _ _ _),?_⟩
  show wpAny _ _ (aj ..) ..
  refine bS 1 ?_
  refine aa hh Rp [] 45 (dA 0xa18618618a04a28a04a281) (dM 5) (cB "str.join" [.str (S []) (t5+0),.ref (N5+1)]) [(N5+1,oL #[.str (S (bj (r%4)++[40])) f',.str (S (bj ((r+1)%4)++[41])) fZ] 0)] [.d,.d] 2 3 ?_
  intro eN h6 N6 t6 Rp j4
  refine gn Rp 0 _ [(bj (r%4)++[40],f'),(bj ((r+1)%4)++[41],fZ)] rfl rfl rfl j1.len j1.tl fun tj vj=>?_
  show wpAny ..
  refine aa hh Rp [] 14 (dA 0x1) [] (cR 122 [(.str (S (dX (List.map (fun x=>x.fst) [(bj (r%4)++[40],f'),(bj ((r+1)%4)++[41],fZ)]))) vj)]) [] [.d] 0 0 ?_
  intro ie h7 N7 t7 Rp sT
  refine check x A hh (by exact vF hA) _ _ j1.ok true j1.ck _ _ _ _ _ _ _ fX _ Rp fun qi qP oG Gk fX Rp=>?_
  show wpAny ..
  refine ab hh Rp [] 21 (dA 0x48) [] Flow.next [] [] 0 1 ?_
  intro iG h8 N8 t8 Rp
  show wpAny _ _ (aj ..) ..
  refine bS 1 ?_
  refine aa hh Rp [] 43 (dA 0x206186186201208201201) (dM 5) (cB "str.join" [.str (S []) (t8+0),.ref (N8+1)]) [(N8+1,oL #[.str (S (bj ((r+3)%4)++[41])) gY,.str (S (bj ((r+2)%4)++[40])) gD,.str (S (bj ((r+1)%4)++[41])) fZ,.str (S (bj (r%4)++[40])) f'] 0)] [] 2 3 ?_
  intro iM h9 N9 t9 Rp sS
  refine gn Rp 0 _ [(bj ((r+3)%4)++[41],gY),(bj ((r+2)%4)++[40],gD),(bj ((r+1)%4)++[41],fZ),(bj (r%4)++[40],f')] rfl rfl rfl j2.len j2.tl fun tj vj=>?_
  show wpAny ..
  refine aa hh Rp [] 14 (dA 0x1) [] (cR 122 [(.str (S (dX (List.map (fun x=>x.fst) [(bj ((r+3)%4)++[41],gY),(bj ((r+2)%4)++[40],gD),(bj ((r+1)%4)++[41],fZ),(bj (r%4)++[40],f')]))) vj)]) [] [.d] 0 0 ?_
  intro iN lX mo fh Rp oj
  refine check x A hh (by exact vF hA) _ _ j2.ok false j2.ck _ _ _ _ _ _ _ fX _ Rp fun qh qO o7 Gj fX Rp=>?_
  show wpAny ..
  refine ab hh Rp [] 13 (dA 0x0) [] Flow.next [] [.d,.d] 0 0 ?_
  intro la m7 lc lC Rp
  exact K _ _ _ _ _ _ fX (Rp.mov 1 0)
theorem rj(x:W2)(A:Around)(hh:A.handled=none)(hA:A.depth<310)(hU:A.units<cLine)(Q:Flow→Shared→Prop)(F cb ll o dh hl pc b a0 a1 a2 a3:Addr)(k8 k9 v9 bB bV bU kl cf ca ce b9 lr lq ln lk lx lw lv lu f' fZ gD gY w0 w1 w2 w3 nl ub vb r rz:Nat)(n0 n1:Int)(lz l0 l1 l2 l3:List Nat)(ks kc kp up kd ud k1 v1 k2 v2 k3 k4 k5 k6 k7 v7:Nat)(P D sg sd CN:Int)(wd td el cl:Addr)(sl:Array (Option Value))(hm:n0%2=1∧n1%2=1)(hr:r<4)(hp:iH 2 l0 l1 l2 l3)
 (N t:Nat) (h:Heap) (gl d os) (fX:AllBare gl) (rest:ae)
 (Rp:Rep x.B N h ((b,an #[.int n0 ub,.int n1 vb] 2)::(F,qo x ks kc cl k1 sg v1 k2 sd v2 k3 wd k4 td k5 wd k6 el k7 CN v7 kd D ud kp 3 up (fY x k8 b k9 v9 bB ll bU pc bV o [En x.B aw cf (.str (S lz) ca),En x.B az ce (.str (S (bj rz)) b9)]) 18 sl)::(ll,iI l0 l1 l2 l3 w0 w1 w2 w3 nl)::(pc,an #[.str (S (bj (r%4)++[40])) f',.str (S (bj ((r+1)%4)++[40])) fZ,.str (S (bj ((r+2)%4)++[41])) gD,.str (S (bj ((r+3)%4)++[41])) gY] 4)::(hl,an #[.ref a0,.ref a1,.ref a2,.ref a3] 4)::(o,fQ dh)::(dh,fR x kl hl)::(a0,aT l0 [48] lr lx)::(a1,aT (fU l1) [49] lq lw)::(a2,aT l2 [50] ln lv)::(a3,aT (fU l3) [51] lk lu)::rest) 0)
 (K:∀h' N' t' aY ek ei,AllBare aY→Rep x.B N' h' ((b,an #[.int n0 ub,.int n1 vb] 2)::(F,qo x ks kc cl k1 sg v1 k2 sd v2 k3 wd k4 td k5 wd k6 el k7 CN v7 kd D ud kp 3 up (fY x k8 b k9 v9 bB ll bU pc bV o [En x.B aw cf (.str (S lz) ca),En x.B az ce (.str (S (bj rz)) b9),En x.B cg ek (.int 2 ei)]) 19 sl)::rest) 0→wpAny (MB x.B) A (aj (am (fdOf x.B 287) |>.drop 16) (au x F cb)) Q (fun _ _=>False) ⟨h',aY,d,t',os⟩):
 wpAny (MB x.B) A (aj (am (fdOf x.B 287) |>.drop 12) (au x F cb)) Q (fun _ _=>False) ⟨h,gl,d,t,os⟩:=by
 have j1:=(tV r hr).2.1
 have j2:=(tU r hr).2.1
 refine bS 1 ?_
 refine ab hh Rp [aI "int.__mod__" [.int (n0) ub,.int 2 (t+1)] (1),aI "int.__mod__" [.int (n1) vb,.int 2 (t+5)] (1)] 62 (dA 0xc70431860461861c1086181186187) [] Flow.next [] [.k,.u (dU [] [En x.B cg (t+9) (.int 2 (t+8))] 19)] 0 10 ?_ (aC (aG (by decide) (by rw[Int.fmod_eq_emod_of_nonneg _ (by decide)];omega)) (aC (aG (by decide) (by rw[Int.fmod_eq_emod_of_nonneg _ (by decide)];omega)) aN))
 intro bT h1 N1 t1 Rp
 show wpAny _ _ (aj ..) ..
 refine bS 1 ?_
 refine lO (s:=ah x.B 287 13) (by rfl') (by rfl') ?_
 refine aa hh Rp [] 45 (dA 0x820120820730b0410412c10412c10412c7) [] (cB "str.upper" [.str (S l0) w0]) [] [] 0 1 ?_
 intro bW h2 N2 t2 Rp dK
 refine gk x hh Rp hp.i0 fun qj qQ o8 o4 Rp=>?_
 show wpAny ..
 refine aa hh Rp [] 14 (dA 0x1) [] (cR 205 [.ref o,.str (S (fU l0)) o4]) [] [] 0 0 ?_
 intro cC h3 N3 t3 Rp eD
 refine yA x A hh (by exact xi hA) _ l0 l1 l2 l3 hp _ _ _ _ _ _ _ _ _ _ _ _ _ _ _ _ _ _ _ _ _ gl d os _ ((((Rp.mov 2 10).mov 2 10).mov 1 10).mov 0 10) fun sY kj c8 ra Rp=>?_
 show wpAny ..
 refine ab hh Rp [] 12 (dA 0x0) [] (.ref ra) [] [] 0 0 ?_
 intro db h4 N4 t4 Rp
 refine ab hh Rp [] 38 (dA 0x41041049041) (dM 3) (.ref (N4+0)) [(N4+0,oL #[.str (S [48]) (t4+0),.str (S [50]) (t4+1)] 0)] [] 1 2 ?_
 intro dv h5 N5 t5 Rp
 refine⟨hC hU Rp 1 0 rfl rfl (eq_str _ _ _) (eq_str _ _ _),?_⟩
 show wpAny _ _ (aj ..) ..
 refine bS 1 ?_
 refine aa hh Rp [] 45 (dA 0xa18618618a04a28a04a281) (dM 5) (cB "str.join" [.str (S []) (t5+0),.ref (N5+1)]) [(N5+1,oL #[.str (S (bj (r%4)++[40])) f',.str (S (bj ((r+1)%4)++[40])) fZ,.str (S (bj ((r+2)%4)++[41])) gD] 0)] [.d,.d] 2 3 ?_
 intro eN h6 N6 t6 Rp j4
 refine gn Rp 0 _ [(bj (r%4)++[40],f'),(bj ((r+1)%4)++[40],fZ),(bj ((r+2)%4)++[41],gD)] rfl rfl rfl j1.len j1.tl fun tj vj=>?_
 show wpAny ..
 refine aa hh Rp [] 14 (dA 0x1) [] (cR 122 [(.str (S (dX (List.map (fun x=>x.fst) [(bj (r%4)++[40],f'),(bj ((r+1)%4)++[40],fZ),(bj ((r+2)%4)++[41],gD)]))) vj)]) [] [.d] 0 0 ?_
 intro ie h7 N7 t7 Rp sT
 refine check x A hh (by exact vF hA) _ _ j1.ok false j1.ck _ _ _ _ _ _ _ fX _ Rp fun qi qP oG Gk fX Rp=>?_
 show wpAny ..
 refine ab hh Rp [] 21 (dA 0x48) [] Flow.next [] [] 0 1 ?_
 intro iG h8 N8 t8 Rp
 show wpAny _ _ (aj ..) ..
 refine bS 1 ?_
 refine aa hh Rp [] 43 (dA 0x206186186201208201201) (dM 5) (cB "str.join" [.str (S []) (t8+0),.ref (N8+1)]) [(N8+1,oL #[.str (S (bj ((r+3)%4)++[41])) gY,.str (S (bj ((r+2)%4)++[41])) gD,.str (S (bj ((r+1)%4)++[40])) fZ,.str (S (bj (r%4)++[40])) f'] 0)] [] 2 3 ?_
 intro iM h9 N9 t9 Rp sS
 refine gn Rp 0 _ [(bj ((r+3)%4)++[41],gY),(bj ((r+2)%4)++[41],gD),(bj ((r+1)%4)++[40],fZ),(bj (r%4)++[40],f')] rfl rfl rfl j2.len j2.tl fun tj vj=>?_
 show wpAny ..
 refine aa hh Rp [] 14 (dA 0x1) [] (cR 122 [(.str (S (dX (List.map (fun x=>x.fst) [(bj ((r+3)%4)++[41],gY),(bj ((r+2)%4)++[41],gD),(bj ((r+1)%4)++[40],fZ),(bj (r%4)++[40],f')]))) vj)]) [] [.d] 0 0 ?_
 intro iN lX mo fh Rp oj
 refine check x A hh (by exact vF hA) _ _ j2.ok false j2.ck _ _ _ _ _ _ _ fX _ Rp fun qh qO o7 Gj fX Rp=>?_
 show wpAny ..
 refine ab hh Rp [] 13 (dA 0x0) [] Flow.next [] [.d,.d] 0 0 ?_
 intro la m7 lc lC Rp
 exact K _ _ _ _ _ _ fX (Rp.mov 1 0)
theorem ri(x:W2)(A:Around)(hh:A.handled=none)(hA:A.depth<310)(hU:A.units<cLine)(Q:Flow→Shared→Prop)(F cb ll o dh hl pc b a0 a1 a2 a3:Addr)(k8 k9 v9 bB bV bU kl cf ca ce b9 lr lq ln lk lx lw lv lu f' fZ gD gY w0 w1 w2 w3 nl ub vb r rz:Nat)(n0 n1:Int)(lz l0 l1 l2 l3:List Nat)(ks kc kp up kd ud k1 v1 k2 v2 k3 k4 k5 k6 k7 v7:Nat)(P D sg sd CN:Int)(wd td el cl:Addr)(sl:Array (Option Value))(hm:n0%2=1∧n1%2=0)(hr:r<4)(hp:iH 3 l0 l1 l2 l3)
 (N t:Nat) (h:Heap) (gl d os) (fX:AllBare gl) (rest:ae)
 (Rp:Rep x.B N h ((b,an #[.int n0 ub,.int n1 vb] 2)::(F,qo x ks kc cl k1 sg v1 k2 sd v2 k3 wd k4 td k5 wd k6 el k7 CN v7 kd D ud kp 3 up (fY x k8 b k9 v9 bB ll bU pc bV o [En x.B aw cf (.str (S lz) ca),En x.B az ce (.str (S (bj rz)) b9)]) 18 sl)::(ll,iI l0 l1 l2 l3 w0 w1 w2 w3 nl)::(pc,an #[.str (S (bj (r%4)++[40])) f',.str (S (bj ((r+1)%4)++[40])) fZ,.str (S (bj ((r+2)%4)++[41])) gD,.str (S (bj ((r+3)%4)++[41])) gY] 4)::(hl,an #[.ref a0,.ref a1,.ref a2,.ref a3] 4)::(o,fQ dh)::(dh,fR x kl hl)::(a0,aT l0 [48] lr lx)::(a1,aT (fU l1) [49] lq lw)::(a2,aT l2 [50] ln lv)::(a3,aT (fU l3) [51] lk lu)::rest) 0)
 (K:∀h' N' t' aY ek ei,AllBare aY→Rep x.B N' h' ((b,an #[.int n0 ub,.int n1 vb] 2)::(F,qo x ks kc cl k1 sg v1 k2 sd v2 k3 wd k4 td k5 wd k6 el k7 CN v7 kd D ud kp 3 up (fY x k8 b k9 v9 bB ll bU pc bV o [En x.B aw cf (.str (S lz) ca),En x.B az ce (.str (S (bj rz)) b9),En x.B cg ek (.int 3 ei)]) 19 sl)::rest) 0→wpAny (MB x.B) A (aj (am (fdOf x.B 287) |>.drop 16) (au x F cb)) Q (fun _ _=>False) ⟨h',aY,d,t',os⟩):
 wpAny (MB x.B) A (aj (am (fdOf x.B 287) |>.drop 12) (au x F cb)) Q (fun _ _=>False) ⟨h,gl,d,t,os⟩:=by
 have j1:=(tV r hr).2.2
 have j2:=(tU r hr).2.2
 refine bS 1 ?_
 refine ab hh Rp [aI "int.__mod__" [.int (n0) ub,.int 2 (t+1)] (1),aI "int.__mod__" [.int (n1) vb,.int 2 (t+5)] (0)] 62 (dA 0xc70431860461861c1086181186187) [] Flow.next [] [.k,.u (dU [] [En x.B cg (t+9) (.int 3 (t+8))] 19)] 0 10 ?_ (aC (aG (by decide) (by rw[Int.fmod_eq_emod_of_nonneg _ (by decide)];omega)) (aC (aG (by decide) (by rw[Int.fmod_eq_emod_of_nonneg _ (by decide)];omega)) aN))
 intro bT h1 N1 t1 Rp
 show wpAny _ _ (aj ..) ..
 refine bS 1 ?_
 refine lO (s:=ah x.B 287 13) (by rfl') (by rfl') ?_
 refine aa hh Rp [] 45 (dA 0x820120820730b0410412c10412c10412c7) [] (cB "str.upper" [.str (S l0) w0]) [] [] 0 1 ?_
 intro bW h2 N2 t2 Rp dK
 refine gk x hh Rp hp.i0 fun qj qQ o8 o4 Rp=>?_
 show wpAny ..
 refine aa hh Rp [] 14 (dA 0x1) [] (cR 205 [.ref o,.str (S (fU l0)) o4]) [] [] 0 0 ?_
 intro cC h3 N3 t3 Rp eD
 refine yz x A hh (by exact xi hA) _ l0 l1 l2 l3 hp _ _ _ _ _ _ _ _ _ _ _ _ _ _ _ _ _ _ _ _ _ gl d os _ ((((Rp.mov 2 10).mov 2 10).mov 1 10).mov 0 10) fun sY kj c8 ra Rp=>?_
 show wpAny ..
 refine ab hh Rp [] 12 (dA 0x0) [] (.ref ra) [] [] 0 0 ?_
 intro db h4 N4 t4 Rp
 refine ab hh Rp [] 38 (dA 0x41041049041) (dM 3) (.ref (N4+0)) [(N4+0,oL #[.str (S [48]) (t4+0),.str (S [51]) (t4+1)] 0)] [] 1 2 ?_
 intro dv h5 N5 t5 Rp
 refine⟨hC hU Rp 1 0 rfl rfl (eq_str _ _ _) (eq_str _ _ _),?_⟩
 show wpAny _ _ (aj ..) ..
 refine bS 1 ?_
 refine aa hh Rp [] 45 (dA 0xa18618618a04a28a04a281) (dM 5) (cB "str.join" [.str (S []) (t5+0),.ref (N5+1)]) [(N5+1,oL #[.str (S (bj (r%4)++[40])) f',.str (S (bj ((r+1)%4)++[40])) fZ,.str (S (bj ((r+2)%4)++[41])) gD,.str (S (bj ((r+3)%4)++[41])) gY] 0)] [.d,.d] 2 3 ?_
 intro eN h6 N6 t6 Rp j4
 refine gn Rp 0 _ [(bj (r%4)++[40],f'),(bj ((r+1)%4)++[40],fZ),(bj ((r+2)%4)++[41],gD),(bj ((r+3)%4)++[41],gY)] rfl rfl rfl j1.len j1.tl fun tj vj=>?_
 show wpAny ..
 refine aa hh Rp [] 14 (dA 0x1) [] (cR 122 [(.str (S (dX (List.map (fun x=>x.fst) [(bj (r%4)++[40],f'),(bj ((r+1)%4)++[40],fZ),(bj ((r+2)%4)++[41],gD),(bj ((r+3)%4)++[41],gY)]))) vj)]) [] [.d] 0 0 ?_
 intro ie h7 N7 t7 Rp sT
 refine check x A hh (by exact vF hA) _ _ j1.ok true j1.ck _ _ _ _ _ _ _ fX _ Rp fun qi qP oG Gk fX Rp=>?_
 show wpAny ..
 refine ab hh Rp [] 21 (dA 0x48) [] Flow.next [] [] 0 1 ?_
 intro iG h8 N8 t8 Rp
 show wpAny _ _ (aj ..) ..
 refine bS 1 ?_
 refine aa hh Rp [] 43 (dA 0x206186186201208201201) (dM 5) (cB "str.join" [.str (S []) (t8+0),.ref (N8+1)]) [(N8+1,oL #[.str (S (bj ((r+3)%4)++[41])) gY,.str (S (bj ((r+2)%4)++[41])) gD,.str (S (bj ((r+1)%4)++[40])) fZ,.str (S (bj (r%4)++[40])) f'] 0)] [] 2 3 ?_
 intro iM h9 N9 t9 Rp sS
 refine gn Rp 0 _ [(bj ((r+3)%4)++[41],gY),(bj ((r+2)%4)++[41],gD),(bj ((r+1)%4)++[40],fZ),(bj (r%4)++[40],f')] rfl rfl rfl j2.len j2.tl fun tj vj=>?_
 show wpAny ..
 refine aa hh Rp [] 14 (dA 0x1) [] (cR 122 [(.str (S (dX (List.map (fun x=>x.fst) [(bj ((r+3)%4)++[41],gY),(bj ((r+2)%4)++[41],gD),(bj ((r+1)%4)++[40],fZ),(bj (r%4)++[40],f')]))) vj)]) [] [.d] 0 0 ?_
 intro iN lX mo fh Rp oj
 refine check x A hh (by exact vF hA) _ _ j2.ok false j2.ck _ _ _ _ _ _ _ fX _ Rp fun qh qO o7 Gj fX Rp=>?_
 show wpAny ..
 refine ab hh Rp [] 13 (dA 0x0) [] Flow.next [] [.d,.d] 0 0 ?_
 intro la m7 lc lC Rp
 exact K _ _ _ _ _ _ fX (Rp.mov 1 0)
noncomputable def iV(w v:Int×Int):Int×Int:=if w.1=1 then(v.1-w.2*v.2,v.2) else(v.1,v.2+w.2*v.1)
noncomputable def de(l:List (Int×Int))(v:Int×Int):Int×Int:=l.foldl (fun v w=>iV w v) v
noncomputable def jz(bs k S:Int):Prop:=(S=2^24∧(k-bs)%2=1)∨(S=2^23∧(k-bs)%2=0)
structure fJ (bs:Int) (c:C4) (x y:Int):Prop where
 ok:c.Ok
 d0:∃m,c.k0-c.k1=x+1048576*m
 d1:∃m,c.k1-c.k2=y+1048576*m
 al:∃m,c.k0-c.k1+c.k2-c.k3=1048576*m
 p0:jz bs c.k0 c.S0
 p1:jz bs c.k1 c.S1
 p2:jz bs c.k2 c.S2
 p3:jz bs c.k3 c.S3
 sm:c.S0+c.S1+c.S2+c.S3=50331648
theorem jW(q kx ky k:Int):∃m,mv q kx ky k=k+q*(kx-ky)+1048576*m:=by
 unfold mv
 rw[Int.fmod_eq_emod_of_nonneg _ (by decide)]
 generalize q*(kx-ky)=z
 exact⟨-((k+z%1048576)/1048576)-z/1048576,by omega⟩
theorem iq{bs k S q d:Int}(m:Int)(h:jz bs k S)(hq:q%2=0):jz bs (k+q*d+1048576*m) S:=by
 have e:q*d=2*(q/2*d):=by rw[←Int.mul_assoc];congr 1;omega
 rw[e]
 generalize q/2*d=z
 unfold jz at h⊢
 omega
theorem gq{bs k S k' q d:Int}(m:Int)(h:jz bs k' S)(hq:q%2=1)(hk:(k+d-k')%2=0):jz bs (k+q*d+1048576*m) S:=by
 have e:q*d=2*(q/2*d)+d:=by
  have:q=2*(q/2)+1:=by omega
  conv=>lhs;rw[this,Int.add_mul,Int.one_mul,Int.mul_assoc]
 rw[e]
 generalize q/2*d=z
 unfold jz at h⊢
 omega
theorem fJ.tw{bs:Int}{c:C4}{x y:Int}(h:fJ bs c x y)(p q:Int)(hp:p=0∨p=1∨p=2):fJ bs (c.tw p q) (iV (p,q) (x,y)).1 (iV (p,q) (x,y)).2:=by
 have fb:=h.ok.tw p q
 obtain⟨ok,⟨m0,d0⟩,⟨m1,d1⟩,⟨ml,al⟩,p0,p1,p2,p3,sm⟩:=h
 rcases hp with rfl|rfl|rfl
 ·obtain⟨a,ea⟩:=jW q c.k0 c.k1 c.k0
  obtain⟨b,eb⟩:=jW q c.k0 c.k1 c.k1
  have eq:q*(c.k0-c.k1)=q*x+1048576*(q*m0):=by rw[d0,Int.mul_add,Int.mul_left_comm]
  have hx:iV (0,q) (x,y)=(x,y+q*x):=rfl
  rw[hx]
  unfold C4.tw at fb⊢
  rw[if_pos rfl] at fb⊢
  refine⟨fb,⟨m0+a-b,?_⟩,⟨m1+b+q*m0,?_⟩,⟨ml+a-b,?_⟩,?_,?_,p2,p3,?_⟩
  ·show mv q c.k0 c.k1 c.k0-mv q c.k0 c.k1 c.k1=x+1048576*(m0+a-b)
   rw[ea,eb];exact Ds d0
  ·show mv q c.k0 c.k1 c.k1-c.k2=y+q*x+1048576*(m1+b+q*m0)
   rw[eb,eq];generalize q*x=u;generalize q*m0=v;omega
  ·show mv q c.k0 c.k1 c.k0-mv q c.k0 c.k1 c.k1+c.k2-c.k3=1048576*(ml+a-b)
   rw[ea,eb];omega
  ·show jz bs (mv q c.k0 c.k1 c.k0) (if q%2=0 then c.S0 else c.S1)
   rw[ea];split
   ·exact iq a p0 (by assumption)
   ·exact gq a p1 (by omega) (by exact AS)
  ·show jz bs (mv q c.k0 c.k1 c.k1) (if q%2=0 then c.S1 else c.S0)
   rw[eb];split
   ·exact iq b p1 (by assumption)
   ·exact gq b p0 (by omega) (by exact AR)
  ·show(if q%2=0 then c.S0 else c.S1)+(if q%2=0 then c.S1 else c.S0)+c.S2+c.S3=50331648
   split<;>omega
 ·obtain⟨a,ea⟩:=jW q c.k1 c.k2 c.k1
  obtain⟨b,eb⟩:=jW q c.k1 c.k2 c.k2
  have eq:q*(c.k1-c.k2)=q*y+1048576*(q*m1):=by rw[d1,Int.mul_add,Int.mul_left_comm]
  have hx:iV (1,q) (x,y)=(x-q*y,y):=rfl
  rw[hx]
  unfold C4.tw at fb⊢
  rw[if_neg (by decide),if_pos rfl] at fb⊢
  refine⟨fb,⟨m0-a-q*m1,?_⟩,⟨m1+a-b,?_⟩,⟨ml-a+b,?_⟩,p0,?_,?_,p3,?_⟩
  ·show c.k0-mv q c.k1 c.k2 c.k1=x-q*y+1048576*(m0-a-q*m1)
   rw[ea,eq];generalize q*y=u;generalize q*m1=v;omega
  ·show mv q c.k1 c.k2 c.k1-mv q c.k1 c.k2 c.k2=y+1048576*(m1+a-b)
   rw[ea,eb];exact Ds d1
  ·show c.k0-mv q c.k1 c.k2 c.k1+mv q c.k1 c.k2 c.k2-c.k3=1048576*(ml-a+b)
   rw[ea,eb];omega
  ·show jz bs (mv q c.k1 c.k2 c.k1) (if q%2=0 then c.S1 else c.S2)
   rw[ea];split
   ·exact iq a p1 (by assumption)
   ·exact gq a p2 (by omega) (by exact AS)
  ·show jz bs (mv q c.k1 c.k2 c.k2) (if q%2=0 then c.S2 else c.S1)
   rw[eb];split
   ·exact iq b p2 (by assumption)
   ·exact gq b p1 (by omega) (by exact AR)
  ·show c.S0+(if q%2=0 then c.S1 else c.S2)+(if q%2=0 then c.S2 else c.S1)+c.S3=50331648
   split<;>omega
 ·obtain⟨a,ea⟩:=jW q c.k2 c.k3 c.k2
  obtain⟨b,eb⟩:=jW q c.k2 c.k3 c.k3
  have d2:c.k2-c.k3= -x+1048576*(ml-m0):=by omega
  have eq:q*(c.k2-c.k3)= -(q*x)+1048576*(q*(ml-m0)):=by rw[d2,Int.mul_add,Int.mul_left_comm,Int.mul_neg]
  have hx:iV (2,q) (x,y)=(x,y+q*x):=rfl
  rw[hx]
  unfold C4.tw at fb⊢
  rw[if_neg (by decide),if_neg (by decide)] at fb⊢
  refine⟨fb,⟨m0,d0⟩,⟨m1-a-q*(ml-m0),?_⟩,⟨ml+a-b,?_⟩,p0,p1,?_,?_,?_⟩
  ·show c.k1-mv q c.k2 c.k3 c.k2=y+q*x+1048576*(m1-a-q*(ml-m0))
   rw[ea,eq];generalize q*x=u;generalize q*(ml-m0)=v;omega
  ·show c.k0-c.k1+mv q c.k2 c.k3 c.k2-mv q c.k2 c.k3 c.k3=1048576*(ml+a-b)
   rw[ea,eb];omega
  ·show jz bs (mv q c.k2 c.k3 c.k2) (if q%2=0 then c.S2 else c.S3)
   rw[ea];split
   ·exact iq a p2 (by assumption)
   ·exact gq a p3 (by omega) (by exact AS)
  ·show jz bs (mv q c.k2 c.k3 c.k3) (if q%2=0 then c.S3 else c.S2)
   rw[eb];split
   ·exact iq b p3 (by assumption)
   ·exact gq b p2 (by omega) (by exact AR)
  ·show c.S0+c.S1+(if q%2=0 then c.S2 else c.S3)+(if q%2=0 then c.S3 else c.S2)=50331648
   split<;>omega
theorem fJ.run{bs:Int}:∀(l:List (Int×Int)) (_:∀w∈l,w.1=0∨w.1=1∨w.1=2) {c:C4} {v:Int×Int},fJ bs c v.1 v.2→fJ bs (c.run l) (de l v).1 (de l v).2
 |[],_,_,_,h=>h
 |w::l,hl,_,_,h=>fJ.run l (fun w' m=>hl w' (.tail _ m)) (v:=iV w _) (h.tw w.1 w.2 (hl w (.head _)))
theorem sD{bs:Int}(h0:0≤bs)(h8:bs<8):fJ bs (iF bs) 0 1:=by
 refine⟨jj h0 h8,⟨0,?_⟩,⟨0,?_⟩,⟨0,?_⟩,.inl ⟨rfl,?_⟩,.inl ⟨rfl,?_⟩,.inr ⟨rfl,?_⟩,.inr ⟨rfl,?_⟩,rfl⟩<;>(simp only[iF];omega)
theorem cW{d x:Int}(h:∃m,d=x+1048576*m)(h1:-(2^19)<x)(h2:x<2^19):fW d=x:=by
 obtain⟨m,rfl⟩:=h
 unfold fW
 split<;>omega
theorem Gz{n a K:Int}(hn:-9≤n∧n≤9)(ha:-K≤a∧a≤K):-(9*K)≤n*a∧n*a≤9*K:=by
 have h1:(n*a).natAbs≤9*K.natAbs:=by
  rw[Int.natAbs_mul]
  exact Nat.mul_le_mul (by omega) (by omega)
 omega
theorem tP{w v:Int×Int}{K:Int}(hw:-9≤w.2∧w.2≤9)(h1:-K≤v.1∧v.1≤K)(h2:-K≤v.2∧v.2≤K):(-(10*K)≤(iV w v).1∧(iV w v).1≤10*K)∧(-(10*K)≤(iV w v).2∧(iV w v).2≤10*K):=by
 have b1:=Gz hw h1
 have b2:=Gz hw h2
 unfold iV
 split
 ·exact⟨⟨by show _≤v.1-w.2*v.2;omega,by show v.1-w.2*v.2≤_;omega⟩,⟨by show _≤v.2;exact Dr h2,by show v.2≤_;exact Dq h2⟩⟩
 ·exact⟨⟨by show _≤v.1;exact Dr h1,by show v.1≤_;exact Dq h1⟩,⟨by show _≤v.2+w.2*v.1;omega,by show v.2+w.2*v.1≤_;omega⟩⟩
theorem iv:∀(l:List (Int×Int)) (_:∀w∈l,-9≤w.2∧w.2≤9) {v:Int×Int} {K:Int},0≤K→-K≤v.1∧v.1≤K→-K≤v.2∧v.2≤K→(-(10^l.length*K)≤(de l v).1∧(de l v).1≤10^l.length*K)∧(-(10^l.length*K)≤(de l v).2∧(de l v).2≤10^l.length*K)
 |[],_,v,K,_,h1,h2=>by
  rw[List.length_nil,Int.pow_zero,Int.one_mul]
  exact⟨h1,h2⟩
 |w::l,hl,v,K,h0,h1,h2=>by
  have b:=tP (hl w (.head _)) h1 h2
  have:=iv l (fun w' m=>hl w' (.tail _ m)) (v:=iV w v) (K:=10*K) (by omega) b.1 b.2
  rw[←Int.mul_assoc,←Int.pow_succ] at this
  exact this
theorem nD:∀(l:List (Int×Int)),∃a b c d:Int,(∀u v,de l (u,v)=(u*a+v*b,u*c+v*d))∧(∀u v,de l.reverse (u,v)=(u*d+v*b,u*c+v*a))∧a*d-b*c=1
 |[]=>⟨1,0,0,1,fun u v=>by show(u,v)=_;simp,fun u v=>by show(u,v)=_;simp,by decide⟩
 |w::l=>by
  obtain⟨a,b,c,d,h1,h2,h3⟩:=nD l
  have e1:∀v,de (w::l) v=de l (iV w v):=fun _=>rfl
  have e2:∀v,de (w::l).reverse v=iV w (de l.reverse v):=fun v=>by
   unfold de
   rw[List.reverse_cons,List.foldl_append];rfl
  by_cases hp:w.1=1
  ·refine⟨a,b-w.2*a,c,d-w.2*c,fun u v=>?_,fun u v=>?_,by grind⟩
   ·rw[e1];unfold iV;rw[if_pos hp,h1]
    exact Prod.ext (by show(u-w.2*v)*a+v*b=_;grind) (by show(u-w.2*v)*c+v*d=_;grind)
   ·rw[e2,h2];unfold iV;rw[if_pos hp]
    exact Prod.ext (by show u*d+v*b-w.2*(u*c+v*a)=_;grind) (by show u*c+v*a=_;grind)
  ·refine⟨a+w.2*b,b,c+w.2*d,d,fun u v=>?_,fun u v=>?_,by grind⟩
   ·rw[e1];unfold iV;rw[if_neg hp,h1]
    exact Prod.ext (by show u*a+(v+w.2*u)*b=_;grind) (by show u*c+(v+w.2*u)*d=_;grind)
   ·rw[e2,h2];unfold iV;rw[if_neg hp]
    exact Prod.ext (by show u*d+v*b=_;grind) (by show u*c+v*a+w.2*(u*d+v*b)=_;grind)
noncomputable def qR(k:Nat)(sg D d:Int):Prop:=D.natAbs<2^17∧d.natAbs<2^17∧
 ((k=0∧(sg=1∨sg= -1))∨(k=1∧sg=1∧d.natAbs<D.natAbs)∨
  (2≤k∧sg=1∧((0≤D∧0≤d)∨(D≤0∧d≤0))∧d.natAbs<D.natAbs∧∃a b:Nat,D.natAbs<2^a∧d.natAbs<2^b∧a+b+k=36))
theorem qR.le{k:Nat}{sg D d:Int}(h:qR k sg D d):k≤36:=by
 obtain⟨_,_,h|h|⟨_,_,_,_,a,b,_,_,h⟩⟩:=h<;>omega
theorem qR.sg{k:Nat}{sg D d:Int}(h:qR k sg D d):sg=1∨(k=0∧sg= -1):=by
 obtain⟨_,_,h|h|⟨_,h,_⟩⟩:=h<;>omega
theorem rY{D r:Nat}{a:Nat}(h:2*r<D)(hD:D<2^a)(ha:1≤a):r<2^(a-1):=by
 obtain⟨b,rfl⟩:∃b,a=b+1:=⟨a-1,by omega⟩
 rw[Nat.pow_succ] at hD
 rw[Nat.add_sub_cancel]
 omega
theorem qe{D d q r:Int}(e:d*q+r=D)(hs:(0≤D∧0≤d)∨(D≤0∧d≤0))(hd:d≠0)(hl:d.natAbs<D.natAbs)(hr:(0<d→0≤r∧r<d)∧(d<0→d<r∧r≤0)):2*r.natAbs<D.natAbs:=by
 have hq:1≤q:=by
  refine Int.not_lt.mp fun h=>?_
  have h0:q≤0:=by omega
  rcases hs with⟨h1,h2⟩|⟨h1,h2⟩
  ·have:=Int.mul_nonpos_of_nonneg_of_nonpos h2 h0
   omega
  ·have:=Int.mul_nonneg_of_nonpos_of_nonpos h2 h0
   omega
 rcases hs with⟨h1,h2⟩|⟨h1,h2⟩
 ·have:d*1≤d*q:=Int.mul_le_mul_of_nonneg_left hq h2
  omega
 ·have:d*q≤d*1:=Int.mul_le_mul_of_nonpos_left h2 hq
  omega
theorem qR.step{k:Nat}{sg D d:Int}(h:qR k sg D d)(hd:d≠0){q r:Int}(hq:(sg*D).fdiv d=q)(hr:(sg*D).fmod d=r):
 qR (k+1) 1 d (sg*r)∧0≤r*d∧r.natAbs<d.natAbs∧(-(2^18)≤q∧q≤2^18)∧sg*r=D-sg*q*d:=by
 obtain⟨_,e,f1,f2⟩:=fdiv_fmod_facts (sg*D) d
 rw[hq,hr] at e
 rw[hr] at f1 f2
 have mX:r.natAbs<d.natAbs:=by omega
 have B7:sg=1∨sg= -1:=by have:=h.sg;omega
 have jc:0≤r*d:=by
  rcases Int.lt_or_gt_of_ne hd with c|c
  ·exact Int.mul_nonneg_of_nonpos_of_nonpos (f2 c).2 (by exact AQ c)
  ·exact Int.mul_nonneg (f1 c).1 (by exact qS c)
 have F7:(sg*r).natAbs=r.natAbs:=by rcases B7 with rfl|rfl<;>omega
 have hsD:(sg*D).natAbs=D.natAbs:=by rcases B7 with rfl|rfl<;>omega
 have hD:=h.1
 have rX:=h.2.1
 have hqb:-(2^18)≤q∧q≤2^18:=by
  have h1:(d*q).natAbs<2^18:=by exact GS e mX hsD hD rX
  rw[Int.natAbs_mul] at h1
  have h2:1*q.natAbs≤d.natAbs*q.natAbs:=Nat.mul_le_mul_right _ (by omega)
  omega
 have h3:=h.2.2
 refine⟨⟨rX,by rw[F7];exact Nat.lt_trans mX rX,?_⟩,jc,mX,hqb,?_⟩
 ·rcases h3 with⟨rfl,_⟩|⟨rfl,rfl,_⟩|⟨hk,rfl,hs,hl,a,b,ha,hb,hab⟩
  ·exact .inr (.inl ⟨rfl,rfl,by omega⟩)
  ·refine .inr (.inr ⟨by decide,rfl,?_,by exact Dp mX,17,17,rX,by omega,rfl⟩)
   rcases Int.lt_or_gt_of_ne hd with c|c
   ·exact .inr ⟨by exact AQ c,by have:=(f2 c).2;exact Do this⟩
   ·exact .inl ⟨by exact qS c,by have:=(f1 c).1;exact Dn this⟩
  ·have e':d*q+r=D:=by rw[e];omega
   have hh:=qe e' hs hd hl ⟨f1,f2⟩
   have jw:1≤a:=by
    refine Nat.pos_of_ne_zero fun z=>?_
    subst z
    omega
   refine .inr (.inr ⟨by exact GR hk,rfl,?_,by exact Dp mX,b,a-1,hb,?_,by omega⟩)
   ·rcases Int.lt_or_gt_of_ne hd with c|c
    ·exact .inr ⟨by exact AQ c,by have:=(f2 c).2;exact Do this⟩
    ·exact .inl ⟨by exact qS c,by have:=(f1 c).1;exact Dn this⟩
   ·rw[F7];exact rY hh ha jw
 ·have:r=sg*D-d*q:=by omega
  rw[this]
  rcases B7 with rfl|rfl<;>grind
noncomputable def Eu(k:Nat)(sg x y:Int):Prop:=if k%2=0 then qR k sg x y else qR k sg y x
theorem fm{bs k k' S S':Int}(h:jz bs k S)(h':jz bs k' S')(e:(k-k')%2=0):S=S':=by
 unfold jz at h h'
 omega
theorem jT{bs k k' S S':Int}(h:jz bs k S)(h':jz bs k' S')(e:(k-k')%2=1):(S=2^24∧S'=2^23)∨(S=2^23∧S'=2^24):=by
 unfold jz at h h'
 omega
theorem fJ.zero0{bs:Int}{c:C4}{y:Int}(h:fJ bs c 0 y):c.k0=c.k1∧c.S0=c.S1∧c.k2=c.k3∧c.S2=c.S3:=by
 obtain⟨ok,⟨m0,d0⟩,⟨m1,d1⟩,⟨ml,al⟩,p0,p1,p2,p3,sm⟩:=h
 obtain⟨a0,b0⟩:=ok.k0
 obtain⟨a1,b1⟩:=ok.k1
 obtain⟨a2,b2⟩:=ok.k2
 obtain⟨a3,b3⟩:=ok.k3
 have e0:c.k0=c.k1:=by exact Dm d0 a0 b0 a1 b1
 have e2:c.k2=c.k3:=by omega
 exact⟨e0,fm p0 p1 (by exact zD e0),e2,fm p2 p3 (by exact zD e2)⟩
theorem fJ.zero1{bs:Int}{c:C4}{x:Int}(h:fJ bs c x 0):c.k1=c.k2∧c.S1=c.S2∧c.k0=c.k3∧c.S0=c.S3:=by
 obtain⟨ok,⟨m0,d0⟩,⟨m1,d1⟩,⟨ml,al⟩,p0,p1,p2,p3,sm⟩:=h
 obtain⟨a0,b0⟩:=ok.k0
 obtain⟨a1,b1⟩:=ok.k1
 obtain⟨a2,b2⟩:=ok.k2
 obtain⟨a3,b3⟩:=ok.k3
 have e1:c.k1=c.k2:=by exact Dm d1 a1 b1 a2 b2
 have e0:c.k0=c.k3:=by exact GQ al a0 b0 a3 b3 e1
 exact⟨e1,fm p1 p2 (by exact zD e1),e0,fm p0 p3 (by exact zD e0)⟩
noncomputable def gb(n0 n1:Int):Nat:=if n0%2=0 then 1 else if n1%2=0 then 3 else 2
structure qM (m:Nat) (c:C4):Prop where
 s:(m=1∧c.S1=c.S0∧c.S3=c.S2∧c.S2≠c.S0)∨(m=2∧c.S2=c.S0∧c.S3=c.S1∧c.S1≠c.S0)∨(m=3∧c.S3=c.S0∧c.S2=c.S1∧c.S1≠c.S0)
theorem fJ.shares{bs:Int}{c:C4}{x y:Int}(h:fJ bs c x y):qM (gb x y) c:=by
 obtain⟨ok,⟨m0,d0⟩,⟨m1,d1⟩,⟨ml,al⟩,p0,p1,p2,p3,sm⟩:=h
 unfold gb
 refine⟨?_⟩
 split
 ·have e:=fm p0 p1 (by omega)
  have i0:=ok.S0
  have i2:=ok.S2
  have i3:=ok.S3
  unfold bg at i0 i2 i3
  exact .inl ⟨rfl,by exact Dl e,by omega,by omega⟩
 ·have e:=jT p0 p1 (by omega)
  split
  ·have e2:=fm p1 p2 (by omega)
   exact .inr (.inr ⟨rfl,by omega,by exact Dl e2,by exact Dk e⟩)
  ·have e2:=jT p1 p2 (by omega)
   exact .inr (.inl ⟨rfl,by exact GP e e2,by exact GO sm e e2,by exact Dk e⟩)
section
variable {B:aQ} {A:Around} {R:Result→Shared→Prop} {h:Heap} {gl:Array GenState} {d:Drawn} {t:Nat} {os:OsState} {N:Nat} {tab:ae}
noncomputable abbrev gR(k l:Int):Obj:=⟨.type "range_iterator",none,.fields #[.int k 0,.int l 0,.int 1 0],#[]⟩
theorem gp{it:Addr}{x l x' l':Int}(Rp:Rep B N h ((it,gR x l)::tab) 0)(hl:0<l)(hx:x+1=x')(hl':l-1=l')
 (K:∀h',Rep B N h' ((it,gR x' l')::tab) 0→R (.ok (.ret (.int x t))) ⟨h',gl,d,t+1,os⟩):codeAny (MB B) A (.call (.builtin "range_iterator.__next__") ⟨[.ref it],[]⟩) R ⟨h,gl,d,t,os⟩:=by
 subst hx hl'
 have hit:h.get? it=some (gR x l):=Rp.at (n:=0) rfl
 refine gm PySem.F.slot_range_iterator_next ⟨_,hit,rfl⟩ PySem.F.entry_range_iterator_next (PySem.F.args_range_iterator_next_1 _) (AutoRange.range_iterator___next___range_iterator_1 it x l 1 (by omega)) ⟨hit,?_⟩
 have q:=Rp.upd (n:=0) (p:=(it,gR x l)) (f:=Obj.mapFields fun y=>y.setIfInBounds 0 (rawInt (x+1))) rfl rfl rfl
 have q2:=q.upd (n:=0) (p:=(it,Obj.mapFields (fun y=>y.setIfInBounds 0 (rawInt (x+1))) (gR x l))) (f:=Obj.mapFields fun y=>y.setIfInBounds 1 (rawInt (l-1))) rfl rfl rfl
 exact K _ q2
end
section
variable {B:aQ} {A:Around} {R:Result→Shared→Prop} {h:Heap} {gl:Array GenState} {d:Drawn} {t:Nat} {os:OsState} {N:Nat} {tab:ae}
theorem j7(hh:A.handled=none)(Rp:Rep B N h tab 0){i:Int}{u:Nat}(K:∀h' N' t' v,Rep B N' h' tab 0→R (.ok (.ret (.int i.natAbs v))) ⟨h',gl,d,t',os⟩):
 codeAny (MB B) A (.call (.builtin "abs") ⟨[.int i u],[]⟩) R ⟨h,gl,d,t,os⟩:=by
 cases i with
 |ofNat n=>
  refine aX hh Rp [] 15 (dA 0x1) [] (.ok (.ret (.int (Int.ofNat n) u))) [] [] 0 0 ?_
  intro bT h1 N1 t1 Rp
  exact K _ _ _ _ Rp
 |negSucc n=>
  refine aX hh Rp [] 16 (dA 0x1) [] (.ok (.ret (.int (-Int.negSucc n) (t+0)))) [] [] 0 1 ?_
  intro bT h1 N1 t1 Rp
  exact K _ _ _ _ Rp
end
theorem yE(bb:Bool)(x:W2)(A:Around)(hh:A.handled=none)(hA:A.depth<330)(R:Result→Shared→Prop)(F cb b ll o pc:Addr)(k8 k9 v9 bB bV bU cf ca ce b9 ek ei rz:Nat)(lz:List Nat)(mt:Int)(it:Addr)(ub vb:Nat)(n0 n1 q r sg:Int)(ks kc kp up kd ud k1 v1 k2 v2 k3 k4 k5 k6 k7 v7:Nat)(P D sd CN:Int)(wd td el cl:Addr)(sl:Array (Option Value))(k:Nat)(gv:A.frames=some [au x F cb])(hk:k%2=0)(jd:k<40)(jc:sd=0∨sd=2)(hs:sg=1∨sg= -1)(bD:n0.natAbs<2^17)(bd:n1.natAbs<2^17)(yj:n1≠0)(hq:(sg*n0).fdiv n1=q)(hr:(sg*n0).fmod n1=r)(h1:0≤r*n1)(h2:r.natAbs<n1.natAbs)(bq:-(2^18)≤q∧q≤2^18)(c:C4)(hc:c.Ok)(ne:Nat)(cs:ae)(E:Ends c el ne cs)
 (N t:Nat) (h:Heap) (gl d os) (rest:ae)
 (Rp:Rep x.B N h ((it,gR (k:Int) (40- (k:Int)))::(b,an #[.int n0 ub,.int n1 vb] 2)::(F,eQ bb x ks kc cl k1 sg v1 k2 sd v2 k3 wd k4 td k5 wd k6 el k7 CN v7 kd D ud kp 3 up (fY x k8 b k9 v9 bB ll bU pc bV o [En x.B aw cf (.str (S lz) ca),En x.B az ce (.str (S (bj rz)) b9),En x.B cg ek (.int mt ei)]) (cond bb 19 18) sl)::(cs++rest)) 0)
 (K:∀h' N' t' ub vb k9 v9 fu fg ft ff gG gE v1 k6 sl be,Ends (c.tw 1 (sg*q)) el ne be→Rep x.B N' h' ((it,gR ((k+1:Nat):Int) (40- ((k+1:Nat):Int)))::(b,an #[.int (sg*r) ub,.int n1 vb] 2)::(F,eQ bb x ks kc cl k1 1 v1 k2 sd v2 k3 wd k4 td k5 wd k6 el k7 CN v7 kd D ud kp 3 up [En x.B aM k8 (.ref b),En x.B bH k9 (.int r v9),En x.B br bB (.ref ll),En x.B cr bU (.ref pc),En x.B cS bV (.ref o),En x.B aw cf (.str (S lz) ca),En x.B az ce (.str (S (bj rz)) b9),En x.B cg ek (.int mt ei),En x.B dr fu (.int (k:Int) fg),En x.B ds ft (.int 0 ff),En x.B dm gG (.int q gE)] (cond bb 22 21) sl)::(be++rest)) 0→codeAny (MB x.B) A (ai (ah x.B 287 16) (.ref it) (au x F cb)) R ⟨h',gl,d,t',os⟩):
 codeAny (MB x.B) A (ai (ah x.B 287 16) (.ref it) (au x F cb)) R ⟨h,gl,d,t,os⟩:=by
 let sb:=bb
 cases bb
 all_goals
  obtain⟨P0,je⟩:∃z,sg*n0=z:=⟨_,rfl⟩
  obtain⟨P1,sX⟩:∃z,r*n1=z:=⟨_,rfl⟩
  obtain⟨P2,sW⟩:∃z,sg*q=z:=⟨_,rfl⟩
  obtain⟨P3,sV⟩:∃z,sg*r=z:=⟨_,rfl⟩
  rw[sX] at h1
  have b0:P0.natAbs<2^17:=by rcases hs with rfl|rfl<;>omega
  have b2:-(2^18)≤P2∧P2≤2^18:=by rcases hs with rfl|rfl<;>omega
  refine bZ (bh ⟨_,Rp.at (n:=0) rfl,rfl⟩ PySem.F.slot_range_iterator_next (gp Rp (by exact vT jd) (x':=((k+1:Nat):Int)) (l':=40- ((k+1:Nat):Int)) (by exact vS) (by exact vR) fun qk Rp=>?_))
  show wpAny _ _ (letOwnedTupleGo _ _ _) _ _ _
  refine ab hh Rp [] 11 (dA 0x0) [] () [] [] 0 0 ?_
  intro cC h3 N3 t3 Rp
  refine ab hh Rp [] 18 (dA 0x108) [] () [] [.k,.k,.u (dU [] [En x.B dr (t3+0) (.int ((↑k:Int)) t)] (cond sb 20 19))] 0 1 ?_
  intro db h4 N4 t4 Rp
  refine bS 1 ?_
  refine ab hh Rp [aI "int.__mod__" [.int ((↑k:Int)) t,.int 2 (t4+0)] (0)] 24 (dA 0x108088) [] Flow.next [] [.k,.k,.u (dU [] [En x.B ds (t4+2) (.int 0 (t4+1))] (cond sb 21 20))] 0 3 ?_ (aC (aG (by decide) (by rw[Int.fmod_eq_emod_of_nonneg _ (by decide)];exact z2 hk)) aN)
  intro dv h5 N5 t5 Rp
  show wpAny _ _ (aj ..) ..
  refine bS 1 ?_
  refine mF (s:=((kP (ah x.B 287 16)).drop 1).headD default) (L:=F) (by rfl') (by rfl') (by unfold Around.under;dsimp only;rw[gv];rfl) rfl ?_
  refine aa hh Rp [aI "int.__mul__" [.int (sg) v1,.int (n0) ub] (P0)] 52 (dA 0x11c70471c70482021c70471c7208201) [] (cR 80 [.int (P0) (t5+0),.int (n1) vb]) [] [] 0 3 ?_ (aC (cj (.inr (intBits_le_64 (by exact rA bD) (by exact ru bD))) (by exact lL je)) aN)
  intro eN h6 N6 t6 Rp j4
  refine kI x (A.under _) hh (by show A.depth+0<460;exact Bm hA) _ _ _ q r (by exact Bl b0) (by exact Bk b0) yj (by exact Bj bd) (by rw[←je];exact hq) (by rw[←je];exact hr) _ _ _ _ _ _ _ _ _ Rp fun sZ GD AE GB sz nu Rp=>?_
  show wpAny ..
  refine ab hh Rp [] 72 (dA 0x83083060861c61860460861c61860460861c6186046186046186) (dM 8) Flow.next [] [.d,.k,.k,.u (dU [(cond sb 12 11,.int (r) nu)] [En x.B dm (AE+0) (.int (q) sz)] (cond sb 22 21))] 3 2 ?_
  intro ie h7 N7 t7 Rp
  show wpAny _ _ (aj ..) ..
  refine bS 1 ?_
  refine aa hh Rp [aI "int.__mul__" [.int (r) nu,.int (n1) vb] (P1),aB "int.__lt__" [.int (P1) (t7+2),.int 0 (t7+3)] false] 45 (dA 0x80410c21c70471c7048208) [] (cB "abs" [.int (r) nu]) [] [] 0 4 ?_ (aC (cj (.inr (intBits_le_64 (by exact rA bd) (by exact ru bd))) (by exact lL sX)) (aC (iE (decide_eq_false (by exact rB h1))) aN))
  intro iG h8 N8 t8 Rp tS
  refine j7 hh Rp fun qi qP oG wk Rp=>?_
  show wpAny ..
  refine aa hh Rp [] 35 (dA 0x71c11c71c1208041) [] (cB "abs" [.int (n1) vb]) [] [] 0 2 ?_
  intro iM h9 N9 t9 Rp sS
  refine j7 hh Rp fun qh qO o7 wj Rp=>?_
  show wpAny ..
  refine ab hh Rp [aB "int.__ge__" [.int ((↑r.natAbs:Int)) wk,.int ((↑n1.natAbs:Int)) wj] false] 15 (dA 0x2) [] Flow.next [] [] 0 0 ?_ (aC (pW (decide_eq_false (by exact Bi h2))) aN)
  intro iN lX mo fh Rp
  show wpAny _ _ (aj ..) ..
  refine bS 1 ?_
  refine aa hh Rp [aI "int.__mul__" [.int (sg) v1,.int (q) sz] (P2)] 37 (dA 0x42208048048201) [] (cR 277 [.ref el,.int 1 (fh+0),.int (P2) (fh+1)]) [] [] 0 2 ?_ (aC (cj (.inr (intBits_le_64 (by exact Bh bq) (by exact Bg bq))) (by exact lL sW)) aN)
  intro la m7 lc lC Rp oi
  refine gL x (A.under _) hh (by show A.depth+0<440;exact Bf hA) _ c hc 1 P2 (by decide) (by decide) (by exact Be b2) (by exact Bd b2) el ne cs E _ _ _ _ _ _ _ _ [_,_,_] rest Rp fun qj qQ o8 be E' Rp=>?_
  have Rp:Rep x.B qQ qj (_::_::_::(be++rest)) 0:=Rp
  rw[←sW] at E'
  show wpAny ..
  refine ab hh Rp [] 19 (dA 0x108) [] Flow.next [] [.k,.k,.u (dU [] [] (cond sb 22 21))] 0 1 ?_
  intro mi q9 re lB Rp
  show wpAny _ _ (aj ..) ..
  refine ab hh Rp [aI "int.__mul__" [.int (sg) v1,.int (r) nu] (P3)] 88 (dA 0x83072cb2c12cb30c182187186181182187186181182187186181186181186182208) (dM 16) Flow.next [] [.k,.u fun _=>oL #[.int (P3) (lB+0),.int (n1) vb] 2,.u (dU [(cond sb 4 2,.int 1 (lB+1))] [] (cond sb 22 21))] 4 3 ?_ (aC (cj (.inr (intBits_le_64 (by exact Bc bd h2) (by exact Bb bd h2))) (by exact lL sV)) aN)
  intro qJ q8 rd sE Rp
  subst sV
  exact K _ _ _ _ _ _ _ _ _ _ _ _ _ _ _ _ _ E' Rp
theorem HF(bb:Bool)(x:W2)(A:Around)(hh:A.handled=none)(hA:A.depth<330)(R:Result→Shared→Prop)(F cb b ll o pc:Addr)(k8 k9 v9 bB bV bU cf ca ce b9 ek ei rz:Nat)(lz:List Nat)(mt:Int)(it:Addr)(ub vb:Nat)(n0 n1 q r sg:Int)(ks kc kp up kd ud k1 v1 k2 v2 k3 k4 k5 k6 k7 v7:Nat)(P D sd CN:Int)(wd td el cl:Addr)(sl:Array (Option Value))(k:Nat)(RV TV HV OV:Int)(fu fg ft ff gG gE:Nat)(gv:A.frames=some [au x F cb])(hk:k%2=0)(jd:k<40)(jc:sd=0∨sd=2)(hs:sg=1∨sg= -1)(bD:n0.natAbs<2^17)(bd:n1.natAbs<2^17)(yj:n1≠0)(hq:(sg*n0).fdiv n1=q)(hr:(sg*n0).fmod n1=r)(h1:0≤r*n1)(h2:r.natAbs<n1.natAbs)(bq:-(2^18)≤q∧q≤2^18)(c:C4)(hc:c.Ok)(ne:Nat)(cs:ae)(E:Ends c el ne cs)
 (N t:Nat) (h:Heap) (gl d os) (rest:ae)
 (Rp:Rep x.B N h ((it,gR (k:Int) (40- (k:Int)))::(b,an #[.int n0 ub,.int n1 vb] 2)::(F,eQ bb x ks kc cl k1 sg v1 k2 sd v2 k3 wd k4 td k5 wd k6 el k7 CN v7 kd D ud kp 3 up [En x.B aM k8 (.ref b),En x.B bH k9 (.int RV v9),En x.B br bB (.ref ll),En x.B cr bU (.ref pc),En x.B cS bV (.ref o),En x.B aw cf (.str (S lz) ca),En x.B az ce (.str (S (bj rz)) b9),En x.B cg ek (.int mt ei),En x.B dr fu (.int TV fg),En x.B ds ft (.int HV ff),En x.B dm gG (.int OV gE)] (cond bb 22 21) sl)::(cs++rest)) 0)
 (K:∀h' N' t' ub vb k9 v9 fu fg ft ff gG gE v1 k6 sl be,Ends (c.tw 1 (sg*q)) el ne be→Rep x.B N' h' ((it,gR ((k+1:Nat):Int) (40- ((k+1:Nat):Int)))::(b,an #[.int (sg*r) ub,.int n1 vb] 2)::(F,eQ bb x ks kc cl k1 1 v1 k2 sd v2 k3 wd k4 td k5 wd k6 el k7 CN v7 kd D ud kp 3 up [En x.B aM k8 (.ref b),En x.B bH k9 (.int r v9),En x.B br bB (.ref ll),En x.B cr bU (.ref pc),En x.B cS bV (.ref o),En x.B aw cf (.str (S lz) ca),En x.B az ce (.str (S (bj rz)) b9),En x.B cg ek (.int mt ei),En x.B dr fu (.int (k:Int) fg),En x.B ds ft (.int 0 ff),En x.B dm gG (.int q gE)] (cond bb 22 21) sl)::(be++rest)) 0→codeAny (MB x.B) A (ai (ah x.B 287 16) (.ref it) (au x F cb)) R ⟨h',gl,d,t',os⟩):
 codeAny (MB x.B) A (ai (ah x.B 287 16) (.ref it) (au x F cb)) R ⟨h,gl,d,t,os⟩:=by
 let sb:=bb
 cases bb
 all_goals
  obtain⟨P0,je⟩:∃z,sg*n0=z:=⟨_,rfl⟩
  obtain⟨P1,sX⟩:∃z,r*n1=z:=⟨_,rfl⟩
  obtain⟨P2,sW⟩:∃z,sg*q=z:=⟨_,rfl⟩
  obtain⟨P3,sV⟩:∃z,sg*r=z:=⟨_,rfl⟩
  rw[sX] at h1
  have b0:P0.natAbs<2^17:=by rcases hs with rfl|rfl<;>omega
  have b2:-(2^18)≤P2∧P2≤2^18:=by rcases hs with rfl|rfl<;>omega
  refine bZ (bh ⟨_,Rp.at (n:=0) rfl,rfl⟩ PySem.F.slot_range_iterator_next (gp Rp (by exact vT jd) (x':=((k+1:Nat):Int)) (l':=40- ((k+1:Nat):Int)) (by exact vS) (by exact vR) fun qk Rp=>?_))
  show wpAny _ _ (letOwnedTupleGo _ _ _) _ _ _
  refine ab hh Rp [] 11 (dA 0x0) [] () [] [] 0 0 ?_
  intro cC h3 N3 t3 Rp
  refine ab hh Rp [] 18 (dA 0x108) [] () [] [.k,.k,.u (dU [(cond sb 19 18,.int ((↑k:Int)) t)] [] (cond sb 22 21))] 0 1 ?_
  intro db h4 N4 t4 Rp
  refine bS 1 ?_
  refine ab hh Rp [aI "int.__mod__" [.int ((↑k:Int)) t,.int 2 (t4+0)] (0)] 24 (dA 0x108088) [] Flow.next [] [.k,.k,.u (dU [(cond sb 20 19,.int 0 (t4+1))] [] (cond sb 22 21))] 0 3 ?_ (aC (aG (by decide) (by rw[Int.fmod_eq_emod_of_nonneg _ (by decide)];exact z2 hk)) aN)
  intro dv h5 N5 t5 Rp
  show wpAny _ _ (aj ..) ..
  refine bS 1 ?_
  refine mF (s:=((kP (ah x.B 287 16)).drop 1).headD default) (L:=F) (by rfl') (by rfl') (by unfold Around.under;dsimp only;rw[gv];rfl) rfl ?_
  refine aa hh Rp [aI "int.__mul__" [.int (sg) v1,.int (n0) ub] (P0)] 52 (dA 0x11c70471c70482021c70471c7208201) [] (cR 80 [.int (P0) (t5+0),.int (n1) vb]) [] [] 0 3 ?_ (aC (cj (.inr (intBits_le_64 (by exact rA bD) (by exact ru bD))) (by exact lL je)) aN)
  intro eN h6 N6 t6 Rp j4
  refine kI x (A.under _) hh (by show A.depth+0<460;exact Bm hA) _ _ _ q r (by exact Bl b0) (by exact Bk b0) yj (by exact Bj bd) (by rw[←je];exact hq) (by rw[←je];exact hr) _ _ _ _ _ _ _ _ _ Rp fun sZ GD AE GB sz nu Rp=>?_
  show wpAny ..
  refine ab hh Rp [] 72 (dA 0x83083060861c61860460861c61860460861c6186046186046186) (dM 8) Flow.next [] [.d,.k,.k,.u (dU [(cond sb 12 11,.int (r) nu),(cond sb 21 20,.int (q) sz)] [] (cond sb 22 21))] 3 2 ?_
  intro ie h7 N7 t7 Rp
  show wpAny _ _ (aj ..) ..
  refine bS 1 ?_
  refine aa hh Rp [aI "int.__mul__" [.int (r) nu,.int (n1) vb] (P1),aB "int.__lt__" [.int (P1) (t7+2),.int 0 (t7+3)] false] 45 (dA 0x80410c21c70471c7048208) [] (cB "abs" [.int (r) nu]) [] [] 0 4 ?_ (aC (cj (.inr (intBits_le_64 (by exact rA bd) (by exact ru bd))) (by exact lL sX)) (aC (iE (decide_eq_false (by exact rB h1))) aN))
  intro iG h8 N8 t8 Rp tS
  refine j7 hh Rp fun qi qP oG wk Rp=>?_
  show wpAny ..
  refine aa hh Rp [] 35 (dA 0x71c11c71c1208041) [] (cB "abs" [.int (n1) vb]) [] [] 0 2 ?_
  intro iM h9 N9 t9 Rp sS
  refine j7 hh Rp fun qh qO o7 wj Rp=>?_
  show wpAny ..
  refine ab hh Rp [aB "int.__ge__" [.int ((↑r.natAbs:Int)) wk,.int ((↑n1.natAbs:Int)) wj] false] 15 (dA 0x2) [] Flow.next [] [] 0 0 ?_ (aC (pW (decide_eq_false (by exact Bi h2))) aN)
  intro iN lX mo fh Rp
  show wpAny _ _ (aj ..) ..
  refine bS 1 ?_
  refine aa hh Rp [aI "int.__mul__" [.int (sg) v1,.int (q) sz] (P2)] 37 (dA 0x42208048048201) [] (cR 277 [.ref el,.int 1 (fh+0),.int (P2) (fh+1)]) [] [] 0 2 ?_ (aC (cj (.inr (intBits_le_64 (by exact Bh bq) (by exact Bg bq))) (by exact lL sW)) aN)
  intro la m7 lc lC Rp oi
  refine gL x (A.under _) hh (by show A.depth+0<440;exact Bf hA) _ c hc 1 P2 (by decide) (by decide) (by exact Be b2) (by exact Bd b2) el ne cs E _ _ _ _ _ _ _ _ [_,_,_] rest Rp fun qj qQ o8 be E' Rp=>?_
  have Rp:Rep x.B qQ qj (_::_::_::(be++rest)) 0:=Rp
  rw[←sW] at E'
  show wpAny ..
  refine ab hh Rp [] 19 (dA 0x108) [] Flow.next [] [.k,.k,.u (dU [] [] (cond sb 22 21))] 0 1 ?_
  intro mi q9 re lB Rp
  show wpAny _ _ (aj ..) ..
  refine ab hh Rp [aI "int.__mul__" [.int (sg) v1,.int (r) nu] (P3)] 88 (dA 0x83072cb2c12cb30c182187186181182187186181182187186181186181186182208) (dM 16) Flow.next [] [.k,.u fun _=>oL #[.int (P3) (lB+0),.int (n1) vb] 2,.u (dU [(cond sb 4 2,.int 1 (lB+1))] [] (cond sb 22 21))] 4 3 ?_ (aC (cj (.inr (intBits_le_64 (by exact Bc bd h2) (by exact Bb bd h2))) (by exact lL sV)) aN)
  intro qJ q8 rd sE Rp
  subst sV
  exact K _ _ _ _ _ _ _ _ _ _ _ _ _ _ _ _ _ E' Rp
theorem HE(bb:Bool)(x:W2)(A:Around)(hh:A.handled=none)(hA:A.depth<330)(R:Result→Shared→Prop)(F cb b ll o pc:Addr)(k8 k9 v9 bB bV bU cf ca ce b9 ek ei rz:Nat)(lz:List Nat)(mt:Int)(it:Addr)(ub vb:Nat)(n0 n1 q r sg:Int)(ks kc kp up kd ud k1 v1 k2 v2 k3 k4 k5 k6 k7 v7:Nat)(P D sd CN:Int)(wd td el cl:Addr)(sl:Array (Option Value))(k:Nat)(RV TV HV OV:Int)(fu fg ft ff gG gE:Nat)(gv:A.frames=some [au x F cb])(hk:k%2=1)(jd:k<40)(jc:sd=0∨sd=2)(hs:sg=1∨sg= -1)(bD:n1.natAbs<2^17)(bd:n0.natAbs<2^17)(yj:n0≠0)(hq:(sg*n1).fdiv n0=q)(hr:(sg*n1).fmod n0=r)(h1:0≤r*n0)(h2:r.natAbs<n0.natAbs)(bq:-(2^18)≤q∧q≤2^18)(c:C4)(hc:c.Ok)(ne:Nat)(cs:ae)(E:Ends c el ne cs)
 (N t:Nat) (h:Heap) (gl d os) (rest:ae)
 (Rp:Rep x.B N h ((it,gR (k:Int) (40- (k:Int)))::(b,an #[.int n0 ub,.int n1 vb] 2)::(F,eQ bb x ks kc cl k1 sg v1 k2 sd v2 k3 wd k4 td k5 wd k6 el k7 CN v7 kd D ud kp 3 up [En x.B aM k8 (.ref b),En x.B bH k9 (.int RV v9),En x.B br bB (.ref ll),En x.B cr bU (.ref pc),En x.B cS bV (.ref o),En x.B aw cf (.str (S lz) ca),En x.B az ce (.str (S (bj rz)) b9),En x.B cg ek (.int mt ei),En x.B dr fu (.int TV fg),En x.B ds ft (.int HV ff),En x.B dm gG (.int OV gE)] (cond bb 22 21) sl)::(cs++rest)) 0)
 (K:∀h' N' t' ub vb k9 v9 fu fg ft ff gG gE v1 k6 sl be,Ends (c.tw sd (-sg*q)) el ne be→Rep x.B N' h' ((it,gR ((k+1:Nat):Int) (40- ((k+1:Nat):Int)))::(b,an #[.int n0 ub,.int (sg*r) vb] 2)::(F,eQ bb x ks kc cl k1 1 v1 k2 sd v2 k3 wd k4 td k5 wd k6 el k7 CN v7 kd D ud kp 3 up [En x.B aM k8 (.ref b),En x.B bH k9 (.int r v9),En x.B br bB (.ref ll),En x.B cr bU (.ref pc),En x.B cS bV (.ref o),En x.B aw cf (.str (S lz) ca),En x.B az ce (.str (S (bj rz)) b9),En x.B cg ek (.int mt ei),En x.B dr fu (.int (k:Int) fg),En x.B ds ft (.int 1 ff),En x.B dm gG (.int q gE)] (cond bb 22 21) sl)::(be++rest)) 0→codeAny (MB x.B) A (ai (ah x.B 287 16) (.ref it) (au x F cb)) R ⟨h',gl,d,t',os⟩):
 codeAny (MB x.B) A (ai (ah x.B 287 16) (.ref it) (au x F cb)) R ⟨h,gl,d,t,os⟩:=by
 let sb:=bb
 cases bb
 all_goals
  obtain⟨P0,je⟩:∃z,sg*n1=z:=⟨_,rfl⟩
  obtain⟨P1,sX⟩:∃z,r*n0=z:=⟨_,rfl⟩
  obtain⟨P2,sW⟩:∃z,-sg*q=z:=⟨_,rfl⟩
  obtain⟨P3,sV⟩:∃z,sg*r=z:=⟨_,rfl⟩
  rw[sX] at h1
  have b0:P0.natAbs<2^17:=by rcases hs with rfl|rfl<;>omega
  have b2:-(2^18)≤P2∧P2≤2^18:=by rcases hs with rfl|rfl<;>omega
  refine bZ (bh ⟨_,Rp.at (n:=0) rfl,rfl⟩ PySem.F.slot_range_iterator_next (gp Rp (by exact vT jd) (x':=((k+1:Nat):Int)) (l':=40- ((k+1:Nat):Int)) (by exact vS) (by exact vR) fun qk Rp=>?_))
  show wpAny _ _ (letOwnedTupleGo _ _ _) _ _ _
  refine ab hh Rp [] 11 (dA 0x0) [] () [] [] 0 0 ?_
  intro cC h3 N3 t3 Rp
  refine ab hh Rp [] 18 (dA 0x108) [] () [] [.k,.k,.u (dU [(cond sb 19 18,.int ((↑k:Int)) t)] [] (cond sb 22 21))] 0 1 ?_
  intro db h4 N4 t4 Rp
  refine bS 1 ?_
  refine ab hh Rp [aI "int.__mod__" [.int ((↑k:Int)) t,.int 2 (t4+0)] (1)] 24 (dA 0x108088) [] Flow.next [] [.k,.k,.u (dU [(cond sb 20 19,.int 1 (t4+1))] [] (cond sb 22 21))] 0 3 ?_ (aC (aG (by decide) (by rw[Int.fmod_eq_emod_of_nonneg _ (by decide)];exact FQ hk)) aN)
  intro dv h5 N5 t5 Rp
  show wpAny _ _ (aj ..) ..
  refine bS 1 ?_
  refine mF (s:=((kP (ah x.B 287 16)).drop 1).headD default) (L:=F) (by rfl') (by rfl') (by unfold Around.under;dsimp only;rw[gv];rfl) rfl ?_
  refine aa hh Rp [aI "int.__mul__" [.int (sg) v1,.int (n1) vb] (P0)] 52 (dA 0x11c70471c70482021c70471c7208201) [] (cR 80 [.int (P0) (t5+0),.int (n0) ub]) [] [] 0 3 ?_ (aC (cj (.inr (intBits_le_64 (by exact rA bD) (by exact ru bD))) (by exact lL je)) aN)
  intro eN h6 N6 t6 Rp j4
  refine kI x (A.under _) hh (by show A.depth+0<460;exact Bm hA) _ _ _ q r (by exact Bl b0) (by exact Bk b0) yj (by exact Bj bd) (by rw[←je];exact hq) (by rw[←je];exact hr) _ _ _ _ _ _ _ _ _ Rp fun sZ GD AE GB sz nu Rp=>?_
  show wpAny ..
  refine ab hh Rp [] 72 (dA 0x83083060861c61860460861c61860460861c6186046186046186) (dM 8) Flow.next [] [.d,.k,.k,.u (dU [(cond sb 12 11,.int (r) nu),(cond sb 21 20,.int (q) sz)] [] (cond sb 22 21))] 3 2 ?_
  intro ie h7 N7 t7 Rp
  show wpAny _ _ (aj ..) ..
  refine bS 1 ?_
  refine aa hh Rp [aI "int.__mul__" [.int (r) nu,.int (n0) ub] (P1),aB "int.__lt__" [.int (P1) (t7+2),.int 0 (t7+3)] false] 45 (dA 0x80410c21c70471c7048208) [] (cB "abs" [.int (r) nu]) [] [] 0 4 ?_ (aC (cj (.inr (intBits_le_64 (by exact rA bd) (by exact ru bd))) (by exact lL sX)) (aC (iE (decide_eq_false (by exact rB h1))) aN))
  intro iG h8 N8 t8 Rp tS
  refine j7 hh Rp fun qi qP oG wk Rp=>?_
  show wpAny ..
  refine aa hh Rp [] 35 (dA 0x71c11c71c1208041) [] (cB "abs" [.int (n0) ub]) [] [] 0 2 ?_
  intro iM h9 N9 t9 Rp sS
  refine j7 hh Rp fun qh qO o7 wj Rp=>?_
  show wpAny ..
  refine ab hh Rp [aB "int.__ge__" [.int ((↑r.natAbs:Int)) wk,.int ((↑n0.natAbs:Int)) wj] false] 15 (dA 0x2) [] Flow.next [] [] 0 0 ?_ (aC (pW (decide_eq_false (by exact Bi h2))) aN)
  intro iN lX mo fh Rp
  show wpAny _ _ (aj ..) ..
  refine bS 1 ?_
  refine aa hh Rp [aI "int.__mul__" [.int (-sg) (fh+0),.int (q) sz] (P2)] 43 (dA 0x42201201208048201) [] (cR 277 [.ref el,.int (sd) v2,.int (P2) (fh+1)]) [] [] 0 2 ?_ (aC (cj (.inr (intBits_le_64 (by exact Bh bq) (by exact Bg bq))) (by exact G9 sW)) aN)
  intro la m7 lc lC Rp oi
  refine gL x (A.under _) hh (by show A.depth+0<440;exact Bf hA) _ c hc sd P2 (by exact G8 jc) (by exact G7 jc) (by exact Be b2) (by exact Bd b2) el ne cs E _ _ _ _ _ _ _ _ [_,_,_] rest Rp fun qj qQ o8 be E' Rp=>?_
  have Rp:Rep x.B qQ qj (_::_::_::(be++rest)) 0:=Rp
  rw[←sW] at E'
  show wpAny ..
  refine ab hh Rp [] 19 (dA 0x108) [] Flow.next [] [.k,.k,.u (dU [] [] (cond sb 22 21))] 0 1 ?_
  intro mi q9 re lB Rp
  show wpAny _ _ (aj ..) ..
  refine ab hh Rp [aI "int.__mul__" [.int (sg) v1,.int (r) nu] (P3)] 88 (dA 0x83072cb2c12cb30c182187186181182187186181182187186181186181186182208) (dM 16) Flow.next [] [.k,.u fun _=>oL #[.int (n0) ub,.int (P3) (lB+0)] 2,.u (dU [(cond sb 4 2,.int 1 (lB+1))] [] (cond sb 22 21))] 4 3 ?_ (aC (cj (.inr (intBits_le_64 (by exact Bc bd h2) (by exact Bb bd h2))) (by exact lL sV)) aN)
  intro qJ q8 rd sE Rp
  subst sV
  exact K _ _ _ _ _ _ _ _ _ _ _ _ _ _ _ _ _ E' Rp
theorem yG(x:W2)(A:Around)(hh:A.handled=none)(hA:A.depth<330)(R:Result→Shared→Prop)(F cb b ll o pc:Addr)(k8 k9 v9 bB bV bU cf ca ce b9 ek ei rz:Nat)(lz:List Nat)(mt:Int)(it:Addr)(ub vb:Nat)(n0 sg:Int)(ks kc kp up kd ud k1 v1 k2 v2 k3 k4 k5 k6 k7 v7:Nat)(P D sd CN:Int)(wd td el cl:Addr)(sl:Array (Option Value))(k:Nat)(gv:A.frames=some [au x F cb])(hk:k%2=0)(jd:k<40)(hs:sg=1∨sg= -1)(bD:n0.natAbs<2^17)(ne:Nat)(cs:ae)
 (N t:Nat) (h:Heap) (gl d os) (rest:ae)
 (Rp:Rep x.B N h ((it,gR (k:Int) (40- (k:Int)))::(b,an #[.int n0 ub,.int 0 vb] 2)::(F,qo x ks kc cl k1 sg v1 k2 sd v2 k3 wd k4 td k5 wd k6 el k7 CN v7 kd D ud kp 3 up (fY x k8 b k9 v9 bB ll bU pc bV o [En x.B aw cf (.str (S lz) ca),En x.B az ce (.str (S (bj rz)) b9),En x.B cg ek (.int mt ei)]) 19 sl)::(cs++rest)) 0)
 (K:∀h' N' t' fu fg ft ff sl,Rep x.B N' h' ((b,an #[.int n0 ub,.int 0 vb] 2)::(F,qo x ks kc cl k1 sg v1 k2 sd v2 k3 wd k4 td k5 wd k6 el k7 CN v7 kd D ud kp 3 up (fY x k8 b k9 v9 bB ll bU pc bV o [En x.B aw cf (.str (S lz) ca),En x.B az ce (.str (S (bj rz)) b9),En x.B cg ek (.int mt ei),En x.B dr fu (.int (k:Int) fg),En x.B ds ft (.int 0 ff)]) 21 sl)::(cs++rest)) 0→R (.ok .next) ⟨h',gl,d,t',os⟩):
 codeAny (MB x.B) A (ai (ah x.B 287 16) (.ref it) (au x F cb)) R ⟨h,gl,d,t,os⟩:=by
 obtain⟨P0,je⟩:∃z,sg*n0=z:=⟨_,rfl⟩
 refine bZ (bh ⟨_,Rp.at (n:=0) rfl,rfl⟩ PySem.F.slot_range_iterator_next (gp Rp (by exact vT jd) (x':=((k+1:Nat):Int)) (l':=40- ((k+1:Nat):Int)) (by exact vS) (by exact vR) fun qk Rp=>?_))
 show wpAny _ _ (letOwnedTupleGo _ _ _) _ _ _
 refine ab hh Rp [] 11 (dA 0x0) [] () [] [] 0 0 ?_
 intro bT h1 N1 t1 Rp
 refine ab hh Rp [] 18 (dA 0x108) [] () [] [.k,.k,.u (dU [] [En x.B dr (t1+0) (.int ((↑k:Int)) t)] 20)] 0 1 ?_
 intro bW h2 N2 t2 Rp
 refine bS 1 ?_
 refine ab hh Rp [aI "int.__mod__" [.int ((↑k:Int)) t,.int 2 (t2+0)] (0)] 24 (dA 0x108088) [] Flow.next [] [.k,.k,.u (dU [] [En x.B ds (t2+2) (.int 0 (t2+1))] 21)] 0 3 ?_ (aC (aG (by decide) (by rw[Int.fmod_eq_emod_of_nonneg _ (by decide)];exact z2 hk)) aN)
 intro cC h3 N3 t3 Rp
 show wpAny _ _ (aj ..) ..
 refine bS 1 ?_
 have lV:∀c,c=ai (ah x.B 287 16) (.ref it) (au x F cb)→(A.under c).frames=some [au x F cb]:=fun c e=>by subst e;unfold Around.under;dsimp only;rw[gv];rfl
 refine mF (s:=((kP (ah x.B 287 16)).drop 1).headD default) (L:=F) (by rfl') (by rfl') (lV _ rfl) rfl ?_
 refine aa hh Rp [aI "int.__mul__" [.int (sg) v1,.int (n0) ub] (P0)] 52 (dA 0x11c70471c70482021c70471c7208201) [] (cR 80 [.int (P0) (t3+0),.int 0 vb]) [] [] 0 3 ?_ (aC (cj (.inr (intBits_le_64 (by exact rA bD) (by exact ru bD))) (by exact lL je)) aN)
 intro db h4 N4 t4 Rp gr
 refine nO x (A.under _) hh (by show A.depth+0<480;exact A7 hA) _ _ (au x F cb) F (lV _ rfl) rfl _ _ _ _ _ _ _ _ _ _ _ _ (Rp.mov 2 0) fun h3 N3 t3 e3 u3 AM T3 s8 uf ui Rp=>?_
 show wpAny ..
 refine gZ hh Rp [] 11 (dA 0x0) [] (.ref e3) [] [] 0 0 ?_
 intro dv h5 N5 t5 Rp
 refine⟨e3,u3,T3,s8,_,_,_,_,_,_,_,_,_,_,rfl,uf,ui,Rp,rfl,fun h5 N5 t5 tA T5 As Rp=>?_,fun h5 N5 t5 tA Rp=>?_⟩
 ·refine dJ (some (.ref e3)) rfl Rp [] 14 (dA 0x41) [] (.type "ZeroDivisionError") [] [] 0 0 (by rfl') aN ?_
  intro eN h6 N6 t6 Rp
  exact⟨rfl,_,_,_,Rp,rfl⟩
 ·refine dJ (some (.ref e3)) rfl Rp [] 12 (dA 0x0) [] Flow.brk [] [.k,.d] 0 0 (by rfl') aN ?_
  intro eN h6 N6 t6 Rp
  exact K _ _ _ _ _ _ _ _ (Rp.mov 1 0)
theorem HH(bb:Bool)(x:W2)(A:Around)(hh:A.handled=none)(hA:A.depth<330)(R:Result→Shared→Prop)(F cb b ll o pc:Addr)(k8 k9 v9 bB bV bU cf ca ce b9 ek ei rz:Nat)(lz:List Nat)(mt:Int)(it:Addr)(ub vb:Nat)(n0 sg:Int)(ks kc kp up kd ud k1 v1 k2 v2 k3 k4 k5 k6 k7 v7:Nat)(P D sd CN:Int)(wd td el cl:Addr)(sl:Array (Option Value))(k:Nat)(RV TV HV OV:Int)(fu fg ft ff gG gE:Nat)(gv:A.frames=some [au x F cb])(hk:k%2=0)(jd:k<40)(hs:sg=1∨sg= -1)(bD:n0.natAbs<2^17)(ne:Nat)(cs:ae)
 (N t:Nat) (h:Heap) (gl d os) (rest:ae)
 (Rp:Rep x.B N h ((it,gR (k:Int) (40- (k:Int)))::(b,an #[.int n0 ub,.int 0 vb] 2)::(F,eQ bb x ks kc cl k1 sg v1 k2 sd v2 k3 wd k4 td k5 wd k6 el k7 CN v7 kd D ud kp 3 up [En x.B aM k8 (.ref b),En x.B bH k9 (.int RV v9),En x.B br bB (.ref ll),En x.B cr bU (.ref pc),En x.B cS bV (.ref o),En x.B aw cf (.str (S lz) ca),En x.B az ce (.str (S (bj rz)) b9),En x.B cg ek (.int mt ei),En x.B dr fu (.int TV fg),En x.B ds ft (.int HV ff),En x.B dm gG (.int OV gE)] (cond bb 22 21) sl)::(cs++rest)) 0)
 (K:∀h' N' t' fu fg ft ff sl,Rep x.B N' h' ((b,an #[.int n0 ub,.int 0 vb] 2)::(F,eQ bb x ks kc cl k1 sg v1 k2 sd v2 k3 wd k4 td k5 wd k6 el k7 CN v7 kd D ud kp 3 up [En x.B aM k8 (.ref b),En x.B bH k9 (.int RV v9),En x.B br bB (.ref ll),En x.B cr bU (.ref pc),En x.B cS bV (.ref o),En x.B aw cf (.str (S lz) ca),En x.B az ce (.str (S (bj rz)) b9),En x.B cg ek (.int mt ei),En x.B dr fu (.int (k:Int) fg),En x.B ds ft (.int 0 ff),En x.B dm gG (.int OV gE)] (cond bb 22 21) sl)::(cs++rest)) 0→R (.ok .next) ⟨h',gl,d,t',os⟩):
 codeAny (MB x.B) A (ai (ah x.B 287 16) (.ref it) (au x F cb)) R ⟨h,gl,d,t,os⟩:=by
 let sb:=bb
 cases bb
 all_goals
  obtain⟨P0,je⟩:∃z,sg*n0=z:=⟨_,rfl⟩
  refine bZ (bh ⟨_,Rp.at (n:=0) rfl,rfl⟩ PySem.F.slot_range_iterator_next (gp Rp (by exact vT jd) (x':=((k+1:Nat):Int)) (l':=40- ((k+1:Nat):Int)) (by exact vS) (by exact vR) fun qk Rp=>?_))
  show wpAny _ _ (letOwnedTupleGo _ _ _) _ _ _
  refine ab hh Rp [] 11 (dA 0x0) [] () [] [] 0 0 ?_
  intro bT h1 N1 t1 Rp
  refine ab hh Rp [] 18 (dA 0x108) [] () [] [.k,.k,.u (dU [(cond sb 19 18,.int ((↑k:Int)) t)] [] (cond sb 22 21))] 0 1 ?_
  intro bW h2 N2 t2 Rp
  refine bS 1 ?_
  refine ab hh Rp [aI "int.__mod__" [.int ((↑k:Int)) t,.int 2 (t2+0)] (0)] 24 (dA 0x108088) [] Flow.next [] [.k,.k,.u (dU [(cond sb 20 19,.int 0 (t2+1))] [] (cond sb 22 21))] 0 3 ?_ (aC (aG (by decide) (by rw[Int.fmod_eq_emod_of_nonneg _ (by decide)];exact z2 hk)) aN)
  intro cC h3 N3 t3 Rp
  show wpAny _ _ (aj ..) ..
  refine bS 1 ?_
  have lV:∀c,c=ai (ah x.B 287 16) (.ref it) (au x F cb)→(A.under c).frames=some [au x F cb]:=fun c e=>by subst e;unfold Around.under;dsimp only;rw[gv];rfl
  refine mF (s:=((kP (ah x.B 287 16)).drop 1).headD default) (L:=F) (by rfl') (by rfl') (lV _ rfl) rfl ?_
  refine aa hh Rp [aI "int.__mul__" [.int (sg) v1,.int (n0) ub] (P0)] 52 (dA 0x11c70471c70482021c70471c7208201) [] (cR 80 [.int (P0) (t3+0),.int 0 vb]) [] [] 0 3 ?_ (aC (cj (.inr (intBits_le_64 (by exact rA bD) (by exact ru bD))) (by exact lL je)) aN)
  intro db h4 N4 t4 Rp gr
  refine nO x (A.under _) hh (by show A.depth+0<480;exact A7 hA) _ _ (au x F cb) F (lV _ rfl) rfl _ _ _ _ _ _ _ _ _ _ _ _ (Rp.mov 2 0) fun h3 N3 t3 e3 u3 AM T3 s8 uf ui Rp=>?_
  show wpAny ..
  refine gZ hh Rp [] 11 (dA 0x0) [] (.ref e3) [] [] 0 0 ?_
  intro dv h5 N5 t5 Rp
  refine⟨e3,u3,T3,s8,_,_,_,_,_,_,_,_,_,_,rfl,uf,ui,Rp,rfl,fun h5 N5 t5 tA T5 As Rp=>?_,fun h5 N5 t5 tA Rp=>?_⟩
  ·refine dJ (some (.ref e3)) rfl Rp [] 14 (dA 0x41) [] (.type "ZeroDivisionError") [] [] 0 0 (by rfl') aN ?_
   intro eN h6 N6 t6 Rp
   exact⟨rfl,_,_,_,Rp,rfl⟩
  ·refine dJ (some (.ref e3)) rfl Rp [] 12 (dA 0x0) [] Flow.brk [] [.k,.d] 0 0 (by rfl') aN ?_
   intro eN h6 N6 t6 Rp
   exact K _ _ _ _ _ _ _ _ (Rp.mov 1 0)
theorem HG(bb:Bool)(x:W2)(A:Around)(hh:A.handled=none)(hA:A.depth<330)(R:Result→Shared→Prop)(F cb b ll o pc:Addr)(k8 k9 v9 bB bV bU cf ca ce b9 ek ei rz:Nat)(lz:List Nat)(mt:Int)(it:Addr)(ub vb:Nat)(n1 sg:Int)(ks kc kp up kd ud k1 v1 k2 v2 k3 k4 k5 k6 k7 v7:Nat)(P D sd CN:Int)(wd td el cl:Addr)(sl:Array (Option Value))(k:Nat)(RV TV HV OV:Int)(fu fg ft ff gG gE:Nat)(gv:A.frames=some [au x F cb])(hk:k%2=1)(jd:k<40)(hs:sg=1∨sg= -1)(bD:n1.natAbs<2^17)(ne:Nat)(cs:ae)
 (N t:Nat) (h:Heap) (gl d os) (rest:ae)
 (Rp:Rep x.B N h ((it,gR (k:Int) (40- (k:Int)))::(b,an #[.int 0 ub,.int n1 vb] 2)::(F,eQ bb x ks kc cl k1 sg v1 k2 sd v2 k3 wd k4 td k5 wd k6 el k7 CN v7 kd D ud kp 3 up [En x.B aM k8 (.ref b),En x.B bH k9 (.int RV v9),En x.B br bB (.ref ll),En x.B cr bU (.ref pc),En x.B cS bV (.ref o),En x.B aw cf (.str (S lz) ca),En x.B az ce (.str (S (bj rz)) b9),En x.B cg ek (.int mt ei),En x.B dr fu (.int TV fg),En x.B ds ft (.int HV ff),En x.B dm gG (.int OV gE)] (cond bb 22 21) sl)::(cs++rest)) 0)
 (K:∀h' N' t' fu fg ft ff sl,Rep x.B N' h' ((b,an #[.int 0 ub,.int n1 vb] 2)::(F,eQ bb x ks kc cl k1 sg v1 k2 sd v2 k3 wd k4 td k5 wd k6 el k7 CN v7 kd D ud kp 3 up [En x.B aM k8 (.ref b),En x.B bH k9 (.int RV v9),En x.B br bB (.ref ll),En x.B cr bU (.ref pc),En x.B cS bV (.ref o),En x.B aw cf (.str (S lz) ca),En x.B az ce (.str (S (bj rz)) b9),En x.B cg ek (.int mt ei),En x.B dr fu (.int (k:Int) fg),En x.B ds ft (.int 1 ff),En x.B dm gG (.int OV gE)] (cond bb 22 21) sl)::(cs++rest)) 0→R (.ok .next) ⟨h',gl,d,t',os⟩):
 codeAny (MB x.B) A (ai (ah x.B 287 16) (.ref it) (au x F cb)) R ⟨h,gl,d,t,os⟩:=by
 let sb:=bb
 cases bb
 all_goals
  obtain⟨P0,je⟩:∃z,sg*n1=z:=⟨_,rfl⟩
  refine bZ (bh ⟨_,Rp.at (n:=0) rfl,rfl⟩ PySem.F.slot_range_iterator_next (gp Rp (by exact vT jd) (x':=((k+1:Nat):Int)) (l':=40- ((k+1:Nat):Int)) (by exact vS) (by exact vR) fun qk Rp=>?_))
  show wpAny _ _ (letOwnedTupleGo _ _ _) _ _ _
  refine ab hh Rp [] 11 (dA 0x0) [] () [] [] 0 0 ?_
  intro bT h1 N1 t1 Rp
  refine ab hh Rp [] 18 (dA 0x108) [] () [] [.k,.k,.u (dU [(cond sb 19 18,.int ((↑k:Int)) t)] [] (cond sb 22 21))] 0 1 ?_
  intro bW h2 N2 t2 Rp
  refine bS 1 ?_
  refine ab hh Rp [aI "int.__mod__" [.int ((↑k:Int)) t,.int 2 (t2+0)] (1)] 24 (dA 0x108088) [] Flow.next [] [.k,.k,.u (dU [(cond sb 20 19,.int 1 (t2+1))] [] (cond sb 22 21))] 0 3 ?_ (aC (aG (by decide) (by rw[Int.fmod_eq_emod_of_nonneg _ (by decide)];exact FQ hk)) aN)
  intro cC h3 N3 t3 Rp
  show wpAny _ _ (aj ..) ..
  refine bS 1 ?_
  have lV:∀c,c=ai (ah x.B 287 16) (.ref it) (au x F cb)→(A.under c).frames=some [au x F cb]:=fun c e=>by subst e;unfold Around.under;dsimp only;rw[gv];rfl
  refine mF (s:=((kP (ah x.B 287 16)).drop 1).headD default) (L:=F) (by rfl') (by rfl') (lV _ rfl) rfl ?_
  refine aa hh Rp [aI "int.__mul__" [.int (sg) v1,.int (n1) vb] (P0)] 52 (dA 0x11c70471c70482021c70471c7208201) [] (cR 80 [.int (P0) (t3+0),.int 0 ub]) [] [] 0 3 ?_ (aC (cj (.inr (intBits_le_64 (by exact rA bD) (by exact ru bD))) (by exact lL je)) aN)
  intro db h4 N4 t4 Rp gr
  refine nO x (A.under _) hh (by show A.depth+0<480;exact A7 hA) _ _ (au x F cb) F (lV _ rfl) rfl _ _ _ _ _ _ _ _ _ _ _ _ (Rp.mov 2 0) fun h3 N3 t3 e3 u3 AM T3 s8 uf ui Rp=>?_
  show wpAny ..
  refine gZ hh Rp [] 11 (dA 0x0) [] (.ref e3) [] [] 0 0 ?_
  intro dv h5 N5 t5 Rp
  refine⟨e3,u3,T3,s8,_,_,_,_,_,_,_,_,_,_,rfl,uf,ui,Rp,rfl,fun h5 N5 t5 tA T5 As Rp=>?_,fun h5 N5 t5 tA Rp=>?_⟩
  ·refine dJ (some (.ref e3)) rfl Rp [] 14 (dA 0x41) [] (.type "ZeroDivisionError") [] [] 0 0 (by rfl') aN ?_
   intro eN h6 N6 t6 Rp
   exact⟨rfl,_,_,_,Rp,rfl⟩
  ·refine dJ (some (.ref e3)) rfl Rp [] 12 (dA 0x0) [] Flow.brk [] [.k,.d] 0 0 (by rfl') aN ?_
   intro eN h6 N6 t6 Rp
   exact K _ _ _ _ _ _ _ _ (Rp.mov 1 0)
theorem Gv(bb:Bool)(x:W2)(A:Around)(hh:A.handled=none)(hA:A.depth<330)(R:Result→Shared→Prop)(F cb b ll o pc:Addr)(k8 bB bV bU cf ca ce b9 ek ei rz:Nat)(lz:List Nat)(mt:Int)(it:Addr)(ks kc kp up kd ud k1 k2 v2 k3 k4 k5 k7 v7:Nat)(P D sd CN:Int)(wd td el cl:Addr)(gv:A.frames=some [au x F cb])(jc:sd=0∨sd=2)(bs:Int)(ne:Nat)(gl d os)(rest:ae):∀(f k:Nat) (_:k+f=37) (n0 n1:Int) (_:Eu k 1 n0 n1) (c:C4) (_:fJ bs c n0 n1) (cs:ae) (_:Ends c el ne cs) (ub vb k9 v9 fu fg ft ff gG gE v1 k6:Nat) (sl:Array (Option Value)) (RV TV HV OV:Int)
 (N t:Nat) (h:Heap)
 (_:Rep x.B N h ((it,gR (k:Int) (40- (k:Int)))::(b,an #[.int n0 ub,.int n1 vb] 2)::(F,eQ bb x ks kc cl k1 1 v1 k2 sd v2 k3 wd k4 td k5 wd k6 el k7 CN v7 kd D ud kp 3 up [En x.B aM k8 (.ref b),En x.B bH k9 (.int RV v9),En x.B br bB (.ref ll),En x.B cr bU (.ref pc),En x.B cS bV (.ref o),En x.B aw cf (.str (S lz) ca),En x.B az ce (.str (S (bj rz)) b9),En x.B cg ek (.int mt ei),En x.B dr fu (.int TV fg),En x.B ds ft (.int HV ff),En x.B dm gG (.int OV gE)] (cond bb 22 21) sl)::(cs++rest)) 0)
 (_:∀h' N' t' ub vb k9 v9 fu fg ft ff gG gE v1 k6 sl be c' x' y' RV TV HV OV,fJ bs c' x' y'→(x'=0∨y'=0)→x'.natAbs<2^17→y'.natAbs<2^17→Ends c' el ne be→Rep x.B N' h' ((b,an #[.int x' ub,.int y' vb] 2)::(F,eQ bb x ks kc cl k1 1 v1 k2 sd v2 k3 wd k4 td k5 wd k6 el k7 CN v7 kd D ud kp 3 up [En x.B aM k8 (.ref b),En x.B bH k9 (.int RV v9),En x.B br bB (.ref ll),En x.B cr bU (.ref pc),En x.B cS bV (.ref o),En x.B aw cf (.str (S lz) ca),En x.B az ce (.str (S (bj rz)) b9),En x.B cg ek (.int mt ei),En x.B dr fu (.int TV fg),En x.B ds ft (.int HV ff),En x.B dm gG (.int OV gE)] (cond bb 22 21) sl)::(be++rest)) 0→R (.ok .next) ⟨h',gl,d,t',os⟩),
 codeAny (MB x.B) A (ai (ah x.B 287 16) (.ref it) (au x F cb)) R ⟨h,gl,d,t,os⟩:=by
 let sb:=bb
 cases bb
 all_goals
  intro f
  induction f with
  |zero=>
   intro k ut n0 n1 hE
   exfalso
   unfold Eu at hE
   split at hE<;>(have:=hE.le;omega)
  |succ f ih=>
   intro k ut n0 n1 hE c hT cs E ub vb k9 v9 fu fg ft ff gG gE v1 k6 sl RV TV HV OV N t h Rp K
   unfold Eu at hE
   split at hE
   ·rename_i hk
    by_cases hz:n1=0
    ·subst hz
     refine HH sb x A hh hA R F cb b ll o pc k8 k9 v9 bB bV bU cf ca ce b9 ek ei rz lz mt it ub vb n0 1 ks kc kp up kd ud k1 v1 k2 v2 k3 k4 k5 k6 k7 v7 P D sd CN wd td el cl sl k RV TV HV OV fu fg ft ff gG gE gv hk (by exact z3 ut) (.inl rfl) hE.1 ne cs N t h gl d os rest Rp fun h' N' t' fu fg ft ff sl Rp=>?_
     exact K _ _ _ _ _ _ _ _ _ _ _ _ _ _ _ _ cs c n0 0 _ _ _ _ hT (.inr rfl) hE.1 hE.2.1 E Rp
    ·obtain⟨uF,h1,h2,bq,er⟩:=hE.step hz rfl rfl
     refine HF sb x A hh hA R F cb b ll o pc k8 k9 v9 bB bV bU cf ca ce b9 ek ei rz lz mt it ub vb n0 n1 _ _ 1 ks kc kp up kd ud k1 v1 k2 v2 k3 k4 k5 k6 k7 v7 P D sd CN wd td el cl sl k RV TV HV OV fu fg ft ff gG gE gv hk (by exact z3 ut) jc (.inl rfl) hE.1 hE.2.1 hz rfl rfl h1 h2 bq c hT.ok ne cs E N t h gl d os rest Rp fun h' N' t' ub vb k9 v9 fu fg ft ff gG gE v1 k6 sl be E' Rp=>?_
     have qf:=hT.tw 1 (1*(1*n0).fdiv n1) (.inr (.inl rfl))
     have e:iV (1,1*(1*n0).fdiv n1) (n0,n1)=(1*(1*n0).fmod n1,n1):=by rw[er];rfl
     rw[e] at qf
     exact ih (k+1) (by exact FP ut) _ _ (by unfold Eu;rw[if_neg (by exact G6 hk)];exact uF) _ qf be E' _ _ _ _ _ _ _ _ _ _ _ _ _ _ _ _ _ _ _ _ Rp K
   ·rename_i hk
    by_cases hz:n0=0
    ·subst hz
     refine HG sb x A hh hA R F cb b ll o pc k8 k9 v9 bB bV bU cf ca ce b9 ek ei rz lz mt it ub vb n1 1 ks kc kp up kd ud k1 v1 k2 v2 k3 k4 k5 k6 k7 v7 P D sd CN wd td el cl sl k RV TV HV OV fu fg ft ff gG gE gv (by exact FO hk) (by exact z3 ut) (.inl rfl) hE.1 ne cs N t h gl d os rest Rp fun h' N' t' fu fg ft ff sl Rp=>?_
     exact K _ _ _ _ _ _ _ _ _ _ _ _ _ _ _ _ cs c 0 n1 _ _ _ _ hT (.inl rfl) hE.2.1 hE.1 E Rp
    ·obtain⟨uF,h1,h2,bq,er⟩:=hE.step hz rfl rfl
     refine HE sb x A hh hA R F cb b ll o pc k8 k9 v9 bB bV bU cf ca ce b9 ek ei rz lz mt it ub vb n0 n1 _ _ 1 ks kc kp up kd ud k1 v1 k2 v2 k3 k4 k5 k6 k7 v7 P D sd CN wd td el cl sl k RV TV HV OV fu fg ft ff gG gE gv (by exact FO hk) (by exact z3 ut) jc (.inl rfl) hE.1 hE.2.1 hz rfl rfl h1 h2 bq c hT.ok ne cs E N t h gl d os rest Rp fun h' N' t' ub vb k9 v9 fu fg ft ff gG gE v1 k6 sl be E' Rp=>?_
     have qf:=hT.tw sd (-1*(1*n1).fdiv n0) (jc.imp id .inr)
     have e:iV (sd,-1*(1*n1).fdiv n0) (n0,n1)=(n0,1*(1*n1).fmod n0):=by
      rw[er]
      unfold iV
      rw[if_neg (show¬sd=1 by exact G5 jc)]
      refine Prod.ext rfl ?_
      show n1+ -1*(1*n1).fdiv n0*n0=n1-1*(1*n1).fdiv n0*n0
      rw[Int.neg_mul,Int.neg_mul];rfl
     rw[e] at qf
     exact ih (k+1) (by exact FP ut) _ _ (by unfold Eu;rw[if_pos (by exact G4 hk)];exact uF) _ qf be E' _ _ _ _ _ _ _ _ _ _ _ _ _ _ _ _ _ _ _ _ Rp K
theorem lM(x:W2){N m:Nat}{h:Heap}{tab:ae}(Rp:Rep x.B N h tab m):NoneBooked h:=by
 have p8:(x.B.stat 2).isSome=true:=by rfl'
 obtain⟨o,e⟩:=Option.isSome_iff_exists.mp p8
 have hs:h.get? 2=x.B.stat 2:=by rw[e];exact Rp.kt e
 refine⟨_,.of_isNs (a:=cStatics) ?_,?_⟩
 ·show(match h.get? 2 with
   |some o=>(match o.data with| .dict es _=>es.all (fun e=>match e.key with| .str _ _=>true|_=>false)|_=>false)
   |none=>false)=true
  rw[hs]
  rfl'
 ·show(match h.get? 2 with
   |some o=>(match o.data with| .dict es _=>nsFind es sharingNotToldKey|_=>none)
   |none=>none)=none
  rw[hs]
  rfl'
theorem ex{a:Int}(ha:ag a)(u v:Nat){A:Around}{s:Shared}(hb:NoneBooked s.heap):PySem.SeqAt.EqAt A s (.float (fl a) (u+1)) (.float (fl a) (v+1)) true:=by
 intro prog w E Q hq
 unfold eqBool
 refine wpAny_holding ?_
 refine wpAny_ite_split (fun _=>wpAny_bind (wpAny_rule (wpAny_pure hq))) (fun _=>?_)
 have rest:wpAny (model prog w) A (truthOfDropped=<<richCompare .Eq (.float (fl a) (u+1)) (.float (fl a) (v+1))) Q E s:=by
  refine wpAny_bind (richCompare_gives (op:=.Eq) (T:="float") rfl rfl PySem.F.slot_float_eq PySem.F.entry_float_eq (PySem.F.args_float_eq_2 _ _) (AutoFloatG5.float___eq___float_float_0 _ _ _ _) (fun x=>nomatch x) ?_)
  refine wpAny_truthy_bool ?_
  dsimp only
  rw[iZ (iz ha ha),decide_eq_true rfl]
  exact hq
 show wpAny (model prog w) A (isSame (.float (fl a) (u+1)) (.float (fl a) (v+1)) >>= fun b=>if b=true then pure true else truthOfDropped=<<richCompare .Eq (.float (fl a) (u+1)) (.float (fl a) (v+1))) Q E s
 have same:∀{Q':Bool→Shared→Prop},(∀b,Q' b s)→wpAny (model prog w) A (isSame (.float (fl a) (u+1)) (.float (fl a) (v+1))) Q' E s:=by
  intro Q' ye
  show wpAny _ A (isSame.created (fl a==fl a&& !Float64.isNaN (fl a)) (u+1) (v+1)) Q' E s
  unfold isSame.created
  refine wpAny_ite ?_
  split
  ·rename_i z
   rcases Bool.or_eq_true_iff.mp z with z|z<;>exact absurd (beq_iff_eq.mp z) (Nat.succ_ne_zero _)
  refine wpAny_ite ?_
  split
  ·exact wpAny_pure (ye _)
  refine wpAny_ite ?_
  split
  ·exact wpAny_pure (ye _)
  refine wpAny_bind (wpAny_sharingNotTold_none hb ?_)
  first|rw[if_neg Bool.false_ne_true]|simp only[Bool.false_eq_true,if_false]
  refine wpAny_bind (wpAny_sharingNotTold_none hb ?_)
  first|rw[if_neg Bool.false_ne_true]|simp only[Bool.false_eq_true,if_false]
  exact wpAny_bind (wpAny_rule (wpAny_bind (wpAny_askSetting (wpAny_pure (ye _)))))
 refine wpAny_bind (same fun b=>?_)
 cases b
 ·exact rest
 ·exact wpAny_pure hq
theorem uT{k S:Int}{r g b r' g' b':Value}(hS:bg S)(h:b7 k S r g b)(h':b7 k S r' g' b'){A:Around}{s:Shared}(hb:NoneBooked s.heap):
 PySem.SeqAt.EqAt A s r r' true∧PySem.SeqAt.EqAt A s g g' true∧PySem.SeqAt.EqAt A s b b' true:=by
 obtain⟨j,F,G,tc,u,v,hF,jy,jx,rU,uu,hG,e⟩:=h
 obtain⟨j',F',G',CL,u',v',hF',hF0',hF1',hj0',hj1',Gh,e'⟩:=h'
 obtain rfl:j=j':=by omega
 obtain rfl:F=F':=by omega
 obtain rfl:G=G':=by omega
 have aU:0<S∧S≤2^24:=by rcases hS with rfl|rfl<;>decide
 have eK:0≤G∧G≤S:=by rcases hS with rfl|rfl<;>omega
 have f1:ag (2^24-S):=by unfold ag;omega
 have f2:ag (2^24-G):=by unfold ag;omega
 have f3:ag (2^24- (S-G)):=by unfold ag;omega
 obtain rfl|rfl|rfl|rfl|rfl|rfl:j=0∨j=1∨j=2∨j=3∨j=4∨j=5:=by exact zY rU uu
 ·obtain⟨rfl,rfl,rfl⟩:=dN e
  obtain⟨rfl,rfl,rfl⟩:=dN e'
  exact⟨eq_int _ _ _ _ _,ex f3 _ _ hb,ex f1 _ _ hb⟩
 ·obtain⟨rfl,rfl,rfl⟩:=dN e
  obtain⟨rfl,rfl,rfl⟩:=dN e'
  exact⟨ex f2 _ _ hb,eq_int _ _ _ _ _,ex f1 _ _ hb⟩
 ·obtain⟨rfl,rfl,rfl⟩:=dN e
  obtain⟨rfl,rfl,rfl⟩:=dN e'
  exact⟨ex f1 _ _ hb,eq_int _ _ _ _ _,ex f3 _ _ hb⟩
 ·obtain⟨rfl,rfl,rfl⟩:=dN e
  obtain⟨rfl,rfl,rfl⟩:=dN e'
  exact⟨ex f1 _ _ hb,ex f2 _ _ hb,eq_int _ _ _ _ _⟩
 ·obtain⟨rfl,rfl,rfl⟩:=dN e
  obtain⟨rfl,rfl,rfl⟩:=dN e'
  exact⟨ex f3 _ _ hb,ex f1 _ _ hb,eq_int _ _ _ _ _⟩
 ·obtain⟨rfl,rfl,rfl⟩:=dN e
  obtain⟨rfl,rfl,rfl⟩:=dN e'
  exact⟨eq_int _ _ _ _ _,ex f1 _ _ hb,ex f2 _ _ hb⟩
theorem eV(x:W2){A:Around}{h:Heap}{gl:Array GenState}{d:Drawn}{t:Nat}{os:OsState}{N:Nat}{tab:ae}(hu:A.units<cLine)(Rp:Rep x.B N h tab 0){l b:Addr}{a0 a1 a2 b0 b1 b2:Value}(i j:Nat)(hx:nth tab i=some (l,oT #[a0,a1,a2]))(hy:nth tab j=some (b,oT #[b0,b1,b2]))
 {k S:Int} (hS:bg S) (c:b7 k S a0 a1 a2) (c':b7 k S b0 b1 b2):gK x.B A ⟨h,gl,d,t,os⟩ .Eq (.ref l) (.ref b) true:=by
 intro Q E hq
 refine richCompare_meets_room (op:=.Eq) ⟨_,Rp.at hx,rfl⟩ ⟨_,Rp.at hy,rfl⟩ PySem.F.slot_tuple_eq PySem.F.entry_tuple_eq (PySem.F.args_tuple_eq_2 _ _) (PySem.SeqAt.tuple_eqAt l b #[a0,a1,a2] #[b0,b1,b2] 0 0 none none #[] #[] (fun _=>true))
  ⟨Rp.at hx,Rp.at hy,fun j h1 h2=>?_,⟨(fun x=>nomatch x),hq⟩⟩ hu
 have hj:j<3:=h1
 obtain⟨e0,e1,e2⟩:=uT hS c c' (A:=A.in1) (s:=⟨h,gl,d,t,os⟩) (lM x Rp)
 obtain rfl|rfl|rfl:j=0∨j=1∨j=2:=by exact Ho hj
 ·exact e0
 ·exact e1
 ·exact e2
theorem iY{B:aQ}{A:Around}{s:Shared}(a b:Int)(u v:Nat){r:Bool}(hr:(a==b)=r):gK B A s .Eq (.int a u) (.int b v) r:=fun Q E hq=>by
 subst hr
 exact PySem.SeqAt.RcAt.int_int a u b v B.prog B.w E Q hq
theorem yC(bb:Bool)(x:W2)(A:Around)(hh:A.handled=none)(hA:A.depth<310)(hU:A.units<cLine)(Q:Flow→Shared→Prop)(F cb b ll o pc:Addr)(k8 k9 v9 bB bV bU cf ca ce b9 ek ei rz:Nat)(lz:List Nat)(mt:Int)(ub vb:Nat)(n0 n1:Int)(ks kc kp up kd ud k1 v1 k2 v2 k3 k4 k5 k6 k7 v7:Nat)(P D sd CN:Int)(wd td el cl:Addr)(sl:Array (Option Value))(RV TV HV OV:Int)(fu fg ft ff gG gE:Nat)(c:C4)(hc:c.Ok)(z0:fW (c.k0-c.k1)=n0)(z1:fW (c.k1-c.k2)=n1)(q0:n0=0→(c.k0=c.k1∧c.S0=c.S1)∧(c.k2=c.k3∧c.S2=c.S3))(q1:n0≠0→(c.k1=c.k2∧c.S1=c.S2)∧(c.k0=c.k3∧c.S0=c.S3))(ne:Nat)(cs:ae)(E:Ends c el ne cs)
 (N t:Nat) (h:Heap) (gl d os) (rest:ae)
 (Rp:Rep x.B N h ((b,an #[.int n0 ub,.int n1 vb] 2)::(F,eQ bb x ks kc cl k1 1 v1 k2 sd v2 k3 wd k4 td k5 wd k6 el k7 CN v7 kd D ud kp 3 up [En x.B aM k8 (.ref b),En x.B bH k9 (.int RV v9),En x.B br bB (.ref ll),En x.B cr bU (.ref pc),En x.B cS bV (.ref o),En x.B aw cf (.str (S lz) ca),En x.B az ce (.str (S (bj rz)) b9),En x.B cg ek (.int mt ei),En x.B dr fu (.int TV fg),En x.B ds ft (.int HV ff),En x.B dm gG (.int OV gE)] (cond bb 22 21) sl)::(cs++rest)) 0)
 (K:∀h' N' t' tab,Rep x.B N' h' tab 0→Q (.ret (.bool true)) ⟨h',gl,d,t',os⟩):
 wpAny (MB x.B) A (aj (am (fdOf x.B 287) |>.drop 17) (au x F cb)) Q (fun _ _=>False) ⟨h,gl,d,t,os⟩:=by
 let sb:=bb
 cases bb
 all_goals
  refine bS 1 ?_
  refine lO (s:=ah x.B 287 17) (by rfl') (by rfl') ?_
  refine aa hh Rp [] 17 (dA 0x11c1) [] (cR 282 [.ref el]) [] [] 0 0 ?_
  intro bT h1 N1 t1 Rp eE
  refine fp x A hh (by exact FZ hA) _ _ hc n0 n1 z0 z1 _ _ cs E _ _ _ _ _ _ [_,_] rest Rp fun Cq CK t31 CG u31 w31 Rp=>?_
  have Rp:Rep x.B CK Cq (_::_::_::(cs++rest)) 0:=Rp
  show wpAny ..
  refine ab hh Rp [] 12 (dA 0x0) [] (.ref CG) [] [] 0 0 ?_
  intro bW h2 N2 t2 Rp
  refine ab hh Rp [] 13 (dA 0x8) [] (.ref b) [] [] 0 0 ?_
  intro cC h3 N3 t3 Rp
  refine⟨hC hU Rp 0 1 rfl rfl (eq_int _ _ _) (eq_int _ _ _),?_⟩
  obtain⟨a0,a1,a2,a3,r0,g0,b0,r1,g1,b1,r2,g2,b2,r3,g3,b3,c0,c1,c2,c3,rfl⟩:=E
  show wpAny _ _ (aj ..) ..
  refine bS 1 ?_
  by_cases hz:n0=0
  ·refine nN (s:=ah x.B 287 18) (by rfl') (by rfl') true ?_
   refine ab hh Rp [] 23 (dA 0x71c11c71c8) [] (.int (n0) ub) [] [] 0 1 ?_
   intro db h4 N4 t4 Rp
   refine ab hh Rp [] 12 (dA 0x0) [] (.int 0 (t4+0)) [] [] 0 1 ?_
   intro dv h5 N5 t5 Rp
   refine⟨iY _ _ _ _ (by rw[hz];rfl),?_⟩
   refine kD (s:=(vZ (ah x.B 287 18)).headD default) (by rfl') (by rfl') ?_
   refine ab hh Rp [] 23 (dA 0x9241249248) [] (.ref a0) [] [] 0 1 ?_
   intro eN h6 N6 t6 Rp
   refine ab hh Rp [] 23 (dA 0x9241249248) [] (.ref a1) [] [] 0 1 ?_
   intro ie h7 N7 t7 Rp
   refine⟨eV x hU Rp 4 5 rfl rfl hc.S1 (by rw[←((q0 hz).1).1,←((q0 hz).1).2];exact c0) c1,?_⟩
   refine ab hh Rp [] 23 (dA 0x9241249248) [] (.ref a2) [] [] 0 1 ?_
   intro iG h8 N8 t8 Rp
   refine ab hh Rp [] 23 (dA 0x9241249248) [] (.ref a3) [] [] 0 1 ?_
   intro iM h9 N9 t9 Rp
   refine⟨eV x hU Rp 6 7 rfl rfl hc.S3 (by rw[←((q0 hz).2).1,←((q0 hz).2).2];exact c2) c3,?_⟩
   exact K _ _ _ _ Rp
  ·refine nN (s:=ah x.B 287 18) (by rfl') (by rfl') false ?_
   refine ab hh Rp [] 23 (dA 0x71c11c71c8) [] (.int (n0) ub) [] [] 0 1 ?_
   intro db h4 N4 t4 Rp
   refine ab hh Rp [] 12 (dA 0x0) [] (.int 0 (t4+0)) [] [] 0 1 ?_
   intro dv h5 N5 t5 Rp
   refine⟨iY _ _ _ _ (beq_eq_false_iff_ne.mpr hz),?_⟩
   show wpAny _ _ (aj ..) ..
   refine kD (s:=ah x.B 287 19) (by rfl') (by rfl') ?_
   refine ab hh Rp [] 23 (dA 0x9241249248) [] (.ref a1) [] [] 0 1 ?_
   intro eN h6 N6 t6 Rp
   refine ab hh Rp [] 23 (dA 0x9241249248) [] (.ref a2) [] [] 0 1 ?_
   intro ie h7 N7 t7 Rp
   refine⟨eV x hU Rp 5 6 rfl rfl hc.S2 (by rw[←((q1 hz).1).1,←((q1 hz).1).2];exact c1) c2,?_⟩
   refine ab hh Rp [] 23 (dA 0x9241249248) [] (.ref a0) [] [] 0 1 ?_
   intro iG h8 N8 t8 Rp
   refine ab hh Rp [] 23 (dA 0x9241249248) [] (.ref a3) [] [] 0 1 ?_
   intro iM h9 N9 t9 Rp
   refine⟨eV x hU Rp 4 7 rfl rfl hc.S3 (by rw[←((q1 hz).2).1,←((q1 hz).2).2];exact c0) c3,?_⟩
   exact K _ _ _ _ Rp
theorem yD(x:W2)(A:Around)(hh:A.handled=none)(hA:A.depth<310)(hU:A.units<cLine)(Q:Flow→Shared→Prop)(F cb b ll o pc:Addr)(k8 k9 v9 bB bV bU cf ca ce b9 ek ei rz:Nat)(lz:List Nat)(mt:Int)(ub vb:Nat)(n0 n1:Int)(ks kc kp up kd ud k1 v1 k2 v2 k3 k4 k5 k6 k7 v7:Nat)(P D sd CN:Int)(wd td el cl:Addr)(sl:Array (Option Value))(sg TV HV:Int)(fu fg ft ff:Nat)(c:C4)(hc:c.Ok)(z0:fW (c.k0-c.k1)=n0)(z1:fW (c.k1-c.k2)=n1)(q0:n0=0→(c.k0=c.k1∧c.S0=c.S1)∧(c.k2=c.k3∧c.S2=c.S3))(q1:n0≠0→(c.k1=c.k2∧c.S1=c.S2)∧(c.k0=c.k3∧c.S0=c.S3))(ne:Nat)(cs:ae)(E:Ends c el ne cs)
 (N t:Nat) (h:Heap) (gl d os) (rest:ae)
 (Rp:Rep x.B N h ((b,an #[.int n0 ub,.int n1 vb] 2)::(F,qo x ks kc cl k1 sg v1 k2 sd v2 k3 wd k4 td k5 wd k6 el k7 CN v7 kd D ud kp 3 up (fY x k8 b k9 v9 bB ll bU pc bV o [En x.B aw cf (.str (S lz) ca),En x.B az ce (.str (S (bj rz)) b9),En x.B cg ek (.int mt ei),En x.B dr fu (.int TV fg),En x.B ds ft (.int HV ff)]) 21 sl)::(cs++rest)) 0)
 (K:∀h' N' t' tab,Rep x.B N' h' tab 0→Q (.ret (.bool true)) ⟨h',gl,d,t',os⟩):
 wpAny (MB x.B) A (aj (am (fdOf x.B 287) |>.drop 17) (au x F cb)) Q (fun _ _=>False) ⟨h,gl,d,t,os⟩:=by
 refine bS 1 ?_
 refine lO (s:=ah x.B 287 17) (by rfl') (by rfl') ?_
 refine aa hh Rp [] 17 (dA 0x11c1) [] (cR 282 [.ref el]) [] [] 0 0 ?_
 intro bT h1 N1 t1 Rp eE
 refine fp x A hh (by exact FZ hA) _ _ hc n0 n1 z0 z1 _ _ cs E _ _ _ _ _ _ [_,_] rest Rp fun Cq CK t31 CG u31 w31 Rp=>?_
 have Rp:Rep x.B CK Cq (_::_::_::(cs++rest)) 0:=Rp
 show wpAny ..
 refine ab hh Rp [] 12 (dA 0x0) [] (.ref CG) [] [] 0 0 ?_
 intro bW h2 N2 t2 Rp
 refine ab hh Rp [] 13 (dA 0x8) [] (.ref b) [] [] 0 0 ?_
 intro cC h3 N3 t3 Rp
 refine⟨hC hU Rp 0 1 rfl rfl (eq_int _ _ _) (eq_int _ _ _),?_⟩
 obtain⟨a0,a1,a2,a3,r0,g0,b0,r1,g1,b1,r2,g2,b2,r3,g3,b3,c0,c1,c2,c3,rfl⟩:=E
 show wpAny _ _ (aj ..) ..
 refine bS 1 ?_
 by_cases hz:n0=0
 ·refine nN (s:=ah x.B 287 18) (by rfl') (by rfl') true ?_
  refine ab hh Rp [] 23 (dA 0x71c11c71c8) [] (.int (n0) ub) [] [] 0 1 ?_
  intro db h4 N4 t4 Rp
  refine ab hh Rp [] 12 (dA 0x0) [] (.int 0 (t4+0)) [] [] 0 1 ?_
  intro dv h5 N5 t5 Rp
  refine⟨iY _ _ _ _ (by rw[hz];rfl),?_⟩
  refine kD (s:=(vZ (ah x.B 287 18)).headD default) (by rfl') (by rfl') ?_
  refine ab hh Rp [] 23 (dA 0x9241249248) [] (.ref a0) [] [] 0 1 ?_
  intro eN h6 N6 t6 Rp
  refine ab hh Rp [] 23 (dA 0x9241249248) [] (.ref a1) [] [] 0 1 ?_
  intro ie h7 N7 t7 Rp
  refine⟨eV x hU Rp 4 5 rfl rfl hc.S1 (by rw[←((q0 hz).1).1,←((q0 hz).1).2];exact c0) c1,?_⟩
  refine ab hh Rp [] 23 (dA 0x9241249248) [] (.ref a2) [] [] 0 1 ?_
  intro iG h8 N8 t8 Rp
  refine ab hh Rp [] 23 (dA 0x9241249248) [] (.ref a3) [] [] 0 1 ?_
  intro iM h9 N9 t9 Rp
  refine⟨eV x hU Rp 6 7 rfl rfl hc.S3 (by rw[←((q0 hz).2).1,←((q0 hz).2).2];exact c2) c3,?_⟩
  exact K _ _ _ _ Rp
 ·refine nN (s:=ah x.B 287 18) (by rfl') (by rfl') false ?_
  refine ab hh Rp [] 23 (dA 0x71c11c71c8) [] (.int (n0) ub) [] [] 0 1 ?_
  intro db h4 N4 t4 Rp
  refine ab hh Rp [] 12 (dA 0x0) [] (.int 0 (t4+0)) [] [] 0 1 ?_
  intro dv h5 N5 t5 Rp
  refine⟨iY _ _ _ _ (beq_eq_false_iff_ne.mpr hz),?_⟩
  show wpAny _ _ (aj ..) ..
  refine kD (s:=ah x.B 287 19) (by rfl') (by rfl') ?_
  refine ab hh Rp [] 23 (dA 0x9241249248) [] (.ref a1) [] [] 0 1 ?_
  intro eN h6 N6 t6 Rp
  refine ab hh Rp [] 23 (dA 0x9241249248) [] (.ref a2) [] [] 0 1 ?_
  intro ie h7 N7 t7 Rp
  refine⟨eV x hU Rp 5 6 rfl rfl hc.S2 (by rw[←((q1 hz).1).1,←((q1 hz).1).2];exact c1) c2,?_⟩
  refine ab hh Rp [] 23 (dA 0x9241249248) [] (.ref a0) [] [] 0 1 ?_
  intro iG h8 N8 t8 Rp
  refine ab hh Rp [] 23 (dA 0x9241249248) [] (.ref a3) [] [] 0 1 ?_
  intro iM h9 N9 t9 Rp
  refine⟨eV x hU Rp 4 7 rfl rfl hc.S3 (by rw[←((q1 hz).2).1,←((q1 hz).2).2];exact c0) c3,?_⟩
  exact K _ _ _ _ Rp
theorem o9(x:W2)(A:Around)(hh:A.handled=none)(hA:A.depth<310)(hU:A.units<cLine)(Q:Flow→Shared→Prop)(F cb b ll o pc:Addr)(k8 k9 v9 bB bV bU cf ca ce b9 ek ei rz:Nat)(lz:List Nat)(mt:Int)(ub vb:Nat)(n0 n1 sg:Int)(ks kc kp up kd ud k1 v1 k2 v2 k3 k4 k5 k6 k7 v7:Nat)(P D sd CN:Int)(wd td el cl:Addr)(sl:Array (Option Value))(gv:A.frames=some [au x F cb])(jc:sd=0∨sd=2)(hs:sg=1∨sg= -1)(bs:Int)(c:C4)(hT:fJ bs c n0 n1)(b0:n0.natAbs<2^17)(b1:n1.natAbs<2^17)(ne:Nat)(cs:ae)(E:Ends c el ne cs)
 (N t:Nat) (h:Heap) (gl d os) (rest:ae)
 (Rp:Rep x.B N h ((b,an #[.int n0 ub,.int n1 vb] 2)::(F,qo x ks kc cl k1 sg v1 k2 sd v2 k3 wd k4 td k5 wd k6 el k7 CN v7 kd D ud kp 3 up (fY x k8 b k9 v9 bB ll bU pc bV o [En x.B aw cf (.str (S lz) ca),En x.B az ce (.str (S (bj rz)) b9),En x.B cg ek (.int mt ei)]) 19 sl)::(cs++rest)) 0)
 (K:∀h' N' t' tab,Rep x.B N' h' tab 0→Q (.ret (.bool true)) ⟨h',gl,d,t',os⟩):
 wpAny (MB x.B) A (aj (am (fdOf x.B 287) |>.drop 16) (au x F cb)) Q (fun _ _=>False) ⟨h,gl,d,t,os⟩:=by
 refine bS 1 ?_
 refine aa hh Rp [] 48 (dA 0x6186186046186181186041041) (dM 5) (ai (ah x.B 287 16) (.ref (N+1)) (au x F cb)) [(N+1,oI "range_iterator" #[.int 0 0,.int 40 0,.int 1 0])] [] 2 3 ?_
 intro bT h1 N1 t1 Rp eE
 by_cases hz:n1=0
 ·subst hz
  refine yG x A hh (by exact wQ hA) _ F cb b ll o pc k8 k9 v9 bB bV bU cf ca ce b9 ek ei rz lz mt _ ub vb n0 sg ks kc kp up kd ud k1 v1 k2 v2 k3 k4 k5 k6 k7 v7 P D sd CN wd td el cl sl 0 gv rfl (by decide) hs b0 ne cs _ _ _ gl d os rest Rp fun h' N' t' fu fg ft ff sl Rp=>?_
  show wpAny ..
  refine ab hh Rp [] 11 (dA 0x0) [] Flow.next [] [] 0 0 ?_
  intro bW h2 N2 t2 Rp
  refine yD x A hh hA hU Q F cb b ll o pc k8 k9 v9 bB bV bU cf ca ce b9 ek ei rz lz mt _ _ n0 0 ks kc kp up kd ud k1 v1 k2 v2 k3 k4 k5 k6 k7 v7 P D sd CN wd td el cl _ _ _ _ _ _ _ _ c hT.ok (cW hT.d0 (by exact xh b0) (by exact xg b0)) (cW hT.d1 (by decide) (by decide)) (fun e=>?_) (fun e=>?_) ne cs E _ _ _ gl d os rest Rp K
  ·subst e
   have z:=hT.zero0
   exact⟨⟨z.1,z.2.1⟩,z.2.2⟩
  ·have z:=hT.zero1
   exact⟨⟨z.1,z.2.1⟩,z.2.2⟩
 ·skip
  have hE:qR 0 sg n0 n1:=⟨b0,b1,.inl ⟨rfl,hs⟩⟩
  obtain⟨uF,h1,h2,bq,er⟩:=hE.step hz rfl rfl
  refine yE true x A hh (by exact wQ hA) _ F cb b ll o pc k8 k9 v9 bB bV bU cf ca ce b9 ek ei rz lz mt _ ub vb n0 n1 _ _ sg ks kc kp up kd ud k1 v1 k2 v2 k3 k4 k5 k6 k7 v7 P D sd CN wd td el cl sl 0 gv rfl (by decide) jc hs b0 b1 hz rfl rfl h1 h2 bq c hT.ok ne cs E _ _ _ gl d os rest Rp fun h' N' t' ub vb k9 v9 fu fg ft ff gG gE v1 k6 sl be E' Rp=>?_
  have qf:=hT.tw 1 (sg*(sg*n0).fdiv n1) (.inr (.inl rfl))
  have e:iV (1,sg*(sg*n0).fdiv n1) (n0,n1)=(sg*(sg*n0).fmod n1,n1):=by rw[er];rfl
  rw[e] at qf
  refine Gv true x A hh (by exact wQ hA) _ F cb b ll o pc k8 bB bV bU cf ca ce b9 ek ei rz lz mt _ ks kc kp up kd ud k1 k2 v2 k3 k4 k5 k7 v7 P D sd CN wd td el cl gv jc bs ne gl d os rest 36 1 (by decide) _ _ (by unfold Eu;rw[if_neg (by decide)];exact uF) _ qf be E' _ _ _ _ _ _ _ _ _ _ _ _ _ _ _ _ _ _ _ _ Rp fun h' N' t' ub vb k9 v9 fu fg ft ff gG gE v1 k6 sl be c' x' y' RV TV HV OV hT hz bx yP E' Rp=>?_
  show wpAny ..
  refine ab hh Rp [] 11 (dA 0x0) [] Flow.next [] [] 0 0 ?_
  intro cC h3 N3 t3 Rp
  refine yC true x A hh hA hU Q F cb b ll o pc k8 _ _ bB bV bU cf ca ce b9 ek ei rz lz mt _ _ x' y' ks kc kp up kd ud k1 _ k2 v2 k3 k4 k5 _ k7 v7 P D sd CN wd td el cl _ _ _ _ _ _ _ _ _ _ _ c' hT.ok (cW hT.d0 (by exact xh bx) (by exact xg bx)) (cW hT.d1 (by exact xh yP) (by exact xg yP)) (fun e=>?_) (fun e=>?_) ne be E' _ _ _ gl d os rest Rp K
  ·subst e
   have z:=hT.zero0
   exact⟨⟨z.1,z.2.1⟩,z.2.2⟩
  ·obtain rfl:y'=0:=hz.resolve_left e
   have z:=hT.zero1
   exact⟨⟨z.1,z.2.1⟩,z.2.2⟩
theorem wH(x:W2)(A:Around)(hh:A.handled=none)(hA:A.depth<310)(hU:A.units<cLine)(Q:Flow→Shared→Prop)(F cb b ll o pc:Addr)(k8 k9 v9 bB bV bU cf ca ce b9 ek ei rz:Nat)(lz:List Nat)(mt:Int)(ub vb:Nat)(n0 n1 sg:Int)(ks kc k1 v1 k2 v2 k3 k4 k5 k6 kp up k7 v7:Nat)(P sd CN:Int)(wd td el cl:Addr)(sl:Array (Option Value))(gv:A.frames=some [au x F cb])(jc:sd=0∨sd=2)(hs:sg=1∨sg= -1)(bs:Int)(c:C4)(hT:fJ bs c n0 n1)(b0:n0.natAbs<2^17)(b1:n1.natAbs<2^17)(gH:n1≠0)(ne:Nat)(cs:ae)(E:Ends c el ne cs)
 (N t:Nat) (h:Heap) (gl d os) (rest:ae)
 (Rp:Rep x.B N h ((b,an #[.int n0 ub,.int n1 vb] 2)::(F,Ad x ks kc cl k1 sg v1 k2 sd v2 k3 wd k4 td k5 wd k6 el k7 CN v7 kp 3 up (fY x k8 b k9 v9 bB ll bU pc bV o [En x.B aw cf (.str (S lz) ca),En x.B az ce (.str (S (bj rz)) b9),En x.B cg ek (.int mt ei)]) 18 sl)::(cs++rest)) 0)
 (K:∀h' N' t' tab,Rep x.B N' h' tab 0→Q (.ret (.bool true)) ⟨h',gl,d,t',os⟩):
 wpAny (MB x.B) A (aj (am (fdOf x.B 287) |>.drop 16) (au x F cb)) Q (fun _ _=>False) ⟨h,gl,d,t,os⟩:=by
 refine bS 1 ?_
 refine aa hh Rp [] 48 (dA 0x6186186046186181186041041) (dM 5) (ai (ah x.B 287 16) (.ref (N+1)) (au x F cb)) [(N+1,oI "range_iterator" #[.int 0 0,.int 40 0,.int 1 0])] [] 2 3 ?_
 intro bT h1 N1 t1 Rp eE
 have hz:=gH
 ·skip
  have hE:qR 0 sg n0 n1:=⟨b0,b1,.inl ⟨rfl,hs⟩⟩
  obtain⟨uF,h1,h2,bq,er⟩:=hE.step hz rfl rfl
  refine yE false x A hh (by exact wQ hA) _ F cb b ll o pc k8 k9 v9 bB bV bU cf ca ce b9 ek ei rz lz mt _ ub vb n0 n1 _ _ sg ks kc kp up 0 0 k1 v1 k2 v2 k3 k4 k5 k6 k7 v7 P 0 sd CN wd td el cl sl 0 gv rfl (by decide) jc hs b0 b1 hz rfl rfl h1 h2 bq c hT.ok ne cs E _ _ _ gl d os rest Rp fun h' N' t' ub vb k9 v9 fu fg ft ff gG gE v1 k6 sl be E' Rp=>?_
  have qf:=hT.tw 1 (sg*(sg*n0).fdiv n1) (.inr (.inl rfl))
  have e:iV (1,sg*(sg*n0).fdiv n1) (n0,n1)=(sg*(sg*n0).fmod n1,n1):=by rw[er];rfl
  rw[e] at qf
  refine Gv false x A hh (by exact wQ hA) _ F cb b ll o pc k8 bB bV bU cf ca ce b9 ek ei rz lz mt _ ks kc kp up 0 0 k1 k2 v2 k3 k4 k5 k7 v7 P 0 sd CN wd td el cl gv jc bs ne gl d os rest 36 1 (by decide) _ _ (by unfold Eu;rw[if_neg (by decide)];exact uF) _ qf be E' _ _ _ _ _ _ _ _ _ _ _ _ _ _ _ _ _ _ _ _ Rp fun h' N' t' ub vb k9 v9 fu fg ft ff gG gE v1 k6 sl be c' x' y' RV TV HV OV hT hz bx yP E' Rp=>?_
  show wpAny ..
  refine ab hh Rp [] 11 (dA 0x0) [] Flow.next [] [] 0 0 ?_
  intro cC h3 N3 t3 Rp
  refine yC false x A hh hA hU Q F cb b ll o pc k8 _ _ bB bV bU cf ca ce b9 ek ei rz lz mt _ _ x' y' ks kc kp up 0 0 k1 _ k2 v2 k3 k4 k5 _ k7 v7 P 0 sd CN wd td el cl _ _ _ _ _ _ _ _ _ _ _ c' hT.ok (cW hT.d0 (by exact xh bx) (by exact xg bx)) (cW hT.d1 (by exact xh yP) (by exact xg yP)) (fun e=>?_) (fun e=>?_) ne be E' _ _ _ gl d os rest Rp K
  ·subst e
   have z:=hT.zero0
   exact⟨⟨z.1,z.2.1⟩,z.2.2⟩
  ·obtain rfl:y'=0:=hz.resolve_left e
   have z:=hT.zero1
   exact⟨⟨z.1,z.2.1⟩,z.2.2⟩
theorem AN(x:W2):Rep x.B 289 x.h₁ [] 0:=by
 refine⟨⟨OldK.refl _,fun a o e=>i5 x.H x.hl e,?_,?_,?_⟩,x.hs,Nat.le_refl _,fun p hp=>(nomatch hp),List.nodup_nil⟩
 ·have p8:(x.B.stat 2).isSome=true:=by rfl'
  obtain⟨o,e⟩:=Option.isSome_iff_exists.mp p8
  have hs:x.h₁.get? 2=x.B.stat 2:=by rw[e];exact i5 x.H x.hl e
  refine⟨_,.of_isNs (a:=cStatics) ?_,?_⟩
  ·show(match x.h₁.get? 2 with
    |some o=>(match o.data with| .dict es _=>es.all (fun e=>match e.key with| .str _ _=>true|_=>false)|_=>false)
    |none=>false)=true
   rw[hs]
   rfl'
  ·show(match x.h₁.get? 2 with
    |some o=>(match o.data with| .dict es _=>nsFind es "sys.recursionlimit"|_=>none)
    |none=>none)=none
   rw[hs]
   rfl'
 ·refine⟨#[],?_,.inl rfl⟩
  have q:=x.H _ _ (show(tr x.w.params).get 54=some (jm #[]) by rfl')
  exact q
 ·refine⟨#[],?_,.inl rfl⟩
  have q:=x.H _ _ (show(tr x.w.params).get 61=some (jm #[]) by rfl')
  exact q
noncomputable abbrev A0(x:W2):Around:=callerA.under (.func (am (fdOf x.B 287)) (au x 289 290))
theorem eF(x:W2):(A0 x).frames=some [au x 289 290]:=by rfl
theorem mq(x:W2):(A0 x).units<cLine:=Nat.le_of_ble_eq_true (by rfl')
theorem hR(x:W2):(A0 x).depth<310:=Nat.le_of_ble_eq_true (by rfl')
theorem fK(x:W2):(A0 x).handled=none:=by rfl
theorem rM{l:List Value}{ns:List Int}(h:IntsAre l ns):∀(i:Nat) v,l[i]? =some v→∃c u,v=.int c u:=by
 induction h with
 |nil=>intro i v e;simp at e
 |cons n t _ ih=>
  intro i v e
  cases i with
  |zero=>cases e;exact⟨_,_,rfl⟩
  |succ i=>exact ih i v e
theorem uW(t:Nat):CellsOk #[.int 165 (t+0),.int 37 (t+1),.int 21 (t+2),.int 31 (t+3),.int 35 (t+4),.int 25 (t+5)] 165:=by
 refine⟨rfl,fun i hi=>?_⟩
 obtain rfl|rfl|rfl|rfl|rfl|rfl:i=0∨i=1∨i=2∨i=3∨i=4∨i=5:=by omega
 all_goals exact⟨_,_,rfl,by decide,by decide⟩
theorem CellsOk.mono{items:Array Value}{m m':Int}(h:CellsOk items m)(e:m≤m'):CellsOk items m':=
 ⟨h.size,fun i hi=>let⟨c,u,a,b,l⟩:=h.at' i hi;⟨c,u,a,b,Int.le_trans l e⟩⟩
theorem start(x:W2)(ns:List Int)(hi:IntsAre x.vs ns)(hn:ns.length≤63)(R:Result→Shared→Prop)(t:Nat)(gl d os)
 (KN:∀h' N' t' (cl:Addr) items n ks kc kp kd up ud P D,CellsOk items 60000165→Rep x.B N' h' ((cl,an items n)::(290,iL none)::(289,bO [En x.B aq ks (.ref 288),En x.B aJ kc (.ref cl),En x.B aA kp (.int P up),En x.B bF kd (.int D ud)] 4)::[]) 0→
  wpAny (MB x.B) (A0 x) (aj (am (fdOf x.B 287) |>.drop 2) (au x 289 290)) (fun f s'=>R (.ok (.ret (eT f))) s') (fun _ _=>False) ⟨h',gl,d,t',os⟩)
 (KE:∀h' N' t' (cl:Addr) n ks kc tc,Rep x.B N' h' ((cl,an #[.int 165 (tc+0),.int 37 (tc+1),.int 21 (tc+2),.int 31 (tc+3),.int 35 (tc+4),.int 25 (tc+5)] n)::(290,iL none)::(289,bO [En x.B aq ks (.ref 288),En x.B aJ kc (.ref cl)] 2)::[]) 0→
  wpAny (MB x.B) (A0 x) (aj (am (fdOf x.B 287) |>.drop 2) (au x 289 290)) (fun f s'=>R (.ok (.ret (eT f))) s') (fun _ _=>False) ⟨h',gl,d,t',os⟩):
 codeAny (MB x.B) callerA (cR 287 [.ref 288]) R ⟨x.h₁,gl,d,t,os⟩:=by
 have hh:callerA.handled=none:=rfl
 have Rp:=AN x
 have B0:=slice_ints_uptoW hi (y:=60) (by decide)
 obtain⟨ys,ey⟩:∃ys,slicePick x.vs.toArray none (some 60) none=ys:=⟨_,rfl⟩
 rw[ey] at B0
 have hyl:ys.size≤60:=by
  rw[←Array.length_toList,B0.length,List.length_take];omega
 have F4:∀(i:Nat) v,ys[i]? =some v→∃c u,v=.int c u:=fun i v e=>rM B0 i v (by rw[Array.getElem?_toList];exact e)
 have lS:x.vs.toArray.size≤2^24:=by rw[List.size_toArray,hi.length];omega
 refine bE hh Rp (by decide) 19 (dA 0xc7041) (am (fdOf x.B 287)) (au x 289 290) [(290,oC none),(289,oF #[En x.B aq (t+0) (.ref 288)] 1)] 2 1 (by rfl') ?_
 intro bT h1 N1 t1 Rp
 refine bS 1 ?_
 refine ab hh Rp [] 27 (dA 0x108) (dM 3) Flow.next [(N1+0,oL #[.int 165 (t1+0),.int 37 (t1+1),.int 21 (t1+2),.int 31 (t1+3),.int 35 (t1+4),.int 25 (t1+5)] 0)] [.k,.u (dU [] [En x.B aJ (t1+6) (.ref (N1+0))] 2)] 1 7 ?_
 intro bW h2 N2 t2 Rp
 show wpAny _ _ (aj ..) ..
 refine bS 1 ?_
 refine aa hh Rp [] 23 (dA 0x41048041) (dM 3) (cB "list.__getitem__" [.ref 288,.ref (N2+0)]) [(N2+0,oI "slice" #[.none,.int 60 (t2+0),.none])] [] 1 1 ?_
 intro cC h3 N3 t3 Rp eD
 refine pO (n:=0) Rp (Rp.kt (by rfl')) 0 rfl .none (.int _ _) .none (by simp) lS ey fun h21 N21 a21 Rp=>?_
 show wpAny ..
 refine aa hh Rp [] 13 (dA 0x0) [] (.call (.type "enumerate") ⟨[.ref a21],[]⟩) [] [.k,.d] 0 0 ?_
 intro db h4 N4 t4 Rp gr
 refine l8 hh Rp 0 rfl fun h22 N22 t22 e it Rp=>?_
 show wpAny ..
 refine aa hh Rp [] 21 (dA 0x6181186) [] (ai (ah x.B 287 1) (.ref e) (au x 289 290)) [] [] 0 0 ?_
 intro dv h5 N5 t5 Rp mU
 rcases Nat.eq_zero_or_pos ys.size with hz|hz
 ·refine bZ (bh ⟨_,Rp.at (n:=0) rfl,rfl⟩ PySem.F.slot_enumerate_next (kU (i:=0) hh _ Rp (by rw[Array.getElem?_eq_none_iff];omega) fun h7 N7 t7 a7 v7 Rp=>?_))
  refine⟨⟨_,Rp.at (n:=0) rfl,rfl⟩,?_⟩
  show codeAny _ _ (.block (qp (ah x.B 287 1)) (au x 289 290)) _ _
  refine aX hh Rp [] 11 (dA 0x0) [] (.ok .next) [] [.d,.d] 0 0 ?_
  intro eN h6 N6 t6 Rp
  show wpAny ..
  refine ab hh Rp [] 11 (dA 0x0) [] Flow.next [] [] 0 0 ?_
  intro iG h8 N8 t8 Rp
  exact KE _ _ _ _ _ _ _ _ Rp
 ·obtain⟨c,u,hv⟩:=F4 0 ys[0] (Array.getElem?_eq_getElem hz)
  refine GJ x (A0 x) (fK x) (by have:=hR x;exact A8 this) _ 289 290 e it _ _ ys _ 0 _ _ _ _ 165 c u _ (by rw[Array.getElem?_eq_getElem hz,hv]) (by decide) (uW _) (by decide) _ _ _ gl d os [] Rp fun h' N' t' cJ kp kd v n yf Rp=>?_
  refine rm x (A0 x) (fK x) (by have:=hR x;exact A8 this) _ 289 290 e it _ _ ys _ _ _ F4 hyl gl d os [] (ys.size-1) 1 (by omega) cJ _ _ yf (by omega) _ _ _ _ _ _ _ _ _ _ Rp fun h' N' t' cJ n kp kd up ud P D ho Rp=>?_
  show wpAny ..
  refine ab hh Rp [] 11 (dA 0x0) [] Flow.next [] [] 0 0 ?_
  intro eN h6 N6 t6 Rp
  exact KN _ _ _ _ _ _ _ _ _ _ _ _ _ _ (ho.mono (by omega)) Rp
theorem jH{c0 c1 c2 c3 c4 c5:Int}(h1:0≤c1)(h2:0≤c2)(h3:0≤c3)(h4:0≤c4)(h5:0≤c5):(∀w∈dP c0 c1 c2 c3 c4 c5,(w.1=0∨w.1=1∨w.1=2)∧-9≤w.2∧w.2≤9)∧3≤(dP c0 c1 c2 c3 c4 c5).length∧(dP c0 c1 c2 c3 c4 c5).length≤5:=by
 have k:∀c,0≤c→((wq c).1=0∨(wq c).1=1∨(wq c).1=2)∧-9≤(wq c).2∧(wq c).2≤9:=fun c h=>by
  refine⟨?_,?_,?_⟩<;>(simp only[wq];omega)
 unfold dP
 split
 ·refine⟨fun w hw=>?_,by simp,by simp⟩
  simp only[List.mem_cons,List.not_mem_nil,or_false] at hw
  rcases hw with rfl|rfl|rfl<;>exact k _ (by assumption)
 ·split
  ·refine⟨fun w hw=>?_,by simp,by simp⟩
   simp only[List.mem_cons,List.not_mem_nil,or_false] at hw
   rcases hw with rfl|rfl|rfl|rfl<;>exact k _ (by assumption)
  ·refine⟨fun w hw=>?_,by simp,by simp⟩
   simp only[List.mem_cons,List.not_mem_nil,or_false] at hw
   rcases hw with rfl|rfl|rfl|rfl|rfl<;>exact k _ (by assumption)
structure P2 (bs:Int) (W:List (Int×Int)) (c0 c1:C4) (n0 m1 n1:Int):Prop where
 a0:fW (c0.k0-c0.k1)=n0
 a1:fW (c0.k1-c0.k2)=m1
 b0:fW (c1.k0-c1.k1)=n0
 b1:fW (c1.k1-c1.k2)=n1
 t:fJ bs c1 n0 n1
 l0:n0.natAbs≤100000
 l1:n1.natAbs≤100000
 lm:m1.natAbs≤100000
 rest:(m1*n1-1).fmod n0=0
 run:de W (0,1)=(n0,n1)
theorem plain2{bs:Int}(h0:0≤bs)(h8:bs<8)(W:List (Int×Int))(hw:∀w∈W,(w.1=0∨w.1=1∨w.1=2)∧-9≤w.2∧w.2≤9)(hl:W.length≤5){c0 c1:C4}(e0:(iF bs).run W.reverse=c0)(e1:(iF bs).run W=c1):
 ∃n0 m1 n1,P2 bs W c0 c1 n0 m1 n1:=by
 obtain⟨a,b,c,d,h1,h2,h3⟩:=nD W
 have r1:de W (0,1)=(b,d):=by rw[h1];exact Prod.ext (by show 0*a+1*b=b;exact zC) (by show 0*c+1*d=d;exact zC)
 have r2:de W.reverse (0,1)=(b,a):=by rw[h2];exact Prod.ext (by show 0*d+1*b=b;exact zC) (by show 0*c+1*a=a;exact zC)
 have t1:=(sD h0 h8).run W (fun w m=>(hw w m).1) (v:=(0,1))
 have t2:=(sD h0 h8).run W.reverse (fun w m=>(hw w (List.mem_reverse.mp m)).1) (v:=(0,1))
 rw[e1,r1] at t1
 rw[e0,r2] at t2
 have pw:∀k:Nat,k≤5→(10:Int)^k*1≤100000:=fun k hk=>by
  obtain rfl|rfl|rfl|rfl|rfl|rfl:k=0∨k=1∨k=2∨k=3∨k=4∨k=5:=by omega
  all_goals decide
 have p1:=iv W (fun w m=>(hw w m).2) (v:=(0,1)) (K:=1) (by decide) (by decide) (by decide)
 have p2:=iv W.reverse (fun w m=>(hw w (List.mem_reverse.mp m)).2) (v:=(0,1)) (K:=1) (by decide) (by decide) (by decide)
 have q1:=pw W.length hl
 have q2:=pw W.reverse.length (by rw[List.length_reverse];exact hl)
 rw[r1] at p1
 rw[r2] at p2
 dsimp only at p1 p2 t1 t2
 refine⟨b,a,d,cW t2.d0 (by omega) (by omega),cW t2.d1 (by omega) (by omega),cW t1.d0 (by omega) (by omega),cW t1.d1 (by omega) (by omega),t1,by omega,by omega,by omega,?_,r1⟩
 have:a*d-1=b*c:=by omega
 rw[this]
 exact Int.mul_fmod_right b c
theorem mR{S S':Int}(h:bg S)(h':bg S')(e:S≠S'):jD S≠jD S':=by
 rcases h with rfl|rfl<;>rcases h' with rfl|rfl
 ·exact absurd rfl e
 ·decide
 ·decide
 ·exact absurd rfl e
theorem pD{m:Nat}{c:C4}(hc:c.Ok)(h:qM m c):iH m (jD c.S0) (jD c.S1) (jD c.S2) (jD c.S3):=by
 obtain⟨⟨rfl,e1,e2,ne⟩|⟨rfl,e1,e2,ne⟩|⟨rfl,e1,e2,ne⟩⟩:=h
 ·exact⟨dW _,mR hc.S2 hc.S0 ne,.inl ⟨rfl,by rw[e1],by rw[e2],dW _⟩⟩
 ·exact⟨dW _,mR hc.S1 hc.S0 ne,.inr (.inl ⟨rfl,by rw[e1],by rw[e2],dW _⟩)⟩
 ·exact⟨dW _,mR hc.S1 hc.S0 ne,.inr (.inr ⟨rfl,by rw[e1],by rw[e2],dW _⟩)⟩
structure yZ (m:Nat) (l0 l1 l2 l3:List Nat) (k3:Nat):Prop where
 x0:eO [l0,l1,l2,l3] l0 0
 x1:lf [l0,l1,l2,l3] l1 1 (if m=1 then 41 else 40)
 x2:lf [l0,l1,l2,l3] l2 2 (if m=1 then 40 else 41)
 k:k3<3
 x3:eO [l0,l1,l2,l3] l3 k3
theorem pE{m:Nat}{l0 l1 l2 l3:List Nat}(h:iH m l0 l1 l2 l3):∃k3,yZ m l0 l1 l2 l3 k3:=by
 obtain⟨i0,ne,⟨rfl,rfl,rfl,_⟩|⟨rfl,rfl,rfl,_⟩|⟨rfl,rfl,rfl,_⟩⟩:=h
 all_goals simp only[if_true,show¬(2=1) from by decide,show¬(3=1) from by decide,if_false] at ne
 all_goals have nn:∀{a b:List Nat},a≠b→(some a:Option (List Nat))≠some b:=fun h e=>h (Option.some.inj e)
 ·refine⟨2,⟨⟨by simp,rfl,fun m hm=>by omega⟩,.inr ⟨0,by decide,⟨by simp,rfl,fun m hm=>by omega⟩,rfl⟩,.inl ⟨⟨by simp,rfl,fun m hm=>?_⟩,rfl⟩,by decide,⟨by simp,rfl,fun m hm=>?_⟩⟩⟩
  all_goals
   obtain rfl|rfl:m=0∨m=1:=by exact F0 hm
   ·exact nn (Ne.symm ne)
   ·exact nn (Ne.symm ne)
 ·refine⟨1,⟨⟨by simp,rfl,fun m hm=>by omega⟩,.inl ⟨⟨by simp,rfl,fun m hm=>?_⟩,rfl⟩,.inr ⟨0,by decide,⟨by simp,rfl,fun m hm=>by omega⟩,rfl⟩,by decide,⟨by simp,rfl,fun m hm=>?_⟩⟩⟩
  all_goals
   obtain rfl:m=0:=by exact Dj hm
   exact nn (Ne.symm ne)
 ·refine⟨0,⟨⟨by simp,rfl,fun m hm=>by omega⟩,.inl ⟨⟨by simp,rfl,fun m hm=>?_⟩,rfl⟩,.inr ⟨1,by decide,⟨by simp,rfl,fun m hm=>?_⟩,rfl⟩,by decide,⟨by simp,rfl,fun m hm=>by omega⟩⟩⟩
  all_goals
   obtain rfl:m=0:=by exact Dj hm
   exact nn (Ne.symm ne)
theorem wy(x:W2)(Q:Flow→Shared→Prop)(cl:Addr)(c0 c1 c2 c3 c4 c5:Int)(u0 u1 u2 u3 u4 u5 n ks kc:Nat)(kp kd up ud:Nat)(P D:Int)(h0:0≤c0)(hm:c0<2^26)(h1:0≤c1)(h2:0≤c2)(h3:0≤c3)(h4:0≤c4)(h5:0≤c5)
 (N t:Nat) (h:Heap) (gl d os) (fX:AllBare gl)
 (Rp:Rep x.B N h ((cl,an #[.int c0 u0,.int c1 u1,.int c2 u2,.int c3 u3,.int c4 u4,.int c5 u5] n)::(290,iL none)::(289,bO [En x.B aq ks (.ref 288),En x.B aJ kc (.ref cl),En x.B aA kp (.int P up),En x.B bF kd (.int D ud)] 4)::[]) 0)
 (K:∀h' N' t' aY tab,AllBare aY→Rep x.B N' h' tab 0→Q (.ret (.bool true)) ⟨h',aY,d,t',os⟩):
 wpAny (MB x.B) (A0 x) (aj (am (fdOf x.B 287) |>.drop 2) (au x 289 290)) Q (fun _ _=>False) ⟨h,gl,d,t,os⟩:=by
 have hh:=fK x
 have hA:=hR x
 have hU:=mq x
 obtain⟨sg,e1⟩:∃z,1-c0/3%2*2=z:=⟨_,rfl⟩
 obtain⟨sd,e2⟩:∃z,c0/6%2*2=z:=⟨_,rfl⟩
 obtain⟨bs,e3⟩:∃z,c0/12%8=z:=⟨_,rfl⟩
 have hs:sg=1∨sg= -1:=by exact FY e1
 have jc:sd=0∨sd=2:=by exact FX e2
 have gz:0≤bs:=by exact FW e3
 have m5:bs<8:=by exact FV e3
 obtain⟨r,gN,hr⟩:∃r:Nat,r<4∧c0/96%4=r:=⟨(c0/96%4).toNat,by exact FU,by exact FT⟩
 refine AK x (A0 x) hh Q 289 290 cl c0 c1 c2 c3 c4 c5 sg sd bs u0 u1 u2 u3 u4 u5 n ks kc kp kd up ud P D h0 hm e1 e2 e3 N t h gl d os [] Rp fun h' N' t' k1 k2 v1 v2 v3 Rp=>?_
 refine AI x (A0 x) hh Q 289 290 cl c0 c1 c2 c3 c4 c5 sg sd bs u0 u1 u2 u3 u4 u5 n ks kc k1 k2 v1 v2 v3 kp kd up ud P D ⟨h0,hm⟩ h1 h2 h3 h4 h5 _ _ _ gl d os [] Rp fun h' N' t' wd td k3 k4 nw ws lR Rp=>?_
 obtain⟨hW,uk,mY⟩:=jH (c0:=c0) h1 h2 h3 h4 h5
 rw[←lR] at hW uk mY
 have uj:=mY
 rw[List.length_map] at uk mY
 have fb:∀w∈ws,0≤w.p∧w.p≤2∧-(2^37)≤w.q∧w.q≤2^37:=fun w m=>by
  have:=hW (w.p,w.q) (List.mem_map_of_mem m)
  dsimp only at this
  exact Fl this
 refine AG x (A0 x) hh hA Q 289 290 cl wd td sg sd bs ks kc k1 k2 k3 k4 v1 v2 v3 nw kp kd up ud P D gz m5 ws uk mY fb _ _ _ _ gl d os [] Rp fun h' N' t' fk a b el ua va ub vb kd ud k5 k6 kp up k7 v7 ne nt m0 m1 n0 n1 P CN D d0 d1 cs sr sq sp so sn l9 E Hc Rp=>?_
 obtain⟨BH,BI,BG,p⟩:=plain2 (c0:=d0) gz m5 (wp ws) hW uj (by rw[←sr];unfold wp;rw[List.map_reverse]) sq
 obtain rfl:n0=BH:=by rw[←sn,p.b0]
 obtain rfl:n1=BG:=by rw[←l9,p.b1]
 obtain rfl:m1=BI:=by rw[←so,p.a1]
 obtain rfl:m0=n0:=by rw[←sp,p.a0]
 have l0:=p.l0
 have l1:=p.l1
 have lm:=p.lm
 refine CQ true x (A0 x) hh hA Q 289 290 a b ua va ub vb nt m0 m1 n1 ks kc kp up kd ud k1 v1 k2 v2 k3 k4 k5 k6 k7 v7 P D sg sd CN wd td el cl _ _ _ gl d os _ Rp fun h' N' t' k8 Rp=>?_
 refine CP true x (A0 x) hh hA Q 289 290 a b (eF x) ua va ub vb nt k8 m0 m1 n1 ks kc kp up kd ud k1 v1 k2 v2 k3 k4 k5 k6 k7 v7 P D sg sd CN wd td el cl (by exact zZ l0) (by exact zZ lm) (by exact zZ l1) p.rest _ _ _ gl d os _ Rp fun h' N' t' k9 v9 sl Rp=>?_
 refine CO true x (A0 x) hh hA Q 289 290 a b ua va ub vb nt k8 k9 v9 m0 m1 n1 ks kc kp up kd ud k1 v1 k2 v2 k3 k4 k5 k6 k7 v7 P D sg sd CN wd td el cl sl _ _ _ gl d os _ Rp fun h' N' t' Rp=>?_
 refine CM true x (A0 x) hh hA Q 289 290 b k8 k9 v9 _ _ ks kc kp up kd ud k1 v1 k2 v2 k3 k4 k5 k6 k7 v7 P D sg sd CN wd td el cl sl d1 Hc ne cs E _ _ _ gl d os fk Rp fun h' N' t' bB ll w0 w1 w2 w3 Rp=>?_
 refine wJ x (A0 x) hh hA Q 289 290 b ll k8 k9 v9 bB ks kc kp up kd ud k1 v1 k2 v2 k3 k4 k5 k6 k7 v7 P D sg sd CN wd td el cl sl _ _ _ gl d os _ (Rp.mov 2 0) fun h' N' t' bV bU kl o dh hl pc Rp=>?_
 have pt:=pD Hc p.t.shares
 obtain⟨kz,px⟩:=pE pt
 refine wI true x (A0 x) hh hA Q 289 290 ll o dh hl pc b k8 k9 v9 bB bV bU kl w0 w1 w2 w3 4 ks kc kp up kd ud k1 v1 k2 v2 k3 k4 k5 k6 k7 v7 P D sg sd CN wd td el cl sl _ _ _ _ (dW _) (dW _) (dW _) (dW _) _ _ kz px.x0 px.x1 px.x2 px.k px.x3 c0 c1 c2 c3 c4 c5 u0 u1 u2 u3 u4 u5 n (r%4) ((r+1)%4) ((r+2)%4) ((r+3)%4) h0 (by exact Fk) (by exact Fj) (by exact Fi) (by exact Fh) (by exact Fg hr) (by exact Ff hr) (by exact Fe hr) (by exact Fd hr) _ _ _ gl d os _ ((Rp.mov 5 0).mov 7 1) fun h' N' t' kp up cf ca ce b9 a0 a1 a2 a3 lr lq ln lk lx lw lv lu f' fZ gD gY Rp=>?_
 clear px
 by_cases q0:m0%2=0
 ·have hm:gb m0 n1=1:=if_pos q0
  rw[hm] at pt Rp
  refine pa true x (A0 x) hh hA hU Q 289 290 ll o dh hl pc b a0 a1 a2 a3 k8 k9 v9 bB bV bU kl cf ca ce b9 lr lq ln lk lx lw lv lu f' fZ gD gY w0 w1 w2 w3 4 ub vb r ((r+3)%4) m0 n1 _ _ _ _ _ ks kc kp up kd ud k1 v1 k2 v2 k3 k4 k5 k6 k7 v7 P D sg sd CN wd td el cl sl q0 gN pt _ _ _ gl d os fX _ ((Rp.mov 10 0).mov 3 1) fun h' N' t' aY ek ei fX Rp=>?_
  refine o9 x (A0 x) hh hA hU Q 289 290 b ll o pc k8 k9 v9 bB bV bU cf ca ce b9 ek ei _ _ 1 ub vb m0 n1 sg ks kc kp up kd ud k1 v1 k2 v2 k3 k4 k5 k6 k7 v7 P D sd CN wd td el cl sl (eF x) jc hs bs d1 p.t (by have:=p.l0;exact sO l0) (by have:=p.l1;exact sO l1) ne cs E _ _ _ aY d os _ Rp fun h' N' t' tab Rp=>K _ _ _ _ _ fX Rp
 by_cases q1:n1%2=0
 ·have hm:gb m0 n1=3:=by unfold gb;rw[if_neg q0,if_pos q1]
  rw[hm] at pt Rp
  refine ri x (A0 x) hh hA hU Q 289 290 ll o dh hl pc b a0 a1 a2 a3 k8 k9 v9 bB bV bU kl cf ca ce b9 lr lq ln lk lx lw lv lu f' fZ gD gY w0 w1 w2 w3 4 ub vb r ((r+3)%4) m0 n1 _ _ _ _ _ ks kc kp up kd ud k1 v1 k2 v2 k3 k4 k5 k6 k7 v7 P D sg sd CN wd td el cl sl ⟨by exact vE q0,q1⟩ gN pt _ _ _ gl d os fX _ ((Rp.mov 10 0).mov 3 1) fun h' N' t' aY ek ei fX Rp=>?_
  refine o9 x (A0 x) hh hA hU Q 289 290 b ll o pc k8 k9 v9 bB bV bU cf ca ce b9 ek ei _ _ 3 ub vb m0 n1 sg ks kc kp up kd ud k1 v1 k2 v2 k3 k4 k5 k6 k7 v7 P D sd CN wd td el cl sl (eF x) jc hs bs d1 p.t (by have:=p.l0;exact sO l0) (by have:=p.l1;exact sO l1) ne cs E _ _ _ aY d os _ Rp fun h' N' t' tab Rp=>K _ _ _ _ _ fX Rp
 ·have hm:gb m0 n1=2:=by unfold gb;rw[if_neg q0,if_neg q1]
  rw[hm] at pt Rp
  refine rj x (A0 x) hh hA hU Q 289 290 ll o dh hl pc b a0 a1 a2 a3 k8 k9 v9 bB bV bU kl cf ca ce b9 lr lq ln lk lx lw lv lu f' fZ gD gY w0 w1 w2 w3 4 ub vb r ((r+3)%4) m0 n1 _ _ _ _ _ ks kc kp up kd ud k1 v1 k2 v2 k3 k4 k5 k6 k7 v7 P D sg sd CN wd td el cl sl ⟨by exact vE q0,by exact vE q1⟩ gN pt _ _ _ gl d os fX _ ((Rp.mov 10 0).mov 3 1) fun h' N' t' aY ek ei fX Rp=>?_
  refine o9 x (A0 x) hh hA hU Q 289 290 b ll o pc k8 k9 v9 bB bV bU cf ca ce b9 ek ei _ _ 2 ub vb m0 n1 sg ks kc kp up kd ud k1 v1 k2 v2 k3 k4 k5 k6 k7 v7 P D sd CN wd td el cl sl (eF x) jc hs bs d1 p.t (by have:=p.l0;exact sO l0) (by have:=p.l1;exact sO l1) ne cs E _ _ _ aY d os _ Rp fun h' N' t' tab Rp=>K _ _ _ _ _ fX Rp
theorem wz(x:W2)(Q:Flow→Shared→Prop)(cl:Addr)(c0 c1 c2 c3 c4 c5:Int)(u0 u1 u2 u3 u4 u5 n ks kc:Nat)(h0:0≤c0)(hm:c0<2^26)(h1:0≤c1)(h2:0≤c2)(h3:0≤c3)(h4:0≤c4)(h5:0≤c5)(hc:c0=165∧c1=37∧c2=21∧c3=31)
 (N t:Nat) (h:Heap) (gl d os) (fX:AllBare gl)
 (Rp:Rep x.B N h ((cl,an #[.int c0 u0,.int c1 u1,.int c2 u2,.int c3 u3,.int c4 u4,.int c5 u5] n)::(290,iL none)::(289,bO [En x.B aq ks (.ref 288),En x.B aJ kc (.ref cl)] 2)::[]) 0)
 (K:∀h' N' t' aY tab,AllBare aY→Rep x.B N' h' tab 0→Q (.ret (.bool true)) ⟨h',aY,d,t',os⟩):
 wpAny (MB x.B) (A0 x) (aj (am (fdOf x.B 287) |>.drop 2) (au x 289 290)) Q (fun _ _=>False) ⟨h,gl,d,t,os⟩:=by
 have hh:=fK x
 have hA:=hR x
 have hU:=mq x
 obtain⟨sg,e1⟩:∃z,1-c0/3%2*2=z:=⟨_,rfl⟩
 obtain⟨sd,e2⟩:∃z,c0/6%2*2=z:=⟨_,rfl⟩
 obtain⟨bs,e3⟩:∃z,c0/12%8=z:=⟨_,rfl⟩
 have hs:sg=1∨sg= -1:=by exact FY e1
 have jc:sd=0∨sd=2:=by exact FX e2
 have gz:0≤bs:=by exact FW e3
 have m5:bs<8:=by exact FV e3
 obtain⟨r,gN,hr⟩:∃r:Nat,r<4∧c0/96%4=r:=⟨(c0/96%4).toNat,by exact FU,by exact FT⟩
 refine AL x (A0 x) hh Q 289 290 cl c0 c1 c2 c3 c4 c5 sg sd bs u0 u1 u2 u3 u4 u5 n ks kc h0 hm e1 e2 e3 N t h gl d os [] Rp fun h' N' t' k1 k2 v1 v2 v3 Rp=>?_
 refine AJ x (A0 x) hh Q 289 290 cl c0 c1 c2 c3 c4 c5 sg sd bs u0 u1 u2 u3 u4 u5 n ks kc k1 k2 v1 v2 v3 ⟨h0,hm⟩ h1 h2 h3 h4 h5 _ _ _ gl d os [] Rp fun h' N' t' wd td k3 k4 nw ws lR Rp=>?_
 obtain⟨hW,uk,mY⟩:=jH (c0:=c0) h1 h2 h3 h4 h5
 rw[←lR] at hW uk mY
 have uj:=mY
 rw[List.length_map] at uk mY
 have fb:∀w∈ws,0≤w.p∧w.p≤2∧-(2^37)≤w.q∧w.q≤2^37:=fun w m=>by
  have:=hW (w.p,w.q) (List.mem_map_of_mem m)
  dsimp only at this
  exact Fl this
 refine AH x (A0 x) hh hA Q 289 290 cl wd td sg sd bs ks kc k1 k2 k3 k4 v1 v2 v3 nw gz m5 ws uk mY fb _ _ _ _ gl d os [] Rp fun h' N' t' fk a b el ua va ub vb k5 k6 kp up k7 v7 ne nt m0 m1 n0 n1 P CN d0 d1 cs sr sq sp so sn l9 E Hc Rp=>?_
 obtain⟨BH,BI,BG,p⟩:=plain2 (c0:=d0) gz m5 (wp ws) hW uj (by rw[←sr];unfold wp;rw[List.map_reverse]) sq
 obtain rfl:n0=BH:=by rw[←sn,p.b0]
 obtain rfl:n1=BG:=by rw[←l9,p.b1]
 obtain rfl:m1=BI:=by rw[←so,p.a1]
 obtain rfl:m0=n0:=by rw[←sp,p.a0]
 have he:m0= -10∧n1=7:=by
  obtain⟨rfl,rfl,rfl,rfl⟩:=hc
  have e:=p.run
  have z:wp ws=dP 165 37 21 31 c4 c5:=lR
  rw[z] at e
  have e2:de (dP 165 37 21 31 c4 c5) (0,1)=(-10,7):=rfl
  rw[e2] at e
  exact⟨(congrArg Prod.fst e).symm,(congrArg Prod.snd e).symm⟩
 have gH:n1≠0:=by omega
 have l0:=p.l0
 have l1:=p.l1
 have lm:=p.lm
 refine CQ false x (A0 x) hh hA Q 289 290 a b ua va ub vb nt m0 m1 n1 ks kc kp up 0 0 k1 v1 k2 v2 k3 k4 k5 k6 k7 v7 P 0 sg sd CN wd td el cl _ _ _ gl d os _ Rp fun h' N' t' k8 Rp=>?_
 refine CP false x (A0 x) hh hA Q 289 290 a b (eF x) ua va ub vb nt k8 m0 m1 n1 ks kc kp up 0 0 k1 v1 k2 v2 k3 k4 k5 k6 k7 v7 P 0 sg sd CN wd td el cl (by omega) (by exact zZ lm) (by omega) p.rest _ _ _ gl d os _ Rp fun h' N' t' k9 v9 sl Rp=>?_
 refine CO false x (A0 x) hh hA Q 289 290 a b ua va ub vb nt k8 k9 v9 m0 m1 n1 ks kc kp up 0 0 k1 v1 k2 v2 k3 k4 k5 k6 k7 v7 P 0 sg sd CN wd td el cl sl _ _ _ gl d os _ Rp fun h' N' t' Rp=>?_
 refine CM false x (A0 x) hh hA Q 289 290 b k8 k9 v9 _ _ ks kc kp up 0 0 k1 v1 k2 v2 k3 k4 k5 k6 k7 v7 P 0 sg sd CN wd td el cl sl d1 Hc ne cs E _ _ _ gl d os fk Rp fun h' N' t' bB ll w0 w1 w2 w3 Rp=>?_
 refine wK x (A0 x) hh hA Q 289 290 b ll k8 k9 v9 bB ks kc k1 v1 k2 v2 k3 k4 k5 k6 kp up k7 v7 P sg sd CN wd td el cl sl _ _ _ gl d os _ (Rp.mov 2 0) fun h' N' t' bV bU kl o dh hl pc Rp=>?_
 have pt:=pD Hc p.t.shares
 obtain⟨kz,px⟩:=pE pt
 refine wI false x (A0 x) hh hA Q 289 290 ll o dh hl pc b k8 k9 v9 bB bV bU kl w0 w1 w2 w3 4 ks kc kp up 0 0 k1 v1 k2 v2 k3 k4 k5 k6 k7 v7 P 0 sg sd CN wd td el cl sl _ _ _ _ (dW _) (dW _) (dW _) (dW _) _ _ kz px.x0 px.x1 px.x2 px.k px.x3 c0 c1 c2 c3 c4 c5 u0 u1 u2 u3 u4 u5 n (r%4) ((r+1)%4) ((r+2)%4) ((r+3)%4) h0 (by exact Fk) (by exact Fj) (by exact Fi) (by exact Fh) (by exact Fg hr) (by exact Ff hr) (by exact Fe hr) (by exact Fd hr) _ _ _ gl d os _ ((Rp.mov 5 0).mov 7 1) fun h' N' t' kp up cf ca ce b9 a0 a1 a2 a3 lr lq ln lk lx lw lv lu f' fZ gD gY Rp=>?_
 clear px
 by_cases q0:m0%2=0
 ·have hm:gb m0 n1=1:=if_pos q0
  rw[hm] at pt Rp
  refine pa false x (A0 x) hh hA hU Q 289 290 ll o dh hl pc b a0 a1 a2 a3 k8 k9 v9 bB bV bU kl cf ca ce b9 lr lq ln lk lx lw lv lu f' fZ gD gY w0 w1 w2 w3 4 ub vb r ((r+3)%4) m0 n1 _ _ _ _ _ ks kc kp up 0 0 k1 v1 k2 v2 k3 k4 k5 k6 k7 v7 P 0 sg sd CN wd td el cl sl q0 gN pt _ _ _ gl d os fX _ ((Rp.mov 10 0).mov 3 1) fun h' N' t' aY ek ei fX Rp=>?_
  refine wH x (A0 x) hh hA hU Q 289 290 b ll o pc k8 k9 v9 bB bV bU cf ca ce b9 ek ei _ _ 1 ub vb m0 n1 sg ks kc k1 v1 k2 v2 k3 k4 k5 k6 kp up k7 v7 P sd CN wd td el cl sl (eF x) jc hs bs d1 p.t (by have:=p.l0;exact sO l0) (by have:=p.l1;exact sO l1) gH ne cs E _ _ _ aY d os _ Rp fun h' N' t' tab Rp=>K _ _ _ _ _ fX Rp
 ·exact absurd he.1 (by omega)
theorem BK(w:World)(h₁:Heap)(d:Drawn)(t:Nat)(os:OsState)(ns:List Int)(vs:List Value)(hi:IntsAre vs ns)(hn:ns.length≤63)
 (H:KH h₁ w.params) (hs:h₁.objs.size=289) (hl:h₁.get? 288=some {cls:=.type "list",data:=.seq vs.toArray}):
 wpAny (model PySem.Challenge.pw_ta0116_02 w) callerA (call (.ref 287) [.ref 288]) (Good h₁ os) (fun _ _=>False) ⟨h₁,#[],d,t,os⟩:=by
 have x:∃x:W2,x.w=w∧x.vs=vs∧x.h₁=h₁:=⟨⟨w,vs,h₁,hs,H,hl⟩,rfl,rfl,rfl⟩
 obtain⟨x,rfl,rfl,rfl⟩:=x
 refine wpAny_call ?_
 have fin:∀h' N' t' (aY:Array GenState) tab,AllBare aY→Rep x.B N' h' tab 0→Good x.h₁ os (.bool true) ⟨h',aY,d,t',os⟩:=fun h' N' t' aY tab hb Rp=>
  ⟨rfl,(show hJ x.h₁ x.w x.vs h' from Rp.inv).old,rfl,hb⟩
 refine start x ns hi hn _ t #[] d os (fun h' N' t' cl items n ks kc kp kd up ud P D hc Rp=>?_) (fun h' N' t' cl n ks kc tc Rp=>?_)
 ·obtain⟨c0,c1,c2,c3,c4,c5,u0,u1,u2,u3,u4,u5,rfl,a0,a1,a2,a3,a4,a5,b0,_⟩:=hc.six
  exact wy x _ cl c0 c1 c2 c3 c4 c5 u0 u1 u2 u3 u4 u5 n ks kc kp kd up ud P D a0 (by omega) a1 a2 a3 a4 a5 N' t' h' #[] d os AllBare.empty Rp fun h' N' t' aY tab hb Rp=>fin _ _ _ _ _ hb Rp
 ·exact wz x _ cl 165 37 21 31 35 25 _ _ _ _ _ _ n ks kc (by decide) (by decide) (by decide) (by decide) (by decide) (by decide) (by decide) ⟨rfl,rfl,rfl,rfl⟩ N' t' h' #[] d os AllBare.empty Rp fun h' N' t' aY tab hb Rp=>fin _ _ _ _ _ hb Rp
theorem law2_holds:PySem.Challenge.rw_ta0116_02.Holds:=AB fun w h₁ d t os ns vs hi hn H hs hl _=>BK w h₁ d t os ns vs hi hn H hs hl
end Mine
theorem PySem.Challenge.cw_ta0116_02_holds : PySem.Challenge.rw_ta0116_02.Holds :=
 Mine.law2_holds
