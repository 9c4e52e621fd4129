import PyProof.Rows.All
import Wide.All
import OpenK.AllK
import PyProof.ListStr
import KE.KIsNot
import KE.KSuper
import Open.Boot
import Wide.FinOn
import Wide.Once
import KE.KxPercent
import Lean
import PySem.Challenge.RW_qm0003_04
set_option maxRecDepth 100000
set_option autoImplicit false
set_option backward.match.sparseCases false
set_option genInjectivity false
set_option genCtorIdx false
set_option genSizeOf false
set_option Elab.async false
set_option maxHeartbeats 0
set_option linter.all false
set_option tactic.hygienic false
namespace Mine.Internal
@[elab_as_elim] theorem rg.{u}{α:Sort u}{a b:α}{P:α→Prop}(h:a=b)(k:P b):P a:=h▸k
local macro_rules
| `(tactic| lia)=>`(tactic| lia -abstractProof)
| `(tactic| rewrite [$e:term])=>`(tactic| first|with_reducible_and_instances refine rg ($e ..) ?_|rewrite (config:={}) [$e:term])
| `(tactic| rewrite [$r,$rs,*])=>`(tactic| (rewrite [$r];rewrite [$rs,*]))
open PySem PySem.W
theorem aI{p:Prop}[inst:Decidable p](h:decide p=true):p:=of_decide_eq_true h
theorem cK{p:Prop}[inst:Decidable p](h:decide p=false):¬p:=of_decide_eq_false h
theorem bN{p:Prop}[inst:Decidable p](h:p):decide p=true:=decide_eq_true h
theorem cE{p:Prop}[inst:Decidable p](h:¬p):decide p=false:=decide_eq_false h
theorem aK(n:Nat):n≤n:=Nat.le_refl n
theorem aJ{n m k:Nat}(h:n≤m)(l:m≤k):n≤k:=Nat.le_trans h l
theorem bA{n m:Nat}(h:n<m):n≤m:=Nat.le_of_lt h
theorem bY(n k:Nat):n≤n+k:=Nat.le_add_right n k
theorem jI{n m k:Nat}(h:n<m)(l:m≤k):n<k:=Nat.lt_of_lt_of_le h l
theorem iS{n m k:Nat}(h:n≤m)(l:m<k):n<k:=Nat.lt_of_le_of_lt h l
theorem cG{α:Type}{a b:α}(h:b∈[a]):b=a:=List.mem_singleton.mp h
theorem al_mc.{u}{α:Type u}{a b:α}{l:List α}(h:a∈b::l):a=b∨a∈l:=List.mem_cons.mp h
theorem aU{α:Type}{as bs:List α}:(as++bs).length=as.length+bs.length:=List.length_append
theorem cA{α:Type}(as:List α):as++[]=as:=List.append_nil as
theorem fY{α:Type}(as bs cs:List α):as++bs++cs=as++(bs++cs):=List.append_assoc as bs cs
theorem dX{α:Type}{l₁ l₂:List (List α)}:(l₁++l₂).flatten=l₁.flatten++l₂.flatten:=List.flatten_append
theorem iT{α:Type}{l:List α}{L:List (List α)}:(l::L).flatten=l++L.flatten:=List.flatten_cons
noncomputable abbrev aF:=@wpAny_bind
noncomputable abbrev aP:=@wpAny_pure
theorem eQ{n m:Nat}(h:Nat.ble n m=true):n≤m:=Nat.le_of_ble_eq_true h
theorem fX{n m:Nat}(h:n≤m):Nat.ble n m=true:=Nat.ble_eq_true_of_le h
theorem bx{P:Prop}(h:false=true):P:=Bool.noConfusion h
theorem tz{P:Prop}(h:true=false):P:=Bool.noConfusion h
theorem ox{α:Type}{x:α}{P:Prop}(h:none=some x):P:=by cases h
theorem sx{α:Type}{x:α}{P:Prop}(h:some x=none):P:=by cases h
theorem so{α:Type}{x y:α}(h:some x=some y):x=y:=Option.some.inj h
theorem dc{T m p p':Nat}(h:T-p<m+1)(l:p<p')(q:p<T):T-p'<m:=jI (Nat.sub_lt_sub_left q l) (Nat.le_of_lt_succ h)
theorem dc0{T m p p':Nat}(h:T-p≤m+1)(l:p<p')(q:p<T):T-p'≤m:=Nat.le_of_lt_succ (jI (Nat.sub_lt_sub_left q l) h)
theorem d4{T p:Nat}(h:T≤200):T-p<400:=iS (aJ (Nat.sub_le ..) h) (by decide)
theorem sm{a p p1 p2:Nat}(h:a≤p1-p)(l:p1≤p2):a≤p2-p:=aJ h (Nat.sub_le_sub_right l _)
theorem sd{a b p p1 p2:Nat}(h:a≤p1-p)(k:b≤p2-p1)(l:p≤p1)(l2:p1≤p2):a+b≤p2-p:=by
 rw[←Nat.sub_add_sub_cancel l2 l,Nat.add_comm];exact Nat.add_le_add k h
theorem pm{m:Nat}(h:0<m):m=m-1+1:=(Nat.sub_add_cancel h).symm
theorem mr{j a b T:Nat}(h:j<min b (T-a)):a+j<T:=Nat.add_lt_of_lt_sub' (jI h (Nat.min_le_right ..))
theorem ml{j a b T:Nat}(h:j<min (b-a) T):a+j<b:=Nat.add_lt_of_lt_sub' (jI h (Nat.min_le_left ..))
theorem bb3{A p b T:Nat}(h:A≤3*(p-b))(l:p<T)(k:T≤200):A≤600:=aJ h (Nat.mul_le_mul_left 3 (aJ (Nat.sub_le ..) (aJ (bA l) k)))
theorem gg{A u z b p p1 p2:Nat}(h:A≤3*(p-b))(hu:u≤2*(p1-p))(hz:z≤p2-p1)(l0:b≤p)(l1:p≤p1)(l2:p1≤p2):A+u+z≤3*(p2-b):=by
 rw[←Nat.sub_add_sub_cancel l2 (aJ l0 l1),←Nat.sub_add_sub_cancel l1 l0];revert h hu hz;generalize p-b=x;generalize p1-p=y;generalize p2-p1=w;intro h hu hz;clear l0 l1 l2;lia
theorem gg0{A z b p p1 p2:Nat}(h:A≤3*(p-b))(l0:b≤p)(l1:p<p1)(hz:z≤p2-p1)(l2:p1≤p2):A+1+1+z≤3*(p2-b):=
 gg (u:=2) h (Nat.mul_le_mul_left 2 (Nat.sub_pos_of_lt l1)) hz l0 (bA l1) l2
theorem gg2{A j l z b p p1 p2:Nat}(h:A≤3*(p-b))(l0:b≤p)(l1:p<p1)(hz:z≤p2-p1)(l2:p1≤p2)(lj:p+j≤p1)(hl:l≤1):A+j+l+z≤3*(p2-b):=by
 rw[Nat.add_assoc A];refine gg h ?_ hz l0 (bA l1) l2;rw[Nat.two_mul];exact Nat.add_le_add (Nat.le_sub_of_add_le' lj) (aJ hl (Nat.sub_pos_of_lt l1))
theorem ss0{z p q p':Nat}(h:z≤p'-(p+q)):0+z≤3*(p'-p):=by
 rw[Nat.zero_add];exact aJ h (aJ (Nat.sub_le_sub_left (bY ..) _) (Nat.le_mul_of_pos_left _ (by decide)))
theorem zd{a b c:Nat}(h:a+b<c):a<c:=iS (bY ..) h
theorem zu{u n c:Nat}(h:u+20*(n+1)<c):u+20<c:=iS (Nat.add_le_add_left (Nat.le_mul_of_pos_right 20 (Nat.succ_pos n)) u) h
theorem zk{u j m n c:Nat}(h:u+m*(n+1)<c)(l:j≤m):u+j+m*n<c:=by
 rw[Nat.mul_succ] at h;rw[Nat.add_assoc,Nat.add_comm j];exact iS (Nat.add_le_add_left (Nat.add_le_add_left l _) _) h
theorem zn{u m n c:Nat}(h:u+m*(n+1)<c):u+m*n<c:=zk (j:=0) h (Nat.zero_le _)
theorem zs{k g T:Nat}(h:k<g+T):k-g≤T:=Nat.sub_le_of_le_add (Nat.add_comm g T▸bA h)
theorem zm{d T:Nat}(h:d≤T):min d T+(T-d+1)=T+1:=by rw[Nat.min_eq_left h];exact congrArg Nat.succ (Nat.add_sub_of_le h)
theorem zo{L p:Nat}(h:1≤L):1≤p+L-p:=by rw[Nat.add_sub_cancel_left];exact h
theorem zf{T p p' m:Nat}(h:T-p+1<m+1)(q:p'<T)(l:p<p'):T-p'+1<m:=iS (Nat.succ_le_of_lt (Nat.sub_lt_sub_left (Nat.lt_trans l q) l)) (Nat.lt_of_succ_lt_succ h)
theorem zg{T p p' m:Nat}(h:T-p+1<m+1)(l:p≤p'):T-p'+0<m:=iS (Nat.sub_le_sub_left l T) (Nat.lt_of_succ_lt_succ h)
theorem zw{X z L p0 p1 p2:Nat}(d:z≤p2-(p1+L))(a:p0≤p1)(b:1≤L)(c:p1+L≤p2)(e:X≤1):X+z≤p2-p0:=sd (aJ e (Nat.le_sub_of_add_le' (Nat.add_le_add a b))) d (aJ a (bY ..)) c
theorem zp{a b i w d W i' w' c c' d':Nat}(h:a+b+i+w+d≤W+2+c)(k:c+1+i'+w'+d'≤c'+i+w+d):a+(b+1)+i'+w'+d'≤W+2+c':=by lia
theorem zc{k g:Nat}(h:g≤k):(k:Int)+1-((g+1:Nat):Int)=((k-g:Nat):Int):=(Int.add_sub_add_right (k:Int) 1 g).trans (Int.ofNat_sub h).symm
theorem zl{n i k:Nat}(l:n-i≤k)(h:i<n):0<k:=jI (Nat.sub_pos_of_lt h) l
theorem zr{a p T n:Nat}(h:a≤T-p)(l:T<n)(k:n≤200):a≤200:=aJ h (aJ (Nat.sub_le ..) (aJ (bA l) k))
theorem zt{a c d:Nat}(h:a+c≤d):a≤d:=aJ (bY ..) h
theorem zj{a d:Nat}(c:Nat)(h:a<d):a<d+c:=jI h (bY ..)
theorem zv{s j L:Nat}(h:1≤L):s<s+j+L:=iS (bY s j) (Nat.lt_add_of_pos_right h)
theorem zi{A B C R:Prop}(h:A∨B∨C∨R)(a:¬A)(b:¬B)(c:¬C):R:=((h.resolve_left a).resolve_left b).resolve_left c
theorem zh{i T:Nat}(h:T≤i+1)(l:i<T):i=T-1:=Nat.eq_sub_of_add_eq (Nat.le_antisymm l h)
theorem aE{p0 p1:Prop}{P:Prop}(h:p0∧p1)(k:p0→p1→P):P:=by
 obtain⟨h0,h1⟩:=h;exact k h0 h1
theorem kG{p0 p1 p2:Prop}{P:Prop}(h:p0∧p1∧p2)(k:p0→p1→p2→P):P:=by
 obtain⟨h0,h1,h2⟩:=h;exact k h0 h1 h2
theorem oQ{p0 p1 p2 p3:Prop}{P:Prop}(h:p0∧p1∧p2∧p3)(k:p0→p1→p2→p3→P):P:=by
 obtain⟨h0,h1,h2,h3⟩:=h;exact k h0 h1 h2 h3
theorem e0a4{p0 p1 p2 p3 p4:Prop}{P:Prop}(h:p0∧p1∧p2∧p3∧p4)(k:p0→p1→p2→p3→p4→P):P:=by
 obtain⟨h0,h1,h2,h3,h4⟩:=h;exact k h0 h1 h2 h3 h4
theorem e0a6{p0 p1 p2 p3 p4 p5 p6:Prop}{P:Prop}(h:p0∧p1∧p2∧p3∧p4∧p5∧p6)(k:p0→p1→p2→p3→p4→p5→p6→P):P:=by
 obtain⟨h0,h1,h2,h3,h4,h5,h6⟩:=h;exact k h0 h1 h2 h3 h4 h5 h6
theorem e0a7{p0 p1 p2 p3 p4 p5 p6 p7:Prop}{P:Prop}(h:p0∧p1∧p2∧p3∧p4∧p5∧p6∧p7)(k:p0→p1→p2→p3→p4→p5→p6→p7→P):P:=by
 obtain⟨h0,h1,h2,h3,h4,h5,h6,h7⟩:=h;exact k h0 h1 h2 h3 h4 h5 h6 h7
theorem e0a8{p0 p1 p2 p3 p4 p5 p6 p7 p8:Prop}{P:Prop}(h:p0∧p1∧p2∧p3∧p4∧p5∧p6∧p7∧p8)(k:p0→p1→p2→p3→p4→p5→p6→p7→p8→P):P:=by
 obtain⟨h0,h1,h2,h3,h4,h5,h6,h7,h8⟩:=h;exact k h0 h1 h2 h3 h4 h5 h6 h7 h8
theorem bG{A0:Type}{p0:A0→Prop}{P:Prop}(h:∃x0,p0 x0)(k:∀x0,p0 x0→P):P:=by
 obtain⟨x0,h0⟩:=h;exact k x0 h0
theorem aB{A0:Type}{p0 p1:A0→Prop}{P:Prop}(h:∃x0,p0 x0∧p1 x0)(k:∀x0,p0 x0→p1 x0→P):P:=by
 obtain⟨x0,h0,h1⟩:=h;exact k x0 h0 h1
theorem fA{A0:Type}{p0 p1 p2:A0→Prop}{P:Prop}(h:∃x0,p0 x0∧p1 x0∧p2 x0)(k:∀x0,p0 x0→p1 x0→p2 x0→P):P:=by
 obtain⟨x0,h0,h1,h2⟩:=h;exact k x0 h0 h1 h2
theorem Ca{A0:Type}{p0 p1 p2 p3:A0→Prop}{P:Prop}(h:∃x0,p0 x0∧p1 x0∧p2 x0∧p3 x0)(k:∀x0,p0 x0→p1 x0→p2 x0→p3 x0→P):P:=by
 obtain⟨x0,h0,h1,h2,h3⟩:=h;exact k x0 h0 h1 h2 h3
theorem e1a4{A0:Type}{p0 p1 p2 p3 p4:A0→Prop}{P:Prop}(h:∃x0,p0 x0∧p1 x0∧p2 x0∧p3 x0∧p4 x0)(k:∀x0,p0 x0→p1 x0→p2 x0→p3 x0→p4 x0→P):P:=by
 obtain⟨x0,h0,h1,h2,h3,h4⟩:=h;exact k x0 h0 h1 h2 h3 h4
theorem yM{A0 A1:Type}{p0:A0→A1→Prop}{P:Prop}(h:∃x0 x1,p0 x0 x1)(k:∀x0 x1,p0 x0 x1→P):P:=by
 obtain⟨x0,x1,h0⟩:=h;exact k x0 x1 h0
theorem iJ{A0 A1:Type}{p0 p1:A0→A1→Prop}{P:Prop}(h:∃x0 x1,p0 x0 x1∧p1 x0 x1)(k:∀x0 x1,p0 x0 x1→p1 x0 x1→P):P:=by
 obtain⟨x0,x1,h0,h1⟩:=h;exact k x0 x1 h0 h1
theorem gX{A0 A1:Type}{p0 p1 p2:A0→A1→Prop}{P:Prop}(h:∃x0 x1,p0 x0 x1∧p1 x0 x1∧p2 x0 x1)(k:∀x0 x1,p0 x0 x1→p1 x0 x1→p2 x0 x1→P):P:=by
 obtain⟨x0,x1,h0,h1,h2⟩:=h;exact k x0 x1 h0 h1 h2
theorem DK{A0 A1:Type}{p0 p1 p2 p3:A0→A1→Prop}{P:Prop}(h:∃x0 x1,p0 x0 x1∧p1 x0 x1∧p2 x0 x1∧p3 x0 x1)(k:∀x0 x1,p0 x0 x1→p1 x0 x1→p2 x0 x1→p3 x0 x1→P):P:=by
 obtain⟨x0,x1,h0,h1,h2,h3⟩:=h;exact k x0 x1 h0 h1 h2 h3
theorem Li{A0 A1:Type}{p0 p1 p2 p3 p4:A0→A1→Prop}{P:Prop}(h:∃x0 x1,p0 x0 x1∧p1 x0 x1∧p2 x0 x1∧p3 x0 x1∧p4 x0 x1)(k:∀x0 x1,p0 x0 x1→p1 x0 x1→p2 x0 x1→p3 x0 x1→p4 x0 x1→P):P:=by
 obtain⟨x0,x1,h0,h1,h2,h3,h4⟩:=h;exact k x0 x1 h0 h1 h2 h3 h4
theorem jS{A0 A1 A2:Type}{p0:A0→A1→A2→Prop}{P:Prop}(h:∃x0 x1 x2,p0 x0 x1 x2)(k:∀x0 x1 x2,p0 x0 x1 x2→P):P:=by
 obtain⟨x0,x1,x2,h0⟩:=h;exact k x0 x1 x2 h0
theorem Lh{A0 A1 A2:Type}{p0 p1:A0→A1→A2→Prop}{P:Prop}(h:∃x0 x1 x2,p0 x0 x1 x2∧p1 x0 x1 x2)(k:∀x0 x1 x2,p0 x0 x1 x2→p1 x0 x1 x2→P):P:=by
 obtain⟨x0,x1,x2,h0,h1⟩:=h;exact k x0 x1 x2 h0 h1
theorem Lg{A0 A1 A2:Type}{p0 p1 p2:A0→A1→A2→Prop}{P:Prop}(h:∃x0 x1 x2,p0 x0 x1 x2∧p1 x0 x1 x2∧p2 x0 x1 x2)(k:∀x0 x1 x2,p0 x0 x1 x2→p1 x0 x1 x2→p2 x0 x1 x2→P):P:=by
 obtain⟨x0,x1,x2,h0,h1,h2⟩:=h;exact k x0 x1 x2 h0 h1 h2
theorem gL{A0 A1 A2:Type}{p0 p1 p2 p3:A0→A1→A2→Prop}{P:Prop}(h:∃x0 x1 x2,p0 x0 x1 x2∧p1 x0 x1 x2∧p2 x0 x1 x2∧p3 x0 x1 x2)(k:∀x0 x1 x2,p0 x0 x1 x2→p1 x0 x1 x2→p2 x0 x1 x2→p3 x0 x1 x2→P):P:=by
 obtain⟨x0,x1,x2,h0,h1,h2,h3⟩:=h;exact k x0 x1 x2 h0 h1 h2 h3
theorem Bz{A0 A1 A2:Type}{p0 p1 p2 p3 p4:A0→A1→A2→Prop}{P:Prop}(h:∃x0 x1 x2,p0 x0 x1 x2∧p1 x0 x1 x2∧p2 x0 x1 x2∧p3 x0 x1 x2∧p4 x0 x1 x2)(k:∀x0 x1 x2,p0 x0 x1 x2→p1 x0 x1 x2→p2 x0 x1 x2→p3 x0 x1 x2→p4 x0 x1 x2→P):P:=by
 obtain⟨x0,x1,x2,h0,h1,h2,h3,h4⟩:=h;exact k x0 x1 x2 h0 h1 h2 h3 h4
theorem IG{A0 A1 A2 A3:Type}{p0:A0→A1→A2→A3→Prop}{P:Prop}(h:∃x0 x1 x2 x3,p0 x0 x1 x2 x3)(k:∀x0 x1 x2 x3,p0 x0 x1 x2 x3→P):P:=by
 obtain⟨x0,x1,x2,x3,h0⟩:=h;exact k x0 x1 x2 x3 h0
theorem IF{A0 A1 A2 A3:Type}{p0 p1:A0→A1→A2→A3→Prop}{P:Prop}(h:∃x0 x1 x2 x3,p0 x0 x1 x2 x3∧p1 x0 x1 x2 x3)(k:∀x0 x1 x2 x3,p0 x0 x1 x2 x3→p1 x0 x1 x2 x3→P):P:=by
 obtain⟨x0,x1,x2,x3,h0,h1⟩:=h;exact k x0 x1 x2 x3 h0 h1
theorem Rr{A0 A1 A2 A3:Type}{p0 p1 p2:A0→A1→A2→A3→Prop}{P:Prop}(h:∃x0 x1 x2 x3,p0 x0 x1 x2 x3∧p1 x0 x1 x2 x3∧p2 x0 x1 x2 x3)(k:∀x0 x1 x2 x3,p0 x0 x1 x2 x3→p1 x0 x1 x2 x3→p2 x0 x1 x2 x3→P):P:=by
 obtain⟨x0,x1,x2,x3,h0,h1,h2⟩:=h;exact k x0 x1 x2 x3 h0 h1 h2
theorem DJ{A0 A1 A2 A3:Type}{p0 p1 p2 p3:A0→A1→A2→A3→Prop}{P:Prop}(h:∃x0 x1 x2 x3,p0 x0 x1 x2 x3∧p1 x0 x1 x2 x3∧p2 x0 x1 x2 x3∧p3 x0 x1 x2 x3)(k:∀x0 x1 x2 x3,p0 x0 x1 x2 x3→p1 x0 x1 x2 x3→p2 x0 x1 x2 x3→p3 x0 x1 x2 x3→P):P:=by
 obtain⟨x0,x1,x2,x3,h0,h1,h2,h3⟩:=h;exact k x0 x1 x2 x3 h0 h1 h2 h3
theorem e4a6{A0 A1 A2 A3:Type}{p0 p1 p2 p3 p4 p5 p6:A0→A1→A2→A3→Prop}{P:Prop}(h:∃x0 x1 x2 x3,p0 x0 x1 x2 x3∧p1 x0 x1 x2 x3∧p2 x0 x1 x2 x3∧p3 x0 x1 x2 x3∧p4 x0 x1 x2 x3∧p5 x0 x1 x2 x3∧p6 x0 x1 x2 x3)(k:∀x0 x1 x2 x3,p0 x0 x1 x2 x3→p1 x0 x1 x2 x3→p2 x0 x1 x2 x3→p3 x0 x1 x2 x3→p4 x0 x1 x2 x3→p5 x0 x1 x2 x3→p6 x0 x1 x2 x3→P):P:=by
 obtain⟨x0,x1,x2,x3,h0,h1,h2,h3,h4,h5,h6⟩:=h;exact k x0 x1 x2 x3 h0 h1 h2 h3 h4 h5 h6
theorem e4a8{A0 A1 A2 A3:Type}{p0 p1 p2 p3 p4 p5 p6 p7 p8:A0→A1→A2→A3→Prop}{P:Prop}(h:∃x0 x1 x2 x3,p0 x0 x1 x2 x3∧p1 x0 x1 x2 x3∧p2 x0 x1 x2 x3∧p3 x0 x1 x2 x3∧p4 x0 x1 x2 x3∧p5 x0 x1 x2 x3∧p6 x0 x1 x2 x3∧p7 x0 x1 x2 x3∧p8 x0 x1 x2 x3)(k:∀x0 x1 x2 x3,p0 x0 x1 x2 x3→p1 x0 x1 x2 x3→p2 x0 x1 x2 x3→p3 x0 x1 x2 x3→p4 x0 x1 x2 x3→p5 x0 x1 x2 x3→p6 x0 x1 x2 x3→p7 x0 x1 x2 x3→p8 x0 x1 x2 x3→P):P:=by
 obtain⟨x0,x1,x2,x3,h0,h1,h2,h3,h4,h5,h6,h7,h8⟩:=h;exact k x0 x1 x2 x3 h0 h1 h2 h3 h4 h5 h6 h7 h8
theorem e5a6{A0 A1 A2 A3 A4:Type}{p0 p1 p2 p3 p4 p5 p6:A0→A1→A2→A3→A4→Prop}{P:Prop}(h:∃x0 x1 x2 x3 x4,p0 x0 x1 x2 x3 x4∧p1 x0 x1 x2 x3 x4∧p2 x0 x1 x2 x3 x4∧p3 x0 x1 x2 x3 x4∧p4 x0 x1 x2 x3 x4∧p5 x0 x1 x2 x3 x4∧p6 x0 x1 x2 x3 x4)(k:∀x0 x1 x2 x3 x4,p0 x0 x1 x2 x3 x4→p1 x0 x1 x2 x3 x4→p2 x0 x1 x2 x3 x4→p3 x0 x1 x2 x3 x4→p4 x0 x1 x2 x3 x4→p5 x0 x1 x2 x3 x4→p6 x0 x1 x2 x3 x4→P):P:=by
 obtain⟨x0,x1,x2,x3,x4,h0,h1,h2,h3,h4,h5,h6⟩:=h;exact k x0 x1 x2 x3 x4 h0 h1 h2 h3 h4 h5 h6
theorem e7a3{A0 A1 A2 A3 A4 A5 A6:Type}{p0 p1 p2 p3:A0→A1→A2→A3→A4→A5→A6→Prop}{P:Prop}(h:∃x0 x1 x2 x3 x4 x5 x6,p0 x0 x1 x2 x3 x4 x5 x6∧p1 x0 x1 x2 x3 x4 x5 x6∧p2 x0 x1 x2 x3 x4 x5 x6∧p3 x0 x1 x2 x3 x4 x5 x6)(k:∀x0 x1 x2 x3 x4 x5 x6,p0 x0 x1 x2 x3 x4 x5 x6→p1 x0 x1 x2 x3 x4 x5 x6→p2 x0 x1 x2 x3 x4 x5 x6→p3 x0 x1 x2 x3 x4 x5 x6→P):P:=by
 obtain⟨x0,x1,x2,x3,x4,x5,x6,h0,h1,h2,h3⟩:=h;exact k x0 x1 x2 x3 x4 x5 x6 h0 h1 h2 h3
theorem bc{P:Prop}(h:(P→False)→False):P:=Classical.byContradiction h
section
open PySem.Calls PyProof.Rows
inductive V where
 | none
 | bool (b:Bool)
 | int (i:Int)
 | str (s:List Nat)
 | cls (a:Nat)
 | obj (c:Nat) (fs:List (Str×V))
 | tup (l:List V)
 | lst (l:List V)
 | exc (c:Nat) (fs:List (Str×V))
 | any
set_option genCtorIdx true in
gen_injective_theorems% V
noncomputable abbrev gH:Nat:=100000
noncomputable abbrev aO:Nat:=10000
inductive Slot where
 | val (v:V)
 | lst (l:List V)
 | dct (l:List (Int×V))
 | self
 | gone
set_option genCtorIdx true in
gen_injective_theorems% Slot
noncomputable abbrev aL:=List (Str×Slot)
structure St where
 loc:aL
 flds:aL
 tch:Bool
noncomputable def put(x:Str)(v:Slot):aL→aL
 | []=>[(x,v)]
 | (y,w)::r=>if y=x then (y,v)::r else (y,w)::put x v r
noncomputable def look.{u}{α:Type u}(x:Str):List (Str×α)→Option α
 | []=>none
 | (y,w)::r=>if y=x then some w else look x r
noncomputable def fF{α:Type}(x:Nat):List (Nat×α)→Option α
 | []=>none
 | (y,w)::r=>match Nat.beq y x with
  | true=>some w
  | false=>fF x r
noncomputable def cX(x:Int):List (Int×V)→Option V
 | []=>none
 | (y,w)::r=>if y=x then some w else cX x r
noncomputable def sW(x:Int)(v:V):List (Int×V)→List (Int×V)
 | []=>[(x,v)]
 | (y,w)::r=>if y=x then (y,v)::r else (y,w)::sW x v r
noncomputable def nO(x:Int):List (Int×V)→List (Int×V)
 | []=>[]
 | (y,w)::r=>if y=x then r else (y,w)::nO x r
noncomputable def Slot.kill:Slot→Slot
 | .self=>.gone
 | sl=>sl
noncomputable def lD:aL→aL
 | []=>[]
 | (x,sl)::r=>(x,sl.kill)::lD r
noncomputable def St.dead(st:St):St:=⟨lD st.loc,[],true⟩
noncomputable def St.setF(fl:aL)(st:St):St:=⟨st.loc,fl,true⟩
noncomputable def St.setL(x:Str)(sl:Slot)(st:St):St:=⟨put x sl st.loc,st.flds,st.tch⟩
noncomputable def St.keep(l:List Str)(st:St):St:=⟨st.loc.filter fun p=>l.contains p.1,st.flds,st.tch⟩
noncomputable def St.names(st:St):List Str:=st.loc.map (·.1)
noncomputable abbrev R(α:Type):=(P:Type)→(α→St→P)→(V→St→P)→P→P
noncomputable def R.ok{α:Type}(a:α)(st:St):R α:=fun _ k _ _=>k a st
noncomputable def R.err{α:Type}(e:V)(st:St):R α:=fun _ _ ke _=>ke e st
noncomputable def R.bad{α:Type}:R α:=fun _ _ _ b=>b
noncomputable abbrev R.bind{α β:Type}(r:R α)(f:α→St→R β):R β:=fun P k ke b=>r P (fun a st=>f a st P k ke b) ke b
noncomputable def onO{α P:Type}(o:Option α)(k:α→P)(b:P):P:=match o with
 | some a=>k a
 | none=>b
noncomputable def onB{P:Type}(c:Bool)(x y:P):P:=match c with
 | true=>x
 | false=>y
noncomputable abbrev R.ofOpt{α:Type}(o:Option α)(st:St):R α:=fun _ k _ b=>onO o (fun a=>k a st) b
noncomputable abbrev R.ifT{α:Type}(c:Bool)(x y:R α):R α:=fun P k ke b=>onB c (x P k ke b) (y P k ke b)
noncomputable def R.keep{α:Type}(l:List Str)(r:R α):R α:=fun P k ke b=>r P (fun a st=>k a (st.keep l)) (fun e st=>ke e (st.keep l)) b
noncomputable abbrev CR:=(P:Type)→(V→aL→P)→(V→P)→P→P
noncomputable abbrev aY:=List V→List (Str×V)→aL→CR
noncomputable abbrev fM:=List Str×List (Str×V)
structure Orc where
 meth:List (Str×aY)
 fns:List (Str×aY)
 sup:Option aY
 glob:List (Str×V)
 make:List (Nat×fM)
 excs:List (Nat×fM)
 cattr:List (Nat×List (Str×V))
 attrs:List (Nat×List Str)
 xattrs:List (Nat×List Str)
 scan:Nat
 frz:Nat→Bool
 notInst:List (Nat×Nat)
 top:Bool
 fuel:Nat
noncomputable def asInt:V→Option Int
 | .int i=>some i
 | _=>none
noncomputable def asStr:V→Option (List Nat)
 | .str s=>some s
 | _=>none
noncomputable def asLst:V→Option (List V)
 | .lst l=>some l
 | _=>none
noncomputable def asTup:V→Option (List V)
 | .tup l=>some l
 | _=>none
noncomputable def asCls:V→Option Nat
 | .cls c=>some c
 | _=>none
noncomputable def asBool:V→Option Bool
 | .bool b=>some b
 | _=>none
noncomputable def isNone:V→Bool
 | .none=>true
 | _=>false
noncomputable def uL:List Nat→Option Nat
 | [c]=>some c
 | _=>none
noncomputable def bU{α:Type}:List α→Bool
 | []=>true
 | _::_=>false
noncomputable def cF:V→Option Bool
 | .none=>some false
 | .bool b=>some b
 | .int i=>some (!decide (i=0))
 | .str s=>some (!bU s)
 | .tup l=>some (!bU l)
 | .lst l=>some (!bU l)
 | _=>none
noncomputable def mK:List Nat:=(Str.ofString "found character %r that cannot start any token").cps.toList
noncomputable def kK(f:V→V→Option Bool):List V→List V→Option Bool
 | [],[]=>some true
 | a::r,b::t=>(f a b).bind fun x=>(kK f r t).map fun y=>x&&y
 | _,_=>none
noncomputable def Oj:V→Option Bool
 | .none=>some true
 | .int _=>some false
 | _=>none
noncomputable def gE:Nat→V→V→Option Bool
 | 0,_,_=>none
 | n+1,a,b=>match a with
  | .none=>Oj b
  | .bool a=>(asBool b).map fun b=>a==b
  | .int a=>(asInt b).map fun b=>decide (a=b)
  | .str a=>(asStr b).map fun b=>decide (a=b)
  | .tup a=>(asTup b).bind fun b=>match Nat.beq a.length b.length with
   | true=>kK (gE n) a b
   | false=>none
  | .lst a=>(asLst b).bind fun b=>match Nat.beq a.length b.length with
   | true=>kK (gE n) a b
   | false=>some false
  | _=>none
noncomputable def Op(a:List Nat):List V→Option Bool
 | []=>some false
 | v::r=>(asStr v).bind fun b=>(Op a r).map fun c=>decide (b=a)||c
noncomputable def Px(f:Int→Int→Bool)(a b:V):Option Bool:=(asInt a).bind fun x=>(asInt b).map fun y=>f x y
noncomputable def leV(a b:V):Option Bool:=match asStr a with
 | some s=>(uL s).bind fun x=>(asStr b).bind fun t=>(uL t).map fun y=>decide (x≤y)
 | none=>Px (fun x y=>decide (x≤y)) a b
noncomputable def inS(a b:V):Option Bool:=(asStr a).bind fun s=>(asStr b).bind fun t=>(uL s).map fun c=>decide (c∈t)
noncomputable def inV(a b:V):Option Bool:=match b with
 | .lst l=>(asStr a).bind fun s=>Op s l
 | .tup l=>(asStr a).bind fun s=>Op s l
 | b=>inS a b
noncomputable def oH:V→Option Bool
 | .none=>some true
 | .int _=>some false
 | .str _=>some false
 | .obj _ _=>some false
 | _=>none
noncomputable def Gk(y:Bool):V→Option Bool
 | .none=>some false
 | .bool x=>some (x==y)
 | _=>none
noncomputable def isV(a b:V):Option Bool:=match b with
 | .none=>oH a
 | .bool y=>Gk y a
 | _=>none
noncomputable def Pq(a b:V):Option Bool:=(asBool b).bind fun y=>(Gk y a).map not
noncomputable def aG(op:CmpOp)(a b:V):Option Bool:=match op with
 | .Eq=>gE 4 a b
 | .NotEq=>(gE 4 a b).map not
 | .Lt=>Px (fun x y=>decide (x<y)) a b
 | .LtE=>leV a b
 | .Gt=>Px (fun x y=>decide (y<x)) a b
 | .GtE=>Px (fun x y=>decide (y≤x)) a b
 | .In=>inV a b
 | .NotIn=>(inS a b).map not
 | .Is=>isV a b
 | .IsNot=>Pq a b
noncomputable def cV{α:Type}(b:Bool)(a:α):Option α:=match b with
 | true=>some a
 | false=>none
noncomputable def iX(a b:V):Option V:=match asInt a with
 | some x=>(asInt b).map fun y=>.int (x+y)
 | none=>(asStr a).bind fun x=>(asStr b).bind fun y=>cV (Nat.ble (x.length+y.length) gH) (.str (x++y))
noncomputable def Mj(a b:V):Option V:=(asInt a).bind fun x=>(asInt b).map fun y=>.int (x-y)
noncomputable def Fy(a b:V):Option V:=(asInt a).bind fun x=>(asInt b).bind fun y=>cV (decide (0≤x)&&decide (x≤100)&&decide (0≤y)&&decide (y≤1000)) (.int (x*y))
noncomputable def hE(a b:V):Option V:=match asInt a with
 | some x=>(asInt b).bind fun y=>cV (decide (0<y)) (.int (x % y))
 | none=>(asStr a).bind fun x=>(asStr b).bind fun y=>cV (decide (x=mK)&&decide (y=[124])) .any
noncomputable def Gs(a b:V):Option V:=(asInt a).bind fun x=>(asInt b).bind fun y=>cV (decide (0<y)&&decide (y≤1000)&&decide (0≤x)&&decide (x≤100000)) (.int (x / y))
noncomputable def DY(op:Operator)(a b:V):Option V:=match op with
 | .Add=>iX a b
 | .Sub=>Mj a b
 | .Mult=>Fy a b
 | .Mod=>hE a b
 | .FloorDiv=>Gs a b
 | _=>none
noncomputable def Ew:V→Option (Option Int)
 | .none=>some none
 | .int i=>some (some i)
 | _=>none
noncomputable def cS{α:Type}(l:List α)(lo hi:Option Int):List α:=(l.drop (lo.elim 0 (clipAt l.length))).take (hi.elim l.length (clipAt l.length)-lo.elim 0 (clipAt l.length))
noncomputable def iF{α:Type}(l:List α)(i:Int):Option α:=(cV (decide (0≤i)) i).bind fun i=>l[i.toNat]?
noncomputable def dN(v:V)(i:V):Option V:=(asInt i).bind fun i=>match v with
 | .str l=>(iF l i).map fun c=>.str [c]
 | .lst l=>iF l i
 | .tup l=>iF l i
 | _=>none
noncomputable def bR(v lo hi:V):Option V:=(Ew lo).bind fun lo=>(Ew hi).bind fun hi=>match v with
 | .str l=>some (.str (cS l lo hi))
 | .lst l=>some (.lst (cS l lo hi))
 | _=>none
noncomputable def vR:List V→Option (List Nat)
 | []=>some []
 | v::r=>(asStr v).bind fun a=>(vR r).map fun b=>a++b
noncomputable def En:Const→Option V
 | .none=>some .none
 | .bool b=>some (.bool b)
 | .int i=>some (.int i)
 | .str s=>cV (Nat.ble s.cps.toList.length 1000) (.str s.cps.toList)
 | _=>none
inductive Fl where
 | next|brk|cont
 | ret (v:V)
set_option genCtorIdx true in
gen_injective_theorems% Fl
noncomputable def fN:List (Str×V)→aL
 | []=>[]
 | (x,v)::r=>(x,.val v)::fN r
noncomputable def lT:List Str→List V→List (Str×V)→List (Str×V)→Option (List (Str×V))
 | [],[],_,_=>some []
 | [],_::_,_,_=>none
 | p::ps,v::vs,kw,df=>(lT ps vs kw df).map fun l=>(p,v)::l
 | p::ps,[],kw,df=>match look p kw with
  | some v=>(lT ps [] kw df).map fun l=>(p,v)::l
  | none=>(look p df).bind fun v=>(lT ps [] kw df).map fun l=>(p,v)::l
noncomputable def GS(ps:List Str):List (Str×V)→Bool
 | []=>true
 | p::r=>bU r&&ps.contains p.1
noncomputable def kB(ps:List Str)(args:List V)(kw df:List (Str×V)):Option (List (Str×V)):=(cV (GS (ps.drop args.length) kw) ()).bind fun _=>lT ps args kw df
set_option backward.match.sparseCases true in
noncomputable def tJ:Nat→(St→R Bool)→(St→R Fl)→St→R Fl
 | 0,_,_,_=>R.bad
 | n+1,t,b,st=>(t st).bind fun c st=>R.ifT c ((b st).bind fun f st=>match f with
   | .brk=>R.ok .next st
   | .ret v=>R.ok (.ret v) st
   | _=>tJ n t b st) (R.ok .next st)
set_option backward.match.sparseCases true in
noncomputable def eU(b:V→St→R Fl):List V→St→R Fl
 | [],st=>R.ok .next st
 | x::r,st=>(b x st).bind fun f st=>match f with
  | .brk=>R.ok .next st
  | .ret v=>R.ok (.ret v) st
  | _=>eU b r st
structure Ev where
 eval:Scope→PySem.Expr→St→R V
 test:Scope→PySem.Expr→St→R Bool
 exec:Scope→PySem.Stmt→St→R Fl
 execs:Scope→List PySem.Stmt→St→R Fl
noncomputable def IP:Ev:=⟨fun _ _ _=>R.bad,fun _ _ _=>R.bad,fun _ _ _=>R.bad,fun _ _ _=>R.bad⟩
noncomputable def cR:PySem.Expr→Option Str
 | .Name x _=>some x
 | _=>none
noncomputable def wF:PySem.Expr→Option (PySem.Expr×Str)
 | .Attribute b a _=>some (b,a)
 | _=>none
noncomputable def Bx:PySem.Expr→Option Int
 | .Constant c _ _=>match c with
  | .int i=>some i
  | _=>none
 | _=>none
noncomputable def Gy:PySem.Expr→Option (PySem.Expr×List PySem.Expr×List Keyword)
 | .Call f args kws _=>some (f,args,kws)
 | _=>none
noncomputable def lE:PySem.Expr→Bool
 | .Set _ _ _=>true
 | _=>false
noncomputable def dA:PySem.Expr→Bool
 | .Starred _ _=>true
 | _=>false
noncomputable def Gj:PySem.Expr→Bool
 | .Tuple _ _ _=>true
 | _=>false
noncomputable def fQ:PySem.Expr→Bool
 | .ListComp _ _ _ _=>false
 | .SetComp _ _ _ _=>false
 | .DictComp _ _ _ _ _=>false
 | _=>true
noncomputable def xR:PySem.Expr→Bool
 | .Name _ _=>true
 | .Attribute _ _ _=>true
 | .Subscript _ _ _=>true
 | .Call _ _ _ _=>true
 | _=>false
noncomputable def bP{α:Type}:List α→Bool
 | []=>true
 | _=>false
noncomputable def one{α:Type}:List α→Option α
 | [a]=>some a
 | _=>none
noncomputable def two{α:Type}:List α→Option (α×α)
 | [a,b]=>some (a,b)
 | _=>none
noncomputable def Dz(k:NameKind)(o:Option NameKind):Bool:=match o with
 | some j=>decide (j=k)
 | none=>false
noncomputable def cB(sc:Scope)(x:Str):Bool:=Dz .local (sc.names.lookup x)
noncomputable def cL(sc:Scope)(x:Str):Bool:=Dz .globalImplicit (sc.names.lookup x)
noncomputable abbrev ifB{α:Type}(b:Bool)(r:R α):R α:=R.ifT b r R.bad
noncomputable def nJ:Option Slot→Bool
 | some .self=>true
 | _=>false
noncomputable def xI(sc:Scope)(x:Str)(st:St):Bool:=cB sc x&&nJ (look x st.loc)
noncomputable def Fk(sc:Scope)(e:PySem.Expr)(st:St):Bool:=match cR e with
 | some x=>xI sc x st
 | none=>false
noncomputable def vY(t:List (Nat×List Str))(c:Nat)(a:Str):Bool:=match fF c t with
 | some l=>l.contains a
 | none=>false
noncomputable def eM(O:Orc)(c:Nat)(a:Str):Bool:=vY O.attrs c a
noncomputable def bH(O:Orc)(sc:Scope)(e:PySem.Expr)(st:St):Option (Str×Slot):=(wF e).bind fun p=>match Fk sc p.1 st&&eM O O.scan p.2 with
 | true=>(look p.2 st.flds).map fun sl=>(p.2,sl)
 | false=>none
noncomputable def AT(x:Str)(st:St):R V:=match look x st.loc with
 | some (.val v)=>R.ok v st
 | some (.lst l)=>R.ok (.lst l) (st.setL x (.val (.lst l)))
 | _=>R.bad
noncomputable def Ol(O:Orc)(sc:Scope)(x:Str)(st:St):R V:=match cB sc x with
 | true=>AT x st
 | false=>ifB (cL sc x) (R.ofOpt (look x O.glob) st)
noncomputable def rL(O:Orc)(c:Nat)(fs:List (Str×V))(a:Str):Option V:=match look a fs with
 | some v=>some v
 | none=>(fF c O.cattr).bind (look a)
noncomputable def eJ(O:Orc)(v:V)(a:Str):Option V:=match v with
 | .obj c fs=>match eM O c a with
  | true=>rL O c fs a
  | false=>none
 | .exc c fs=>match vY O.xattrs c a with
  | true=>look a fs
  | false=>none
 | _=>none
noncomputable def Yc(st:St):Slot→R V
 | .val v=>R.ok v st
 | _=>R.bad
noncomputable def Oh:PySem.Expr→Bool
 | .Name _ _=>true
 | .Attribute _ _ _=>true
 | .Subscript _ _ _=>true
 | _=>false
noncomputable def Tc(O:Orc)(E:Ev)(sc:Scope)(e b:PySem.Expr)(a:Str)(st:St):R V:=match bH O sc e st with
 | some p=>Yc st p.2
 | none=>ifB (Oh b) ((E.eval sc b st).bind fun v st=>R.ofOpt (eJ O v a) st)
noncomputable def lO(ev:PySem.Expr→St→R V):List PySem.Expr→St→R (List V)
 | [],st=>R.ok [] st
 | e::r,st=>(ev e st).bind fun v st=>(lO ev r st).bind fun vs st=>R.ok (v::vs) st
noncomputable def BG(ev:PySem.Expr→St→R V):List Keyword→St→R (List (Str×V))
 | [],st=>R.ok [] st
 | ⟨n,e,_⟩::r,st=>match n with
  | some n=>(ev e st).bind fun v st=>(BG ev r st).bind fun vs st=>R.ok ((n,v)::vs) st
  | none=>R.bad
set_option backward.match.sparseCases true in
noncomputable def yJ(ex:PySem.Stmt→St→R Fl):List PySem.Stmt→St→R Fl
 | [],st=>R.ok .next st
 | s::r,st=>(ex s st).bind fun f st=>match f with
  | .next=>yJ ex r st
  | f=>R.ok f st
noncomputable def yO(op:BoolOp)(b:Bool):Bool:=match op with
 | .And=>!b
 | .Or=>b
noncomputable def Sp(ev:PySem.Expr→St→R V)(op:BoolOp):List PySem.Expr→St→R V
 | [],_=>R.bad
 | e::r,st=>match r with
  | []=>ev e st
  | _::_=>(ev e st).bind fun v st=>(R.ofOpt (cF v) st).bind fun b st=>R.ifT (yO op b) (R.ok v st) (Sp ev op r st)
noncomputable def Sq(te:PySem.Expr→St→R Bool)(op:BoolOp):List PySem.Expr→St→R Bool
 | [],st=>R.ok (yO op false) st
 | e::r,st=>(te e st).bind fun b st=>R.ifT (yO op b) (R.ok b st) (Sq te op r st)
noncomputable def uF(ev:PySem.Expr→St→R V):List CmpOp→List PySem.Expr→V→St→R Bool
 | [],_,_,_=>R.bad
 | _::_,[],_,_=>R.bad
 | op::ops,r::rs,a,st=>match ops,rs with
  | [],[]=>(ev r st).bind fun b st=>R.ofOpt (aG op a b) st
  | _::_,_::_=>(ev r st).bind fun b st=>(R.ofOpt (aG op a b) st).bind fun c st=>R.ifT c (uF ev ops rs b st) (R.ok false st)
  | _,_=>R.bad
noncomputable def isIn(ops:List CmpOp):Bool:=match one ops with
 | some .In=>true
 | _=>false
noncomputable def yN(O:Orc)(sc:Scope)(ops:List CmpOp)(rs:List PySem.Expr)(st:St):Option (List (Int×V)):=match isIn ops with
 | true=>(one rs).bind fun r=>(bH O sc r st).bind fun p=>match p.2 with
  | .dct l=>some l
  | _=>none
 | false=>none
noncomputable def Sa(O:Orc)(E:Ev)(sc:Scope)(ops:List CmpOp)(rs:List PySem.Expr)(a:V)(st:St):R Bool:=match yN O sc ops rs st with
 | some d=>(R.ofOpt (asInt a) st).bind fun i st=>R.ok (cX i d).isSome st
 | none=>uF (E.eval sc) ops rs a st
noncomputable def Sb(O:Orc)(E:Ev)(sc:Scope)(l:PySem.Expr)(ops:List CmpOp)(rs:List PySem.Expr)(st:St):R Bool:=match rs.any lE with
 | true=>R.bad
 | false=>(E.eval sc l st).bind fun a st=>Sa O E sc ops rs a st
noncomputable def AM(O:Orc)(E:Ev)(sc:Scope)(x:PySem.Expr)(st:St):R V:=match bH O sc x st with
 | some p=>match p.2 with
  | .lst l=>R.ok (.bool (bU l)) st
  | .val v=>(R.ofOpt (cF v) st).bind fun b st=>R.ok (.bool (!b)) st
  | _=>R.bad
 | none=>(E.eval sc x st).bind fun v st=>(R.ofOpt (cF v) st).bind fun b st=>R.ok (.bool (!b)) st
noncomputable def Xx(v:V):Option V:=(asInt v).map fun i=>.int (-i)
noncomputable def gR(sp:aY)(args:List V)(kw:List (Str×V))(st:St):R V:=fun P k ke b=>sp args kw st.flds P (fun v fl=>k v (st.setF fl)) (fun e=>ke e st.dead) b
noncomputable def Py(O:Orc)(c:Nat)(args:List V)(kw:List (Str×V))(st:St):R V:=(R.ofOpt ((fF c O.make).bind fun p=>kB p.1 args kw p.2) st).bind fun fs st=>R.ok (.obj c fs) st
noncomputable def xP(args:List PySem.Expr)(kws:List Keyword):Bool:=args.all (fun a=>!dA a)&&(kws.all (fun k=>k.arg.isSome)&&Nat.ble (args.length+kws.length) 20)
noncomputable def iD(q p:Pos):Bool:=q.endLine==p.line
noncomputable def qX(E:Ev)(sc:Scope)(args:List PySem.Expr)(kws:List Keyword)(st:St)(f:List V→List (Str×V)→St→R V):R V:=(lO (E.eval sc) args st).bind fun vs st=>(BG (E.eval sc) kws st).bind fun ks st=>f vs ks st
noncomputable def rJ(a:Str)(l:List V)(st:St):R V:=R.ifT (Nat.ble l.length aO) (R.ok .none (st.setF (put a (.lst l) st.flds))) R.bad
noncomputable def tH(o:Option Slot):Option (List V):=match o with
 | some (.lst l)=>some l
 | _=>none
noncomputable def Vy(l:List V)(i:Int)(v:V):List V:=l.take i.toNat++v::l.drop i.toNat
noncomputable def Yi(l:List V)(i:Int):Bool:=decide (0≤i)&&decide (i≤(l.length:Int))
noncomputable def iB{α:Type}:List α→Option (List α×α)
 | []=>none
 | x::r=>match iB r with
  | some p=>some (x::p.1,p.2)
  | none=>some ([],x)
noncomputable def uncons{α:Type}:List α→Option (α×List α)
 | []=>none
 | x::r=>some (x,r)
noncomputable def pM(E:Ev)(sc:Scope)(a m:Str)(args:List PySem.Expr)(st0:St):R V:=
 if m=("append" : Str) then (R.ofOpt (one args) st0).bind fun e st=>(E.eval sc e st).bind fun v st=>(R.ofOpt (tH (look a st.flds)) st).bind fun l st=>rJ a (l++[v]) st
 else if m=("insert" : Str) then (R.ofOpt (two args) st0).bind fun p st=>(E.eval sc p.1 st).bind fun i st=>(E.eval sc p.2 st).bind fun v st=>(R.ofOpt (asInt i) st).bind fun i st=>
  (R.ofOpt (tH (look a st.flds)) st).bind fun l st=>ifB (Yi l i) (rJ a (Vy l i v) st)
 else if m=("pop" : Str) then match args with
  | []=>(R.ofOpt ((tH (look a st0.flds)).bind iB) st0).bind fun p st=>R.ok p.2 (st.setF (put a (.lst p.1) st.flds))
  | e::r=>ifB (decide (Bx e=some 0)&&bP r) ((R.ofOpt ((tH (look a st0.flds)).bind uncons) st0).bind fun p st=>R.ok p.1 (st.setF (put a (.lst p.2) st.flds)))
 else R.bad
noncomputable def rI(x:Str)(l:List V)(st:St):R V:=R.ifT (Nat.ble l.length aO) (R.ok .none (st.setL x (.lst l))) R.bad
noncomputable def pR(E:Ev)(sc:Scope)(x m:Str)(args:List PySem.Expr)(st:St):R V:=
 if m=("append" : Str) then (R.ofOpt (one args) st).bind fun e st=>(E.eval sc e st).bind fun v st=>(R.ofOpt (tH (look x st.loc)) st).bind fun l st=>rI x (l++[v]) st
 else if m=("extend" : Str) then (R.ofOpt (one args) st).bind fun e st=>(E.eval sc e st).bind fun v st=>(R.ofOpt (tH (look x st.loc)) st).bind fun l st=>(R.ofOpt (asLst v) st).bind fun l' st=>rI x (l++l') st
 else R.bad
noncomputable def jY(v:V):Option V:=(asLst v).bind fun l=>(vR l).bind fun r=>cV (Nat.ble r.length gH) (.str r)
noncomputable def Yn(E:Ev)(sc:Scope)(c:Const)(m:Str)(args:List PySem.Expr)(st:St):R V:=match c with
 | .str s=>match decide (s=("" : Str))&&decide (m=("join" : Str)) with
  | true=>(R.ofOpt (one args) st).bind fun e st=>(E.eval sc e st).bind fun v st=>R.ofOpt (jY v) st
  | false=>R.bad
 | _=>R.bad
noncomputable def Pt(O:Orc)(v c:V):Option Bool:=match v with
 | .obj c' _=>(asCls c).bind fun d=>match Nat.beq c' d with
  | true=>some true
  | false=>cV (O.notInst.contains (c',d)) false
 | _=>none
noncomputable def lA:V→Option V
 | .str l=>some (.int l.length)
 | .lst l=>some (.int l.length)
 | .tup l=>some (.int l.length)
 | _=>none
noncomputable def AV(O:Orc)(E:Ev)(sc:Scope)(e:PySem.Expr)(st:St):R V:=match bH O sc e st with
 | some p=>match p.2 with
  | .lst l=>R.ok (.int l.length) st
  | .val v=>R.ofOpt (lA v) st
  | _=>R.bad
 | none=>(E.eval sc e st).bind fun v st=>R.ofOpt (lA v) st
noncomputable def Hb(o:Option (Str×Slot)):Option (List (Int×V)):=match o with
 | some p=>match p.2 with
  | .dct l=>some l
  | _=>none
 | none=>none
noncomputable def Ym(l:List (Int×V)):V:=.lst (l.map fun p=>.int p.1)
noncomputable def GC(a b:V):Option V:=(asInt a).bind fun x=>(asInt b).map fun y=>.int (if x<y then y else x)
noncomputable def strV(v:V):Option V:=(asStr v).map fun _=>.bool true
noncomputable def Yq(O:Orc)(E:Ev)(sc:Scope)(e c:PySem.Expr)(st:St):R V:=(E.eval sc e st).bind fun v st=>(R.ofOpt (cR c) st).bind fun c st=>ifB (cL sc c)
 (if c=("str" : Str) then R.ofOpt (strV v) st else (R.ofOpt ((look c O.glob).bind fun d=>Pt O v d) st).bind fun b st=>R.ok (.bool b) st)
noncomputable def DX(O:Orc)(E:Ev)(sc:Scope)(g:Str)(args:List PySem.Expr)(st:St):R V:=
 if g=("len" : Str) then (R.ofOpt (one args) st).bind fun e st=>AV O E sc e st
 else if g=("isinstance" : Str) then (R.ofOpt (two args) st).bind fun p st=>Yq O E sc p.1 p.2 st
 else if g=("list" : Str) then (R.ofOpt ((one args).bind fun e=>Hb (bH O sc e st)) st).bind fun l st=>R.ok (Ym l) st
 else if g=("max" : Str) then (R.ofOpt (two args) st).bind fun p st=>(E.eval sc p.1 st).bind fun a st=>(E.eval sc p.2 st).bind fun b st=>R.ofOpt (GC a b) st
 else R.bad
noncomputable def tW(O:Orc)(E:Ev)(sc:Scope)(g:Str)(args:List PySem.Expr)(kws:List Keyword)(st:St):R V:=match look g O.glob with
 | some v=>(R.ofOpt (asCls v) st).bind fun c st=>ifB (fF c O.make).isSome (qX E sc args kws st (Py O c))
 | none=>match look g O.fns with
  | some f=>qX E sc args kws st (gR f)
  | none=>ifB (bP kws) (DX O E sc g args st)
noncomputable def tF(O:Orc)(E:Ev)(sc:Scope)(g:Str)(args:List PySem.Expr)(kws:List Keyword)(st:St):R V:=match cB sc g with
 | true=>match look g st.loc with
  | some (.val v)=>(R.ofOpt (asCls v) st).bind fun c st=>ifB (fF c O.make).isSome (qX E sc args kws st (Py O c))
  | _=>R.bad
 | false=>ifB (cL sc g) (tW O E sc g args kws st)
noncomputable def tG(O:Orc)(E:Ev)(sc:Scope)(x m:Str)(args:List PySem.Expr)(kws:List Keyword)(st:St):R V:=ifB (cB sc x) (match look x st.loc with
 | some .self=>match look m st.flds with
  | none=>match look m O.meth with
   | some sp=>qX E sc args kws st (gR sp)
   | none=>R.bad
  | some _=>R.bad
 | some (.lst _)=>ifB (bP kws) (pR E sc x m args st)
 | _=>R.bad)
noncomputable def uJ(O:Orc)(E:Ev)(sc:Scope)(o:PySem.Expr)(m:Str)(args:List PySem.Expr)(kws:List Keyword)(st:St):R V:=match bH O sc o st with
 | some p=>match p.2 with
  | .lst _=>ifB (bP kws) (pM E sc p.1 m args st)
  | _=>R.bad
 | none=>match o with
  | .Name x _=>tG O E sc x m args kws st
  | .Constant c _ _=>ifB (bP kws) (Yn E sc c m args st)
  | _=>R.bad
noncomputable def Sk(O:Orc)(E:Ev)(sc:Scope)(f:PySem.Expr)(args:List PySem.Expr)(kws:List Keyword)(p:Pos)(st:St):R V:=ifB (xP args kws) (match f with
 | .Attribute o m q=>ifB (iD q p) (uJ O E sc o m args kws st)
 | .Name g _=>tF O E sc g args kws st
 | _=>R.bad)
noncomputable def pJ(O:Orc)(sc:Scope)(e:PySem.Expr)(st:St):Option Int:=match Bx e with
 | some i=>some i
 | none=>match cR e with
  | some x=>match cB sc x,look x st.loc with
   | true,some (.val v)=>asInt v
   | _,_=>none
  | none=>match bH O sc e st with
   | some p=>match p.2 with
    | .val v=>asInt v
    | _=>none
   | none=>none
noncomputable def Oe(E:Ev)(sc:Scope)(o:Option PySem.Expr)(st:St):R V:=match o with
 | some e=>E.eval sc e st
 | none=>R.ok .none st
noncomputable def Yb(E:Ev)(sc:Scope)(v:V)(i:PySem.Expr)(st:St):R V:=match i with
 | .Slice lo hi step _=>match step with
  | none=>(Oe E sc lo st).bind fun lo st=>(Oe E sc hi st).bind fun hi st=>R.ofOpt (bR v lo hi) st
  | some _=>R.bad
 | i=>(E.eval sc i st).bind fun i st=>R.ofOpt (dN v i) st
noncomputable def Um(sl:Slot)(i:Int):Option V:=match sl with
 | .lst l=>iF l i
 | .dct l=>cX i l
 | _=>none
noncomputable def Yo:Slot→Bool
 | .val _=>true
 | _=>false
noncomputable def Zr(O:Orc)(E:Ev)(sc:Scope)(b i:PySem.Expr)(st:St):R V:=match (bH O sc b st).bind fun p=>cV (!Yo p.2) p.2 with
 | some sl=>R.ofOpt ((pJ O sc i st).bind fun i=>Um sl i) st
 | none=>(E.eval sc b st).bind fun v st=>Yb E sc v i st
noncomputable def eY:V→Option (List V)
 | .str l=>some (l.map fun c=>.str [c])
 | .lst l=>some l
 | _=>none
noncomputable def IJ(op:CmpOp)(c:Nat)(s:List Nat):Option Bool:=match op with
 | .NotEq=>some (!decide ([c]=s))
 | .NotIn=>some (!decide (c∈s))
 | _=>none
noncomputable def De(O:Orc)(csc:Scope)(r:PySem.Expr):Option (List Nat):=match r with
 | .Constant c _ _=>match c with
  | .str s=>some s.cps.toList
  | _=>none
 | .Name g _=>match cL csc g with
  | true=>(look g O.glob).bind asStr
  | false=>none
 | _=>none
noncomputable def Me(O:Orc)(csc:Scope)(x:Str)(n:Nat)(c:PySem.Expr):Option Bool:=match c with
 | .Compare l ops rs _=>match decide (cR l=some x) with
  | true=>(one ops).bind fun op=>(one rs).bind fun r=>(De O csc r).bind fun s=>IJ op n s
  | false=>none
 | _=>none
noncomputable def jL(O:Orc)(csc:Scope)(x:Str)(n:Nat):List PySem.Expr→Option Bool
 | []=>some true
 | c::r=>(Me O csc x n c).bind fun b=>match b with
  | true=>jL O csc x n r
  | false=>some false
noncomputable def Jx(m:Int)(v:V):Option V:=(asInt v).map fun k=>.int (k % m)
noncomputable def qV(v:V):Option V:=(asTup v).bind fun l=>l.head?
noncomputable def kU(f:V→Option V):List V→Option (List V)
 | []=>some []
 | v::r=>(f v).bind fun w=>(kU f r).map fun l=>w::l
noncomputable def sO(t:Nat→Option Bool):List V→Option (List V)
 | []=>some []
 | v::r=>((asStr v).bind uL).bind fun c=>(t c).bind fun b=>match b with
  | true=>(sO t r).map fun l=>.str [c]::l
  | false=>sO t r
noncomputable def uO(ifs:List PySem.Expr):Option (List PySem.Expr):=(one ifs).bind fun e=>match e with
 | .BoolOp op cs _=>match op with
  | .And=>some cs
  | .Or=>none
 | _=>none
noncomputable def Yz(O:Orc)(csc:Scope)(x:Str)(elt:PySem.Expr)(ifs:List PySem.Expr)(l:List V):Option (List V):=match elt with
 | .BinOp y op m _=>match bP ifs&&(decide (cR y=some x)&&decide (op = .Mod)) with
  | true=>(Bx m).bind fun m=>(cV (decide (0<m)) m).bind fun m=>kU (Jx m) l
  | false=>none
 | .Subscript y i _=>match bP ifs&&(decide (cR y=some x)&&decide (Bx i=some 0)) with
  | true=>kU qV l
  | false=>none
 | .Name y _=>match decide (y=x) with
  | true=>(uO ifs).bind fun cs=>sO (fun n=>jL O csc x n cs) l
  | false=>none
 | _=>none
noncomputable def Ry(csc:Scope)(x:Str):Bool:=csc.names.all (fun p=>!decide (p.2 = .free)&&(!decide (p.2 = .cell)&&(!decide (p.2 = .local)||cB csc p.1))) &&
 (decide (csc.kind = .function)&&(cB csc x&&(csc.names.lookup ("__debug__" : Str)).isNone))
noncomputable def Qn(gs:List Comprehension):Option (Str×PySem.Expr×List PySem.Expr):=(one gs).bind fun g=>match g with
 | ⟨t,it,ifs,a⟩=>match decide (a=0) with
  | true=>(cR t).map fun x=>(x,it,ifs)
  | false=>none
noncomputable def He(O:Orc)(E:Ev)(sc:Scope)(elt:PySem.Expr)(x:Str)(it:PySem.Expr)(ifs:List PySem.Expr)(csc:Scope)(st:St):R (List V):=ifB (Ry csc x && !lE it)
 ((E.eval sc it st).bind fun v st=>(R.ofOpt ((eY v).bind fun l=>Yz O csc x elt ifs l) st).bind fun vs st=>ifB (Nat.ble vs.length aO) (R.ok vs st))
noncomputable def wE(O:Orc)(E:Ev)(sc:Scope)(e:PySem.Expr)(st:St):R V:=match e with
 | .Constant c _ _=>R.ofOpt (En c) st
 | .Name x _=>Ol O sc x st
 | .Attribute b a p=>Tc O E sc (.Attribute b a p) b a st
 | .BinOp l op r _=>(E.eval sc l st).bind fun a st=>(E.eval sc r st).bind fun b st=>R.ofOpt (DY op a b) st
 | .UnaryOp op x _=>match op with
  | .Not=>AM O E sc x st
  | .USub=>(E.eval sc x st).bind fun v st=>R.ofOpt (Xx v) st
  | _=>R.bad
 | .BoolOp op vs _=>Sp (E.eval sc) op vs st
 | .Compare l ops rs _=>(Sb O E sc l ops rs st).bind fun b st=>R.ok (.bool b) st
 | .IfExp t a b _=>(E.test sc t st).bind fun c st=>R.ifT c (E.eval sc a st) (E.eval sc b st)
 | .Call f args kws p=>Sk O E sc f args kws p st
 | .Subscript b i _=>Zr O E sc b i st
 | .Tuple es _ _=>ifB (Nat.ble es.length 100) ((lO (E.eval sc) es st).bind fun vs st=>R.ok (.tup vs) st)
 | .List es _=>ifB (Nat.ble es.length 100) ((lO (E.eval sc) es st).bind fun vs st=>R.ok (.lst vs) st)
 | .ListComp elt gs csc _=>(R.ofOpt (Qn gs) st).bind fun g st=>(He O E sc elt g.1 g.2.1 g.2.2 csc st).bind fun vs st=>R.ok (.lst vs) st
 | _=>R.bad
noncomputable def Yd(st:St):Slot→R Bool
 | .lst l=>R.ok (!bU l) st
 | .val v=>R.ofOpt (cF v) st
 | _=>R.bad
noncomputable def xM(O:Orc)(E:Ev)(sc:Scope)(e:PySem.Expr)(st:St):R Bool:=match bH O sc e st with
 | some p=>Yd st p.2
 | none=>(E.eval sc e st).bind fun v st=>R.ofOpt (cF v) st
noncomputable def Xy(O:Orc)(E:Ev)(sc:Scope)(e:PySem.Expr)(st:St):R Bool:=match e with
 | .UnaryOp op x p=>match op with
  | .Not=>(E.test sc x st).bind fun b st=>R.ok (!b) st
  | op=>xM O E sc (.UnaryOp op x p) st
 | .BoolOp op vs _=>Sq (E.test sc) op vs st
 | .Compare l ops rs _=>Sb O E sc l ops rs st
 | .IfExp _ _ _ _=>R.bad
 | e=>xM O E sc e st
noncomputable def setLoc(sc:Scope)(x:Str)(sl:Slot)(st:St):R Fl:=ifB (cB sc x) (R.ok .next (st.setL x sl))
noncomputable def lV(sc:Scope):List PySem.Expr→List V→St→R Fl
 | [],[],st=>R.ok .next st
 | e::xs,v::vs,st=>(R.ofOpt (cR e) st).bind fun y st=>ifB (cB sc y) (lV sc xs vs (st.setL y (.val v)))
 | _,_,_=>R.bad
noncomputable def gF(sc:Scope)(xs:List PySem.Expr)(v:V)(st:St):R Fl:=(R.ofOpt (asTup v) st).bind fun vs st=>ifB (Nat.beq xs.length vs.length) (lV sc xs vs st)
noncomputable def Am(o:Option Slot):Bool:=match o with
 | none=>true
 | some (.val _)=>true
 | _=>false
noncomputable def Di(o:Option Slot):Bool:=match o with
 | none=>true
 | some (.dct _)=>true
 | _=>false
noncomputable def gU(O:Orc)(sc:Scope)(x a:Str)(ok:Option Slot→Bool)(sl:Slot)(st:St):R Fl:=ifB (xI sc x st&&(eM O O.scan a&&(ok (look a st.flds)&&Nat.ble st.flds.length 90))) (R.ok .next (st.setF (put a sl st.flds)))
noncomputable def yD{α:Type}:Option α→Bool
 | none=>true
 | some _=>false
noncomputable def rN(O:Orc)(sc:Scope)(v:PySem.Expr):Option (List PySem.Expr):=(Gy v).bind fun q=>(cR q.1).bind fun g=>match O.top&&(cL sc g&&bP q.2.2) with
 | true=>(look g O.glob).bind fun v=>(asCls v).bind fun c=>cV (Nat.beq c O.scan) q.2.1
 | false=>none
noncomputable def Fn(O:Orc)(E:Ev)(sc:Scope)(x:Str)(args:List PySem.Expr)(st:St):R Fl:=match look ("__init__" : Str) O.meth with
 | some sp=>ifB (xP args []&&cB sc x) ((lO (E.eval sc) args st).bind fun vs st=>
  fun P k _ b=>sp vs [] [] P (fun v fl=>match isNone v with
   | true=>k .next ⟨put x .self (lD st.loc),fl,true⟩
   | false=>b) (fun _=>b) b)
 | none=>R.bad
noncomputable def mO(O:Orc)(p:Pos):Slot:=match O.frz p.line with
 | true=>.val (.lst [])
 | false=>.lst []
noncomputable def lG:PySem.Expr→Bool
 | .List es _=>bP es
 | _=>false
noncomputable def iO:PySem.Expr→Bool
 | .Dict ks vs _=>bP ks&&bP vs
 | _=>false
noncomputable def Vb(O:Orc)(E:Ev)(sc:Scope)(x:Str)(q:Pos)(v:PySem.Expr)(p:Pos)(st:St):R Fl:=match v with
 | .List es lp=>match bP es with
  | true=>setLoc sc x (mO O p) st
  | false=>(E.eval sc (.List es lp) st).bind fun v st=>setLoc sc x (.val v) st
 | .ListComp elt gs csc cp=>ifB (cB sc x&&(decide (q.line=cp.line)&&csc.names.all (fun p=>!decide (p.1=x)))) ((R.ofOpt (Qn gs) st).bind fun g st=>(He O E sc elt g.1 g.2.1 g.2.2 csc st).bind fun vs st=>R.ok .next (st.setL x (.val (.lst vs))))
 | v=>match rN O sc v with
  | some args=>Fn O E sc x args st
  | none=>ifB (fQ v) ((E.eval sc v st).bind fun v st=>setLoc sc x (.val v) st)
noncomputable def uA(O:Orc)(E:Ev)(sc:Scope)(x a:Str)(v:PySem.Expr)(st:St):R Fl:=match lG v with
 | true=>gU O sc x a yD (.lst []) st
 | false=>match iO v with
  | true=>gU O sc x a Di (.dct []) st
  | false=>ifB (fQ v) ((E.eval sc v st).bind fun v st=>gU O sc x a Am (.val v) st)
noncomputable def Ph(O:Orc)(E:Ev)(sc:Scope)(b i v:PySem.Expr)(st:St):R Fl:=ifB (fQ v) ((E.eval sc v st).bind fun v st=>(R.ofOpt (bH O sc b st) st).bind fun p st=>(R.ofOpt (pJ O sc i st) st).bind fun i st=>match p.2 with
 | .dct l=>ifB (Nat.ble (l.length+1) aO) (R.ok .next (st.setF (put p.1 (.dct (sW i v l)) st.flds)))
 | _=>R.bad)
noncomputable def Hk(O:Orc)(E:Ev)(sc:Scope)(t v:PySem.Expr)(p:Pos)(st:St):R Fl:=match t with
 | .Name x q=>Vb O E sc x q v p st
 | .Tuple xs _ _=>ifB (xR v) ((E.eval sc v st).bind fun v st=>gF sc xs v st)
 | .Attribute b a _=>(R.ofOpt (cR b) st).bind fun x st=>uA O E sc x a v st
 | .Subscript b i _=>Ph O E sc b i v st
 | _=>R.bad
noncomputable def EA(op:Operator)(a b:V):Option V:=match op with
 | .Add=>iX a b
 | .Sub=>Mj a b
 | _=>none
noncomputable def mU(o:Option Slot):Option V:=match o with
 | some (.val v)=>some v
 | _=>none
noncomputable def JA(O:Orc)(E:Ev)(sc:Scope)(t:PySem.Expr)(op:Operator)(v:PySem.Expr)(st:St):R Fl:=match t with
 | .Name x _=>ifB (cB sc x) ((R.ofOpt (mU (look x st.loc)) st).bind fun a st=>(E.eval sc v st).bind fun b st=>(R.ofOpt (EA op a b) st).bind fun c st=>R.ok .next (st.setL x (.val c)))
 | .Attribute b a _=>(R.ofOpt (cR b) st).bind fun x st=>ifB (xI sc x st&&eM O O.scan a) ((R.ofOpt (mU (look a st.flds)) st).bind fun old st=>(E.eval sc v st).bind fun b st=>(R.ofOpt (EA op old b) st).bind fun c st=>gU O sc x a Am (.val c) st)
 | _=>R.bad
noncomputable def Sl(e:PySem.Expr):Option (Str×PySem.Expr):=match e with
 | .Call f args kws _=>(cR f).bind fun g=>(one args).bind fun a=>match bP kws && !dA a with
  | true=>some (g,a)
  | false=>none
 | _=>none
noncomputable def nH(v:V):Option (List V):=(asInt v).bind fun n=>cV (decide (0≤n)&&decide (n≤100000)) ((List.range n.toNat).map fun i=>.int (Int.ofNat i))
noncomputable def Yy(v:V):Option (List V):=(asStr v).map fun l=>l.zipIdx.map fun p=>.tup [.int (Int.ofNat p.2),.str [p.1]]
noncomputable def cU(sc:Scope)(it:PySem.Expr):Nat×PySem.Expr:=match Sl it with
 | some q=>match cL sc q.1 with
  | true=>if q.1=("range" : Str) then (1,q.2) else if q.1=("enumerate" : Str) then (2,q.2) else (0,it)
  | false=>(0,it)
 | none=>(0,it)
noncomputable def Kn(k:Nat)(v:V):Option (List V):=match k with
 | 0=>eY v
 | 1=>nH v
 | _=>Yy v
noncomputable def Cg(sc:Scope)(t:PySem.Expr)(v:V)(st:St):R Fl:=match t with
 | .Name y _=>setLoc sc y (.val v) st
 | .Tuple xs _ _=>gF sc xs v st
 | _=>R.bad
noncomputable def iR(E:Ev)(sc:Scope)(t:PySem.Expr)(b:List PySem.Stmt)(ks:List Str)(v:V)(st:St):R Fl:=R.keep ks ((Cg sc t v st).bind fun _ st=>E.execs sc b st)
noncomputable def mZ(E:Ev)(sc:Scope)(t:PySem.Expr)(b:List PySem.Stmt)(ks:List Str)(v:V)(st:St):R Fl:=fun P k _ z=>iR E sc t b ks v st P (fun f st=>match st.tch with
 | false=>k f st
 | true=>z) (fun _ _=>z) z
noncomputable def BS(O:Orc)(E:Ev)(sc:Scope)(t it:PySem.Expr)(b:List PySem.Stmt)(st:St):R Fl:=match Hb (bH O sc it st) with
 | some l=>(eU (mZ E sc t b st.names) (l.map fun p=>.int p.1) ⟨st.loc,st.flds,false⟩).bind fun f s=>R.ok f ⟨s.loc,s.flds,true⟩
 | none=>ifB (!lE it&&(Nat.ble (cU sc it).1 1||Gj t)) ((E.eval sc (cU sc it).2 st).bind fun v st=>(R.ofOpt (Kn (cU sc it).1 v) st).bind fun l st=>eU (iR E sc t b st.names) l st)
noncomputable def Nx(O:Orc)(E:Ev)(sc:Scope)(e:PySem.Expr)(st:St):R Fl:=match e with
 | .Call f args kws _=>(R.ofOpt (cR f) st).bind fun g st=>ifB (cL sc g&&(bP kws&&xP args [])) ((R.ofOpt ((look g O.glob).bind asCls) st).bind fun c st=>(R.ofOpt (fF c O.excs) st).bind fun ps st=>
   (lO (E.eval sc) args st).bind fun vs st=>(R.ofOpt (kB ps.1 vs [] ps.2) st).bind fun fs st=>R.err (.exc c fs) st.dead)
 | _=>R.bad
noncomputable def Zb(e:PySem.Expr):Option (Str×Str×Str):=(wF e).bind fun p=>(wF p.1).bind fun q=>(cR q.1).map fun y=>(y,q.2,p.2)
noncomputable def uH(O:Orc)(sc:Scope)(e:PySem.Expr)(st:St):Option V:=(Zb e).bind fun q=>match cB sc q.1 with
 | true=>(mU (look q.1 st.loc)).bind fun v=>(eJ O v q.2.1).bind fun u=>eJ O u q.2.2
 | false=>none
noncomputable def Pw(ops:List CmpOp):Bool:=match one ops with
 | some .Eq=>true
 | _=>false
noncomputable def Sj(O:Orc)(sc:Scope)(e:PySem.Expr)(st:St):Option V:=match e with
 | .Compare l ops rs _=>match Pw ops with
  | true=>(uH O sc l st).bind fun v=>(one rs).bind fun r=>(cR r).bind fun z=>match cB sc z with
   | true=>(mU (look z st.loc)).bind fun w=>(aG .Eq v w).map .bool
   | false=>none
  | false=>none
 | _=>none
noncomputable def Si(O:Orc)(sc:Scope)(h:List PySem.Stmt)(st:St):R Fl:=(R.ofOpt (one h) st).bind fun s st=>match s with
 | .Assign ts e _=>(R.ofOpt (one ts) st).bind fun t st=>(R.ofOpt (cR t) st).bind fun z st=>(R.ofOpt (uH O sc e st) st).bind fun v st=>setLoc sc z (.val v) st
 | .Return o _=>(R.ofOpt o st).bind fun e st=>(R.ofOpt (Sj O sc e st) st).bind fun v st=>R.ok (.ret v) st
 | _=>R.bad
noncomputable def Zc:V→Option (Nat×List (Str×V))
 | .exc c fs=>some (c,fs)
 | _=>none
noncomputable def Eo(O:Orc)(sc:Scope)(hs:List ExceptHandler)(e:V)(st:St):R Fl:=(R.ofOpt (one hs) st).bind fun h st=>match h with
 | .ExceptHandler t x h _=>(R.ofOpt ((t.bind cR).bind fun g=>cV (cL sc g) g) st).bind fun g st=>(R.ofOpt x st).bind fun x st=>(R.ofOpt (Zc e) st).bind fun q st=>(R.ofOpt ((look g O.glob).bind asCls) st).bind fun d st=>
   ifB (Nat.beq q.1 d&&((fF d O.excs).isSome&&cB sc x)) ((Si O sc h (st.setL x (.val e))).bind fun f st1=>R.ok f (st1.keep (st.names.filter fun y=>!decide (y=x))))
noncomputable def EU(O:Orc)(E:Ev)(sc:Scope)(b:List PySem.Stmt)(hs:List ExceptHandler)(st:St):R Fl:=fun P k _ z=>R.keep st.names (E.execs sc b st) P k (fun e st=>match O.top with
 | true=>Eo O sc hs e st P k (fun _ _=>z) z
 | false=>z) z
noncomputable def IH(O:Orc)(sc:Scope)(t:PySem.Expr)(st:St):R Fl:=match t with
 | .Subscript b i _=>(R.ofOpt (bH O sc b st) st).bind fun p st=>(R.ofOpt (pJ O sc i st) st).bind fun i st=>match p.2 with
  | .dct l=>ifB (cX i l).isSome (R.ok .next (st.setF (put p.1 (.dct (nO i l)) st.flds)))
  | _=>R.bad
 | _=>R.bad
noncomputable def Gw(O:Orc)(E:Ev)(sc:Scope)(s:PySem.Stmt)(st:St):R Fl:=match s with
 | .Expr e _=>match e with
  | .Call f args kws p=>(Sk O E sc f args kws p st).bind fun _ st=>R.ok .next st
  | _=>R.bad
 | .Pass _=>R.ok .next st
 | .Break _=>R.ok .brk st
 | .Continue _=>R.ok .cont st
 | .Return o _=>match o with
  | some e=>(E.eval sc e st).bind fun v st=>R.ok (.ret v) st
  | none=>R.ok (.ret .none) st
 | .Assign ts v p=>(R.ofOpt (one ts) st).bind fun t st=>Hk O E sc t v p st
 | .AugAssign t op v _=>JA O E sc t op v st
 | .If t a b _=>(E.test sc t st).bind fun c st=>R.ifT c (E.execs sc a st) (E.execs sc b st)
 | .While t b o _=>ifB (bP o) (tJ O.fuel (E.test sc t) (fun s=>R.keep st.names (E.execs sc b s)) st)
 | .For t it b o _=>ifB (bP o) (BS O E sc t it b st)
 | .Delete ts _=>(R.ofOpt (one ts) st).bind fun t st=>IH O sc t st
 | .Raise o c _=>(R.ofOpt o st).bind fun e st=>ifB (yD c) (Nx O E sc e st)
 | .Try b hs o f _=>ifB (bP o&&(bP f && !bP hs)) (EU O E sc b hs st)
 | _=>R.bad
noncomputable def Zt(O:Orc)(E:Ev):Ev where
 eval:=wE O E
 test:=Xy O E
 exec:=Gw O E
 execs:=fun sc l st=>yJ (E.exec sc) l st
noncomputable def evN(O:Orc):Nat→Ev
 | 0=>IP
 | n+1=>Zt O (evN O n)
noncomputable def xK:Fl→V
 | .ret v=>v
 | _=>.none
noncomputable def iW(slf:Bool)(l:List (Str×V)):aL:=match slf with
 | true=>(("self" : Str),Slot.self)::fN l
 | false=>fN l
noncomputable def eC(E:Ev)(slf:Bool)(sc:Scope)(ps:fM)(body:List PySem.Stmt):aY:=fun args kw fl P k ke b=>match kB ps.1 args kw ps.2 with
 | some l=>E.execs sc body ⟨iW slf l,fl,true⟩ P (fun f st=>k (xK f) st.flds) (fun e _=>ke e) b
 | none=>b
inductive Tag where
 | loc (d:Nat) (x:Str)
 | fld (a:Addr) (x:Option Str)
 | park
set_option genCtorIdx true in
gen_injective_theorems% Tag
inductive bK where
 | free
 | frz (o:Obj)
 | own (t:Tag) (o:Obj)
 | frame (d:Nat) (m:Str→Option Value)
set_option genCtorIdx true in
gen_injective_theorems% bK
structure Fz where
 H:Addr→bK
 la:Addr→Str→Option Addr
 me:Option Addr
noncomputable def Fz.set(F:Fz)(a:Addr)(c:bK):Fz:=⟨fun b=>if b=a then c else F.H b,F.la,F.me⟩
theorem Fz.set_self(F:Fz)(a:Addr)(c:bK):(F.set a c).H a=c:=if_pos rfl
theorem Fz.set_ne(F:Fz){a b:Addr}(c:bK)(h:b≠a):(F.set a c).H b=F.H b:=if_neg h
noncomputable def Fz.le(F F':Fz):Prop:=∀a o,F.H a = .frz o→F'.H a = .frz o
noncomputable def Kp(b:Nat)(me:Option Addr)(d:Nat):bK→Prop
 | .free=>False
 | .frz _=>True
 | .own t _=>match t with
  | .loc k _=>k<d
  | .fld a _=>1≤b∧me≠some a
  | .park=>True
 | .frame k _=>k<d∨(2≤b∧k=d)
structure Ext(b:Nat)(d:Nat)(F F':Fz):Prop where
 keep:∀a,Kp b F.me d (F.H a)→F'.H a=F.H a
 la:∀a x y,F.la a x=some y→F'.la a x=some y
 me:1≤b→F'.me=F.me
section
variable{b:Nat}{d:Nat}{F F' F'':Fz}
theorem Ext.refl(b:Nat)(d:Nat)(F:Fz):Ext b d F F:=⟨fun _ _=>rfl,fun _ _ _ e=>e,fun _=>rfl⟩
theorem Kp.lev{b c d d':Nat}{me me':Option Addr}(h1:1≤b→1≤c∧me'=me)(hd:d≤d')(h2:2≤b→d<d'∨2≤c∧d=d'){z:bK}(k:Kp b me d z):Kp c me' d' z:=by
 cases z with
 | free=>exact k
 | frz o=>exact k
 | frame e m=>
  rcases k with k|⟨k,rfl⟩
  ·exact .inl (jI k hd)
  ·exact h2 k
 | own t o=>
  cases t with
  | loc e x=>exact jI k hd
  | park=>exact k
  | fld a x=>exact⟨(h1 k.1).1,by rw[(h1 k.1).2];exact k.2⟩
theorem Ext.trans(x:Ext b d F F')(y:Ext b d F' F''):Ext b d F F'':=
 ⟨fun a k=>(y.keep a (by rw[x.keep a k];exact k.lev (fun q=>⟨q,x.me q⟩) (aK _) fun q=>.inr ⟨q,rfl⟩)).trans (x.keep a k),fun a z w e=>y.la a z w (x.la a z w e),fun q=>(y.me q).trans (x.me q)⟩
theorem Kp.weak{me me':Option Addr}{c:bK}(k:Kp 0 me d c):Kp b me' d c:=k.lev (fun q=>absurd q (Nat.not_succ_le_zero _)) (aK _) fun q=>absurd q (Nat.not_succ_le_zero _)
theorem Ext.weak(x:Ext b d F F'):Ext 0 d F F':=⟨fun a k=>x.keep a k.weak,x.la,fun q=>absurd q (Nat.not_succ_le_zero _)⟩
theorem Ext.le(x:Ext b d F F'):F.le F':=fun a o e=>(x.keep a (by rw[e];trivial)).trans e
theorem Ext.set{a:Addr}{c:bK}(h:¬Kp b F.me d (F.H a)):Ext b d F (F.set a c):=
 ⟨fun _ k=>F.set_ne c fun e=>h (e▸k),fun _ _ _ e=>e,fun _=>rfl⟩
theorem Ext.add{a:Addr}{c:bK}(h:F.H a = .free):Ext b d F (F.set a c):=.set (by rw[h];exact id)
end
theorem Fz.le_set{F:Fz}{a:Addr}{c:bK}(h:∀o,F.H a ≠ .frz o):F.le (F.set a c):=fun b o e=>(F.set_ne c fun (q:b=a)=>h o (q▸e)).trans e
theorem Fz.le_add{F:Fz}{a:Addr}{c:bK}(h:F.H a = .free):F.le (F.set a c):=Fz.le_set fun o e=>by rw[h] at e;cases e
noncomputable abbrev kN(vs:Array Value)(n:Nat):Obj:={cls:=.type "tuple", data:=.seq vs n}
mutual
inductive VR(F:Fz):V→Value→Prop
 | none:VR F .none .none
 | bool (b:Bool):VR F (.bool b) (.bool b)
 | int (i:Int) (t:Tok):VR F (.int i) (.int i t)
 | str (l:List Nat) (t:Tok) (h:l.length≤gH):VR F (.str l) (.str ⟨l.toArray⟩ t)
 | cls (a:Nat):VR F (.cls a) (.ref a)
 | obj {c a d:Addr} {es:List DictEntry} {n:Nat} {fs:List (Str×V)}:F.H a = .frz (instObj c d)→F.H d = .frz (dictOf es n)→FRv F fs es→VR F (.obj c fs) (.ref a)
 | tup {l:List V} {a:Addr} {vs:List Value} {n:Nat}:F.H a = .frz (kN vs.toArray n)→VRs F l vs→l.length≤aO→VR F (.tup l) (.ref a)
 | lst {l:List V} {a:Addr} {vs:List Value} {n:Nat}:F.H a = .frz (listOf vs.toArray n)→VRs F l vs→l.length≤aO→VR F (.lst l) (.ref a)
 | exc {c a d:Addr} {oe:Obj} {es:List DictEntry} {n:Nat} {fs:List (Str×V)}:F.H a = .frz oe→oe.cls = .ref c→oe.dict=some d→notCls oe=true→F.H d = .frz (dictOf es n)→FRv F fs es→VR F (.exc c fs) (.ref a)
 | any {x:Str} {t:Tok}:VR F .any (.str x t)
inductive VRs(F:Fz):List V→List Value→Prop
 | nil:VRs F [] []
 | cons {v:V} {r:Value} {l:List V} {vs:List Value}:VR F v r→VRs F l vs→VRs F (v::l) (r::vs)
inductive FRv(F:Fz):List (Str×V)→List DictEntry→Prop
 | nil:FRv F [] []
 | cons {x:Str} {h:Int} {t:Tok} {v:V} {r:Value} {fs:List (Str×V)} {es:List DictEntry}:VR F v r→FRv F fs es→FRv F ((x,v)::fs) (⟨h,.str x t,r⟩::es)
end
section
variable{F F':Fz}(k:F.le F')
include k
theorem VR.mono{v:V}{r:Value}(h:VR F v r):VR F' v r:=
 VR.rec (motive_1:=fun v r _=>VR F' v r) (motive_2:=fun l vs _=>VRs F' l vs) (motive_3:=fun fs es _=>FRv F' fs es)
  .none .bool .int .str .cls (fun a b _ c=>.obj (k _ _ a) (k _ _ b) c) (fun a _ c b=>.tup (k _ _ a) b c) (fun a _ c b=>.lst (k _ _ a) b c) (fun a b c d e _ f=>.exc (k _ _ a) b c d (k _ _ e) f) .any .nil (fun _ _ a b=>.cons a b) .nil (fun _ _ a b=>.cons a b) h
theorem VRs.mono{l:List V}{vs:List Value}(h:VRs F l vs):VRs F' l vs:=
 VRs.rec (motive_1:=fun v r _=>VR F' v r) (motive_2:=fun l vs _=>VRs F' l vs) (motive_3:=fun fs es _=>FRv F' fs es)
  .none .bool .int .str .cls (fun a b _ c=>.obj (k _ _ a) (k _ _ b) c) (fun a _ c b=>.tup (k _ _ a) b c) (fun a _ c b=>.lst (k _ _ a) b c) (fun a b c d e _ f=>.exc (k _ _ a) b c d (k _ _ e) f) .any .nil (fun _ _ a b=>.cons a b) .nil (fun _ _ a b=>.cons a b) h
theorem FRv.mono{l:List (Str×V)}{vs:List DictEntry}(h:FRv F l vs):FRv F' l vs:=
 FRv.rec (motive_1:=fun v r _=>VR F' v r) (motive_2:=fun l vs _=>VRs F' l vs) (motive_3:=fun fs es _=>FRv F' fs es)
  .none .bool .int .str .cls (fun a b _ c=>.obj (k _ _ a) (k _ _ b) c) (fun a _ c b=>.tup (k _ _ a) b c) (fun a _ c b=>.lst (k _ _ a) b c) (fun a b c d e _ f=>.exc (k _ _ a) b c d (k _ _ e) f) .any .nil (fun _ _ a b=>.cons a b) .nil (fun _ _ a b=>.cons a b) h
end
noncomputable def JB(F:Fz)(v:V)(r:Value):Prop:=match v with
 | .none=>r = .none
 | .bool b=>r = .bool b
 | .int i=>∃t,r = .int i t
 | .str l=>l.length≤gH∧∃t,r = .str ⟨l.toArray⟩ t
 | .cls a=>r = .ref a
 | .obj c fs=>∃a d es n,r = .ref a∧F.H a = .frz (instObj c d)∧F.H d = .frz (dictOf es n)∧FRv F fs es
 | .tup l=>∃a vs n,r = .ref a∧F.H a = .frz (kN (List.toArray vs) n)∧VRs F l vs∧l.length≤aO
 | .lst l=>∃a vs n,r = .ref a∧F.H a = .frz (listOf (List.toArray vs) n)∧VRs F l vs∧l.length≤aO
 | .exc c fs=>∃a d oe es n,r = .ref a∧F.H a = .frz oe∧oe.cls = .ref c∧oe.dict=some d∧notCls oe=true∧F.H d = .frz (dictOf es n)∧FRv F fs es
 | .any=>∃x t,r = .str x t
theorem VR.view{F:Fz}{v:V}{r:Value}(h:VR F v r):JB F v r:=
 VR.casesOn (motive_1:=fun v r _=>JB F v r) h rfl (fun _=>rfl) (fun _ t=>⟨t,rfl⟩) (fun _ t h=>⟨h,t,rfl⟩) (fun _=>rfl) (fun a b c=>⟨_,_,_,_,rfl,a,b,c⟩) (fun a b c=>⟨_,_,_,rfl,a,b,c⟩) (fun a b c=>⟨_,_,_,rfl,a,b,c⟩)
  (fun a b c d e f=>⟨_,_,_,_,_,rfl,a,b,c,d,e,f⟩) ⟨_,_,rfl⟩
inductive DR(F:Fz):List (Int×V)→List DictEntry→Prop
 | nil:DR F [] []
 | cons {i:Int} {t:Tok} {v:V} {r:Value} {l:List (Int×V)} {es:List DictEntry}:VR F v r→DR F l es→DR F ((i,v)::l) (⟨hashInt i,.int i t,r⟩::es)
theorem DR.mono{F F':Fz}(k:F.le F'){v:List (Int×V)}{r:List DictEntry}(h:DR F v r):DR F' v r:=
 DR.rec (motive:=fun v r _=>DR F' v r) .nil (fun a _ b=>.cons (a.mono k) b) h
noncomputable def SlR(F:Fz)(d:Nat)(o:Option Value)(x:Str):Slot→Prop
 | .val v=>∃r,o=some r∧VR F v r
 | .lst l=>∃a vs n,o=some (.ref a)∧F.H a = .own (.loc d x) (listOf (List.toArray vs) n)∧VRs F l vs∧l.length≤aO
 | .dct _=>False
 | .gone=>True
 | .self=>∃a,o=some (.ref a)∧F.me=some a
theorem SlR.mono{F F':Fz}{d:Nat}{o:Option Value}{x:Str}(k:F.le F')(kl:∀a ob,F.H a = .own (.loc d x) ob→F'.H a = .own (.loc d x) ob)(km:F'.me=F.me){sl:Slot}(h:SlR F d o x sl):SlR F' d o x sl:=by
 cases sl with
 | val v=>obtain⟨r,e,h⟩:=h;exact⟨r,e,h.mono k⟩
 | lst l=>obtain⟨a,vs,n,e,h,hv,hl⟩:=h;exact⟨a,vs,n,e,kl _ _ h,hv.mono k,hl⟩
 | dct l=>exact h
 | gone=>exact h
 | self=>obtain⟨a,e,h⟩:=h;exact⟨a,e,km.trans h⟩
inductive QR(F:Fz)(me:Addr)(x:Str):Slot→Value→Prop
 | val {v:V} {r:Value}:VR F v r→QR F me x (.val v) r
 | lst {l:List V} {a:Addr} {vs:List Value} {n:Nat}:F.la me x=some a→F.H a = .own (.fld me (some x)) (listOf vs.toArray n)→VRs F l vs→l.length≤aO→QR F me x (.lst l) (.ref a)
 | dct {l:List (Int×V)} {a:Addr} {es:List DictEntry} {n:Nat}:F.H a = .own (.fld me (some x)) (dictOf es n)→DR F l es→l.length≤aO→(l.map (·.1)).Nodup→QR F me x (.dct l) (.ref a)
theorem QR.mono{F F':Fz}{me:Addr}{x:Str}(k:F.le F')(kf:∀a o,F.H a = .own (.fld me (some x)) o→F'.H a = .own (.fld me (some x)) o)(kl:∀a,F.la me x=some a→F'.la me x=some a){sl:Slot}{r:Value}(h:QR F me x sl r):QR F' me x sl r:=by
 cases h with
 | val h=>exact .val (h.mono k)
 | lst e h a b=>exact .lst (kl _ e) (kf _ _ h) (a.mono k) b
 | dct h a b c=>exact .dct (kf _ _ h) (a.mono k) b c
structure Wd where
 prog:Program
 w:World
 K:Frag
 base:Heap
 scan:Addr
 mg:Str→Option Value
 mb:Str→Option Value
 os:OsState
 X:K.In base
 g:base.Ns mainGlobals mg
 b:base.Ns builtinsNs mb
 nolimit:base.NoLimit
 blt:∀x:Str,x ≠ "__name__" → mb x=bootBuiltins x
noncomputable abbrev Wd.M(W:Wd):Model:=model W.prog W.w
structure Fm where
 L:Addr
 d:Nat
 frs:List Addr
 pin:List (Addr×(Addr×Option Str)×Obj)
noncomputable def jX(W:Wd)(h:Heap)(a:Addr):bK→Prop
 | .free=>True
 | .frz o=>h.get? a=some o
 | .own _ o=>h.get? a=some o∧W.base.objs.size≤a
 | .frame _ m=>h.Ns a m∧W.base.objs.size≤a
structure fZ(W:Wd)(F:Fz)(s:Shared):Prop where
 z:∀a,jX W s.heap a (F.H a)
 base:∀a o,W.base.get? a=some o→F.H a = .frz o
 gens:s.gens = #[]
 os:s.os=W.os
noncomputable def FldR(F:Fz)(me:Addr)(fl:aL)(es:List DictEntry):Prop:=∀a,match look a fl with
 | none=>getL a es=some none
 | some sl=>∃r,getL a es=some (some r)∧QR F me a sl r
structure eX(W:Wd)(F:Fz)(fl:aL)(x d:Addr)(es:List DictEntry)(n:Nat):Prop where
 me:F.me=some x
 inst:F.H x = .frz (instObj W.scan d)
 dict:F.H d = .own (.fld x none) (dictOf es n)
 fld:FldR F x fl es
 len:es.length≤fl.length
 lav:∀y a,F.la x y=some a→∃l,look y fl=some (.lst l)
noncomputable def Lu(W:Wd)(F:Fz)(fl:aL):Prop:=(F.me=none∧fl=[])∨∃x d es n,eX W F fl x d es n
noncomputable def kJ(F:Fz)(d:Nat)(m:Str→Option Value)(loc:aL):Prop:=∀x sl,look x loc=some sl→SlR F d (m x) x sl
structure Rel(W:Wd)(Φ:Fm)(F:Fz)(st:St)(s:Shared):Prop where
 ph:fZ W F s
 loc:∃m,F.H Φ.L = .frame Φ.d m∧kJ F Φ.d m st.loc
 frs:∀a∈Φ.frs,∃k m,F.H a = .frame k m∧k<Φ.d
 foc:Lu W F st.flds
 lax:∀a x y,F.la a x=some y→∃o,F.H a = .frz o
 ro:st.tch=false→∀q∈Φ.pin,F.H q.1 = .own (.fld q.2.1.1 q.2.1.2) q.2.2
theorem pV{x y:Str}{t:Tok}:(Value.str y t).isStr x=true↔y=x:=by
 show (y==x)=true↔_;exact beq_iff_eq
theorem tT{x y:Str}{t:Tok}(h:y≠x):(Value.str y t).isStr x=false:=by
 cases z:(Value.str y t).isStr x with
 | false=>rfl
 | true=>exact absurd (pV.mp z) h
theorem kW{a y:Str}{sl:Slot}:∀{fl:aL},look y (put a sl fl)=if a=y then some sl else look y fl
 | []=>rfl
 | (z,sl')::r=>by
  show look y (if z=a then (z,sl)::r else (z,sl')::put a sl r)=if a=y then some sl else if z=y then some sl' else look y r
  by_cases e1:z=a
  ·subst e1
   rw[if_pos rfl];show (if z=y then some sl else look y r)=_
   by_cases e2:z=y
   ·rw[if_pos e2,if_pos e2]
   ·rw[if_neg e2,if_neg e2,if_neg e2]
  ·rw[if_neg e1]
   show (if z=y then some sl' else look y (put a sl r))=_;rw[kW]
   by_cases e2:z=y
   ·subst e2
    rw[if_pos rfl,if_neg (Ne.symm e1),if_pos rfl]
   ·rw[if_neg e2,if_neg e2]
theorem eV{a:Str}{sl:Slot}{fl:aL}:look a (put a sl fl)=some sl:=kW.trans (if_pos rfl)
theorem iN{a y:Str}{sl:Slot}{fl:aL}(h:a≠y):look y (put a sl fl)=look y fl:=kW.trans (if_neg h)
theorem vN{x:Str}:∀{fl:aL},look x (lD fl)=(look x fl).map Slot.kill
 | []=>rfl
 | (y,w)::r=>by
  show (if y=x then some w.kill else look x (lD r))=(if y=x then some w else look x r).map Slot.kill
  by_cases e:y=x
  ·rw[if_pos e,if_pos e];rfl
  ·rw[if_neg e,if_neg e,vN]
theorem jE{l:List Str}{x:Str}{sl:Slot}:∀{fl:aL},look x (fl.filter fun p=>l.contains p.1)=some sl→look x fl=some sl∧l.contains x=true
 | [],h=>by exact ox h
 | (y,w)::r,h=>by
  rw[List.filter_cons] at h;show (if y=x then some w else look x r)=some sl∧_
  by_cases q:l.contains y=true
  ·rw[if_pos q] at h
   have h:(if y=x then some w else look x (r.filter fun p=>l.contains p.1))=some sl:=h
   by_cases e:y=x
   ·rw[if_pos e] at h ⊢;exact⟨h,e▸q⟩
   ·rw[if_neg e] at h ⊢;exact jE h
  ·rw[if_neg q] at h
   have h2:=jE h;rw[if_neg (fun (e:y=x)=>q (e▸h2.2))];exact h2
theorem oL{h:Heap}{a:Addr}(ha:h.objs.size≤a):h.get? a=none:=by
 cases q:h.get? a with
 | none=>rfl
 | some o=>exact absurd (Heap.lt_size q) (Nat.not_lt_of_le ha)
section
variable{W:Wd}{Φ:Fm}{F F':Fz}{st:St}{s s':Shared}
theorem fZ.live(h:fZ W F s){a:Addr}(hf:F.H a ≠ .free):∃o,s.heap.get? a=some o:=by
 have z:=h.z a;generalize F.H a=c at z hf
 cases c with
 | free=>exact absurd rfl hf
 | frz o=>exact⟨o,z⟩
 | own t o=>exact⟨o,z.1⟩
 | frame d m=>obtain⟨o,es,ep,q,r⟩:=z.1;exact⟨o,q⟩
theorem fZ.fresh(h:fZ W F s){a:Addr}(ha:s.heap.get? a=none):F.H a = .free:=
 Classical.byContradiction fun q=>by obtain⟨o,e⟩:=h.live q;rw[ha] at e;exact ox e
theorem fZ.new(h:fZ W F s){a:Addr}(ha:s.heap.objs.size≤a):F.H a = .free:=h.fresh (oL ha)
theorem fZ.old(h:fZ W F s):∀a o,W.base.get? a=some o→s.heap.get? a=some o:=fun a o e=>by
 have z:=h.z a;rw[h.base a o e] at z;exact z
theorem fZ.frz(h:fZ W F s){a:Addr}{o:Obj}(e:F.H a = .frz o):s.heap.get? a=some o:=by
 have z:=h.z a;rw[e] at z;exact z
theorem fZ.own(h:fZ W F s){a:Addr}{t:Tag}{o:Obj}(e:F.H a = .own t o):s.heap.get? a=some o∧W.base.objs.size≤a:=by
 have z:=h.z a;rw[e] at z;exact z
theorem fZ.frame(h:fZ W F s){a:Addr}{d:Nat}{m:Str→Option Value}(e:F.H a = .frame d m):s.heap.Ns a m∧W.base.objs.size≤a:=by
 have z:=h.z a;rw[e] at z;exact z
theorem fZ.inK(h:fZ W F s):W.K.In s.heap:=W.X.keeps h.old
theorem jX.keep{h h':Heap}{a:Addr}{c:bK}(hk:c ≠ .free→∀o,h.get? a=some o→h'.get? a=some o)(z:jX W h a c):jX W h' a c:=by
 cases c with
 | free=>trivial
 | frz o=>exact hk (fun q=>bK.noConfusion q) _ z
 | own t o=>exact⟨hk (fun q=>bK.noConfusion q) _ z.1,z.2⟩
 | frame d m=>obtain⟨⟨o,es,ep,q,r⟩,y⟩:=z;exact⟨⟨o,es,ep,hk (fun q=>bK.noConfusion q) _ q,r⟩,y⟩
theorem fZ.step(h:fZ W F s){a:Addr}{c:bK}{h':Heap}{t:Nat}(hk:∀b o,b≠a→F.H b ≠ .free→s.heap.get? b=some o→h'.get? b=some o)(hc:jX W h' a c)(hn:∀o,F.H a ≠ .frz o):fZ W (F.set a c) {s with heap:=h',toks:=t} where
 z:=fun b=>by
  by_cases e:b=a
  ·subst e;rw[F.set_self];exact hc
  ·rw[F.set_ne c e];exact (h.z b).keep fun hf o=>hk b o e hf
 base:=fun b o e=>Fz.le_set hn b o (h.base b o e)
 gens:=h.gens
 os:=h.os
theorem fZ.keep(h:fZ W F s){h':Heap}{t:Nat}(hk:∀b o,F.H b ≠ .free→s.heap.get? b=some o→h'.get? b=some o):fZ W F {s with heap:=h',toks:=t} where
 z:=fun b=>(h.z b).keep fun hf o=>hk b o hf
 base:=h.base
 gens:=h.gens
 os:=h.os
theorem kJ.mono{d:Nat}{m:Str→Option Value}{loc:aL}(k:F.le F')(kl:∀a x o,F.H a = .own (.loc d x) o→F'.H a = .own (.loc d x) o)(km:F'.me=F.me)(h:kJ F d m loc):kJ F' d m loc:=
 fun x _ e=>(h x _ e).mono k (fun a o=>kl a x o) km
theorem Lu.mono{fl:aL}(k:F.le F')(kf:∀a y x o,F.me=some y→F.H a = .own (.fld y x) o→F'.H a = .own (.fld y x) o)(kl:F'.la=F.la)(km:F'.me=F.me)(h:Lu W F fl):Lu W F' fl:=by
 rcases h with ⟨h1,h2⟩|⟨x,d,es,n,g1,g2,g3,g4,g5,g6⟩
 ·exact .inl ⟨km.trans h1,h2⟩
 ·refine .inr ⟨x,d,es,n,km.trans g1,k _ _ g2,kf _ _ _ _ g1 g3,fun a=>?_,g5,by rw[kl];exact g6⟩
  have:=g4 a;revert this
  cases look a fl with
  | none=>exact id
  | some sl=>exact fun ⟨r,h1,h2⟩=>⟨r,h1,h2.mono k (fun a o=>kf a _ _ o g1) fun a e=>by rw[kl];exact e⟩
theorem Rel.grow(h:Rel W Φ F st s)(ph:fZ W F' s')(hH:∀b,F.H b ≠ .free→(∀o,F.H b ≠ .own .park o)→F'.H b=F.H b)(la:F'.la=F.la)(me:F'.me=F.me):Rel W Φ F' st s':=by
 have k:∀{b:Addr} {c:bK},F.H b=c→c ≠ .free→(∀o,c ≠ .own .park o)→F'.H b=c:=fun e q q2=>(hH _ (e▸q) (e▸q2)).trans e;have le:F.le F':=fun a o e=>k e (fun q=>bK.noConfusion q) fun _ q=>bK.noConfusion q;have kf:∀{a:Addr} {y:Addr} {x:Option Str} {o:Obj},F.H a = .own (.fld y x) o→F'.H a = .own (.fld y x) o:=fun e=>k e (fun q=>bK.noConfusion q) fun _ q=>bK.noConfusion q fun t _=>Tag.noConfusion t;refine aB h.loc fun m e l=>?_;refine⟨ph,⟨m,k e (fun q=>bK.noConfusion q) (fun _ q=>bK.noConfusion q),l.mono le (fun a x o e=>k e (fun q=>bK.noConfusion q) fun _ q=>bK.noConfusion q fun t _=>Tag.noConfusion t) me⟩,fun a ha=>?_,h.foc.mono le (fun a y x o _ e=>kf e) la me,fun a x y e=>?_,fun t q hq=>kf (h.ro t q hq)⟩
 ·refine iJ (h.frs a ha) fun k1 m1 e1 e2=>?_
  exact⟨k1,m1,k e1 (fun q=>bK.noConfusion q) (fun _ q=>bK.noConfusion q),e2⟩
 ·rw[la] at e
  refine bG (h.lax a x y e) fun o e=>?_;exact⟨o,le a o e⟩
theorem Rel.keep(h:Rel W Φ F st s){h':Heap}{t:Nat}(hk:∀b o,s.heap.get? b=some o→h'.get? b=some o):Rel W Φ F st {s with heap:=h',toks:=t}:=h.grow (h.ph.keep fun b o _=>hk b o) (fun _ _ _=>rfl) rfl rfl
theorem Rel.toks(h:Rel W Φ F st s)(t:Nat):Rel W Φ F st {s with toks:=t}:=h.keep fun _ _ e=>e
theorem Rel.add(h:Rel W Φ F st s){a:Addr}{c:bK}{h':Heap}{t:Nat}(hf:F.H a = .free)(hk:∀b o,F.H b ≠ .free→s.heap.get? b=some o→h'.get? b=some o)(hc:jX W h' a c):Rel W Φ (F.set a c) st {s with heap:=h',toks:=t}:=
 h.grow (h.ph.step (fun b o _=>hk b o) hc fun o q=>by rw[hf] at q;cases q) (fun b hb _=>F.set_ne c fun q=>hb (q▸hf)) rfl rfl
theorem Rel.alloc(h:Rel W Φ F st s){o:Obj}{b:Nat}{d:Nat}(hf:o.isFreed=false):Rel W Φ (F.set s.heap.objs.size (.frz o)) st {s with heap:=s.heap.push o}∧Ext b d F (F.set s.heap.objs.size (.frz o)):=
 have fr:=h.ph.new (aK _)
 ⟨h.add (t:=s.toks) fr (fun _ _ _ e=>Heap.get?_push_of_some _ e) (Heap.get?_push_size _ hf),.add fr⟩
theorem Rel.frm(h:Rel W Φ F st s):∃m,F.H Φ.L = .frame Φ.d m∧s.heap.Ns Φ.L m∧Fr W.base Φ.L s.heap m:=by
 refine aB h.loc fun m e _=>?_;have z:=h.ph.frame e;exact⟨m,e,z.1,z.1,h.ph.old,z.2⟩
theorem Rel.notFrz(h:Rel W Φ F st s)(o:Obj):F.H Φ.L ≠ .frz o:=by
 refine aB h.loc fun m e _=>?_;rw[e];exact fun q=>bK.noConfusion q
theorem Rel.local(h:Rel W Φ F st s){m':Str→Option Value}{loc:aL}(ph:fZ W F' s')(hL:F'.H Φ.L = .frame Φ.d m')(hH:∀b,b≠Φ.L→F.H b ≠ .free→(∀x o,F.H b ≠ .own (.loc Φ.d x) o)→F'.H b=F.H b)(la:F'.la=F.la)(me:F'.me=F.me)
  (l:kJ F' Φ.d m' loc):Rel W Φ F' ⟨loc,st.flds,st.tch⟩ s':=by
 refine aB h.loc fun m e0 _=>?_;have ne:∀{b:Addr} {c:bK},F.H b=c→(∀m,c ≠ .frame Φ.d m)→c ≠ .free→(∀x o,c ≠ .own (.loc Φ.d x) o)→F'.H b=c:=fun e q1 q2 q3=>(hH _ (fun q=>q1 m (by rw[←e,q,e0])) (by rw[e];exact q2) (by rw[e];exact q3)).trans e;have le:F.le F':=fun a o e=>ne e (fun _ q=>bK.noConfusion q) (fun q=>bK.noConfusion q) fun _ _ q=>bK.noConfusion q;refine⟨ph,⟨m',hL,l⟩,fun a ha=>?_,h.foc.mono le (fun a y x o _ e=>ne e (fun _ q=>bK.noConfusion q) (fun q=>bK.noConfusion q) fun _ _ q=>bK.noConfusion q fun t _=>Tag.noConfusion t) la me,fun a x y e=>?_,fun t q hq=>ne (h.ro t q hq) (fun _ q=>bK.noConfusion q) (fun q=>bK.noConfusion q) fun _ _ q=>bK.noConfusion q fun t _=>Tag.noConfusion t⟩
 ·refine iJ (h.frs a ha) fun k1 m1 e1 e2=>?_
  exact⟨k1,m1,ne e1 (fun m q=>by cases q;exact Nat.lt_irrefl _ e2) (fun q=>bK.noConfusion q) (fun _ _ q=>bK.noConfusion q),e2⟩
 ·rw[la] at e
  refine bG (h.lax a x y e) fun o e=>?_;exact⟨o,le a o e⟩
theorem Rel.bind(h:Rel W Φ F st s){m:Str→Option Value}(e0:F.H Φ.L = .frame Φ.d m){x:Str}{o:Option Value}{loc:aL}{h':Heap}{t:Nat}(hn:h'.Ns Φ.L (fun y=>if y=x then o else m y))(hs:Heap.SameBut Φ.L s.heap h')
  (hl:∀y sl,look y loc=some sl→SlR F Φ.d (if y=x then o else m y) y sl):Rel W Φ (F.set Φ.L (.frame Φ.d fun y=>if y=x then o else m y)) ⟨loc,st.flds,st.tch⟩ {s with heap:=h',toks:=t}:=
 have ph:=h.ph.step (t:=t) (c:=.frame Φ.d fun y=>if y=x then o else m y) (fun b ob hb _ e=>(hs.2 b hb).trans e) ⟨hn,(h.ph.frame e0).2⟩ h.notFrz
 h.local ph (F.set_self _ _) (fun b hb _ _=>F.set_ne _ hb) rfl rfl fun y sl e=>(hl y sl e).mono (Fz.le_set h.notFrz) (fun a ob e=>(F.set_ne _ fun (q:a=Φ.L)=>by rw[q,e0] at e;cases e).trans e) rfl
theorem Rel.bind_ext{b:Nat}(hb:b<2){c:bK}{m:Str→Option Value}(e0:F.H Φ.L = .frame Φ.d m):Ext b Φ.d F (F.set Φ.L c):=.set (by rw[e0];exact fun k=>k.elim (Nat.lt_irrefl _) fun k=>absurd hb (Nat.not_lt_of_le k.1))
theorem Rel.storeVal(h:Rel W Φ F st s){m:Str→Option Value}(e0:F.H Φ.L = .frame Φ.d m)(l:kJ F Φ.d m st.loc){x:Str}{v:V}{r:Value}{h':Heap}{t:Nat}(hv:VR F v r)(hn:h'.Ns Φ.L (fun y=>if y=x then some r else m y))(hs:Heap.SameBut Φ.L s.heap h') :
  Rel W Φ (F.set Φ.L (.frame Φ.d fun y=>if y=x then some r else m y)) (st.setL x (.val v)) {s with heap:=h',toks:=t}:=
 h.bind e0 hn hs fun y sl e=>by
  by_cases q:y=x
  ·subst q
   rw[eV] at e;obtain rfl:=so e;rw[if_pos rfl];exact⟨r,rfl,hv⟩
  ·rw[iN (Ne.symm q)] at e
   rw[if_neg q];exact l y sl e
theorem Rel.setLoc(h:Rel W Φ F st s){m:Str→Option Value}(e0:F.H Φ.L = .frame Φ.d m)(l:kJ F Φ.d m st.loc){x:Str}{a:Addr}{o:Obj}(e1:F.H a = .own (.loc Φ.d x) o){c:bK}{sl:Slot}{h':Heap}{t:Nat}(hs:Heap.SameBut a s.heap h')(hc:jX W h' a c)
  (hsl:SlR (F.set a c) Φ.d (m x) x sl):Rel W Φ (F.set a c) (st.setL x sl) {s with heap:=h',toks:=t}:=
 have nf:∀o,F.H a ≠ .frz o:=fun o q=>by rw[e1] at q;cases q
 have ph:=h.ph.step (t:=t) (fun b ob hb _ e=>(hs.2 b hb).trans e) hc nf
 h.local ph ((F.set_ne _ fun q=>by rw[←q,e0] at e1;cases e1).trans e0) (fun b _ _ hb=>F.set_ne _ fun q=>hb x o (q▸e1)) rfl rfl fun y sl' e=>by
  have e:look y (put x sl st.loc)=some sl':=e
  by_cases q:y=x
  ·subst q
   rw[eV] at e;obtain rfl:=so e;exact hsl
  ·rw[iN (Ne.symm q)] at e
   exact (l y sl' e).mono (Fz.le_set nf) (fun b ob e2=>(F.set_ne _ fun (z:b=a)=>by rw[z,e1] at e2;cases e2;exact q rfl).trans e2) rfl
theorem Rel.setLoc_ext(b:Nat){x:Str}{a:Addr}{o:Obj}{c:bK}(e1:F.H a = .own (.loc Φ.d x) o):Ext b Φ.d F (F.set a c):=.set (by rw[e1];exact Nat.lt_irrefl _)
theorem Rel.field(h:Rel W Φ F st s){fl:aL}(ph:fZ W F' s')(hH:∀b,F.H b ≠ .free→(∀y x o,F.me=some y→F.H b ≠ .own (.fld y x) o)→F'.H b=F.H b)(me:F'.me=F.me)(lax:∀a x y,F'.la a x=some y→F.la a x=some y∨F.me=some a)
  (foc:Lu W F' fl):Rel W Φ F' (st.setF fl) s':=by
 have ne:∀{b:Addr} {c:bK},F.H b=c→c ≠ .free→(∀y x o,c ≠ .own (.fld y x) o)→F'.H b=c:=fun e q1 q2=>(hH _ (by rw[e];exact q1) (by rw[e];exact fun y x o _=>q2 y x o)).trans e;have le:F.le F':=fun a o e=>ne e (fun q=>bK.noConfusion q) fun _ _ _ q=>bK.noConfusion q;refine aB h.loc fun m e l=>?_;refine⟨ph,⟨m,ne e (fun q=>bK.noConfusion q) (fun _ _ _ q=>bK.noConfusion q),l.mono le (fun a x o e=>ne e (fun q=>bK.noConfusion q) fun _ _ _ q=>bK.noConfusion q fun t _=>Tag.noConfusion t) me⟩,fun a ha=>?_,foc,fun a x y e=>?_,fun t=>Bool.noConfusion t⟩
 ·refine iJ (h.frs a ha) fun k1 m1 e1 e2=>?_
  exact⟨k1,m1,ne e1 (fun q=>bK.noConfusion q) (fun _ _ _ q=>bK.noConfusion q),e2⟩
 ·rcases lax a x y e with q|q
  ·refine bG (h.lax a x y q) fun o e=>?_
   exact⟨o,le a o e⟩
  ·rcases h.foc with ⟨z,_⟩|⟨z,d,es,n,g⟩
   ·rw[z] at q;exact ox q
   ·rw[g.me] at q;obtain rfl:=so q
    exact⟨_,le _ _ g.inst⟩
noncomputable def Fz.dead(F:Fz):Fz:=⟨F.H,F.la,none⟩
theorem kJ.kill{d:Nat}{m:Str→Option Value}{loc:aL}(h:kJ F d m loc):kJ F.dead d m (lD loc):=fun x sl e=>by
 rw[vN] at e;refine aB (Option.map_eq_some_iff.mp e) fun sl0 e0 e2=>?_;subst e2;have:=h x sl0 e0;have k:F.le F.dead:=fun _ _ e=>e
 cases sl0 with
 | val v=>obtain⟨r,e,hv⟩:=this;exact⟨r,e,hv.mono k⟩
 | lst l=>obtain⟨a,vs,n,e,h,hv,hl⟩:=this;exact⟨a,vs,n,e,h,hv.mono k,hl⟩
 | dct l=>exact this
 | gone=>exact this
 | self=>trivial
theorem Rel.dead(h:Rel W Φ F st s):Rel W Φ F.dead st.dead s:=by
 refine aB h.loc fun m e l=>?_;exact⟨⟨h.ph.z,h.ph.base,h.ph.gens,h.ph.os⟩,⟨m,e,l.kill⟩,h.frs,.inl ⟨rfl,rfl⟩,h.lax,fun t=>Bool.noConfusion t⟩
theorem Ext.dead(d:Nat):Ext 0 d F F.dead:=⟨fun _ _=>rfl,fun _ _ _ e=>e,fun q=>absurd q (Nat.not_succ_le_zero _)⟩
noncomputable def Fm.deeper(Φ:Fm)(L:Addr):Fm:=⟨L,Φ.d+1,Φ.L::Φ.frs,[]⟩
theorem Rel.enter(h:Rel W Φ F st s){h₁:Heap}{t:Nat}{m:Str→Option Value}{loc:aL}(hn:h₁.Ns s.heap.objs.size m)(hk:∀b o,s.heap.get? b=some o→h₁.get? b=some o)(hl:kJ (F.set s.heap.objs.size (.frame (Φ.d+1) m)) (Φ.d+1) m loc) :
  Rel W (Φ.deeper s.heap.objs.size) (F.set s.heap.objs.size (.frame (Φ.d+1) m)) ⟨loc,st.flds,true⟩ {s with heap:=h₁,toks:=t}:=by
 have fr:=h.ph.new (aK _);refine fA h.frm fun m0 e0 _ f0=>?_;have R:=h.add (t:=t) (c:=.frame (Φ.d+1) m) fr (fun b o _=>hk b o) ⟨hn,aJ f0.above (bA f0.ns.lt)⟩;refine⟨R.ph,⟨m,F.set_self _ _,hl⟩,fun a ha=>?_,R.foc,R.lax,fun t=>Bool.noConfusion t⟩
 rcases al_mc ha with q|q
 ·rw[q]
  refine aB R.loc fun m1 e1 _=>?_;exact⟨_,_,e1,Nat.lt_succ_self _⟩
 ·refine iJ (R.frs a q) fun k1 m1 e1 e2=>?_
  exact⟨k1,m1,e1,Nat.lt_succ_of_lt e2⟩
theorem Rel.back(h:Rel W Φ F st s){fl:aL}(ph:fZ W F' s')(hH:∀a,Kp 0 F.me (Φ.d+1) (F.H a)→F'.H a=F.H a)(me:F'.me=F.me)(foc:Lu W F' fl)(lax:∀a x y,F'.la a x=some y→∃o,F'.H a = .frz o):Rel W Φ F' ⟨st.loc,fl,true⟩ s':=by
 have ne:∀{b:Addr} {c:bK},F.H b=c→Kp 0 F.me (Φ.d+1) c→F'.H b=c:=fun e q=>(hH _ (by rw[e];exact q)).trans e;refine aB h.loc fun m e l=>?_;refine⟨ph,⟨m,ne e (.inl (Nat.lt_succ_self _)),l.mono (fun a o e=>ne e trivial) (fun a x o e=>ne e (Nat.lt_succ_self _)) me⟩,fun a ha=>?_,foc,lax,fun t=>Bool.noConfusion t⟩;refine iJ (h.frs a ha) fun k1 m1 e1 e2=>?_;exact⟨k1,m1,ne e1 (.inl (Nat.lt_succ_of_lt e2)),e2⟩
end
section
structure Mn where
 T:Type
 m:T→Prop
 z:T
 nz:¬m z
variable{Θ:Mn}
noncomputable def uY(W:Wd)(F:Fz)(ea:Addr)(fl:Value→Prop)(vs:Array Value)(s:Shared):Prop:=
 ∃T oT ts,vs[1]? = some (.ref T)∧T≠ea∧s.heap.get? T=some oT∧oT.data = .fields ts∧3<ts.size∧(∃v,ts[3]? = some v∧fl v)∧F.H T = .free∧W.base.objs.size≤T
structure oZ(W:Wd)(F:Fz)(c:Nat)(fs:List (Str×V))(ea:Addr)(oe:Obj)(vs:Array Value)(s:Shared):Prop where
 at_:s.heap.get? ea=some oe
 cls:oe.cls = .ref c
 data:oe.data = .fields vs
 size:1<vs.size
 dict:∃d es n,oe.dict=some d∧F.H d = .frz (dictOf es n)∧FRv F fs es
 free:F.H ea = .free
 above:W.base.objs.size≤ea
noncomputable def qI(W:Wd)(Φ:Fm)(F:Fz)(e:V)(ea:Addr)(st:St)(s:Shared):Prop:=
 Rel W Φ F st s∧F.me=none∧∃c fs oe vs,e = .exc c fs∧oZ W F c fs ea oe vs s∧(vs[1]? = some .none∨uY W F ea (fun v=>v = .none∨v=rawInt Φ.L) vs s)
inductive qZ:List Env→List Addr→Prop
 | nil:qZ [] []
 | cons {env:Env} {q:Addr} {l:List Env} {r:List Addr}:env.frame=some q→env.scope.kind = .function→qZ l r→qZ (env::l) (q::r)
structure Ctx(n:Nat)(A:Around)(env:Env)(Φ:Fm):Prop where
 kind:env.scope.kind = .function
 locals:env.locals=Φ.L
 frame:env.frame=some Φ.L
 globals:env.globals=mainGlobals
 builtins:env.builtins=builtinsNs
 nodbg:env.scope.names.lookup ("__debug__" : Str)=none
 frames:∃outer,A.frames=some (env::outer)∧qZ outer Φ.frs
 handled:A.handled=none
 depth:A.depth+8*n<recursionLimit
 units:A.units+20*n<cLine
structure bJ{α β:Type}(b:Nat)(rel:Fz→α→β→Prop)(W:Wd)(Φ:Fm)(F:Fz)(k:α→St→Θ.T)(ke:V→St→Θ.T)(Q:β→Shared→Prop)(X:Value→Shared→Prop):Prop where
 ok:∀{a:α} {st:St} {r:β} {s:Shared} {F':Fz},Ext b Φ.d F F'→Rel W Φ F' st s→rel F' a r→Θ.m (k a st)→Q r s
 err:∀{e:V} {ea:Addr} {st:St} {s:Shared} {F':Fz},Ext 0 Φ.d F F'→qI W Φ F' e ea st s→Θ.m (ke e st)→X (.ref ea) s
noncomputable def Jn(_:Fz)(a b:Bool):Prop:=a=b
inductive dR(F:Fz):Fl→Flow→Prop
 | next:dR F .next .next
 | brk:dR F .brk .brk
 | cont:dR F .cont .cont
 | ret {v:V} {r:Value}:VR F v r→dR F (.ret v) (.ret r)
noncomputable def aR(W:Wd)(n:Nat)(ev:Scope→PySem.Expr→St→R V):Prop:=
 ∀{Θ:Mn} {e:PySem.Expr} {st:St} {k:V→St→Θ.T} {ke:V→St→Θ.T} {A:Around} {env:Env} {Φ:Fm} {F:Fz} {s:Shared} {Q:Value→Shared→Prop} {X:Value→Shared→Prop},
  Θ.m (ev env.scope e st Θ.T k ke Θ.z)→Ctx n A env Φ→Rel W Φ F st s→bJ 2 VR W Φ F k ke Q X→wpAny W.M A (eval e env) Q X s
noncomputable def jU(W:Wd)(n:Nat)(te:Scope→PySem.Expr→St→R Bool):Prop:=
 ∀{Θ:Mn} {e:PySem.Expr} {st:St} {k:Bool→St→Θ.T} {ke:V→St→Θ.T} {A:Around} {env:Env} {Φ:Fm} {F:Fz} {s:Shared} {Q:Bool→Shared→Prop} {X:Value→Shared→Prop},
  Θ.m (te env.scope e st Θ.T k ke Θ.z)→Ctx n A env Φ→Rel W Φ F st s→bJ 2 Jn W Φ F k ke Q X→wpAny W.M A (isTrue e env (eval e env)) Q X s
noncomputable def zC(W:Wd)(n:Nat)(b:Nat)(ex:Scope→PySem.Stmt→St→R Fl):Prop:=
 ∀{Θ:Mn} {e:PySem.Stmt} {st:St} {k:Fl→St→Θ.T} {ke:V→St→Θ.T} {A:Around} {env:Env} {Φ:Fm} {F:Fz} {s:Shared} {Q:Flow→Shared→Prop} {X:Value→Shared→Prop},
  Θ.m (ex env.scope e st Θ.T k ke Θ.z)→Ctx n A env Φ→Rel W Φ F st s→bJ b dR W Φ F k ke Q X→wpAny W.M A (exec e env) Q X s
noncomputable def cZ(W:Wd)(n:Nat)(b:Nat)(ex:Scope→List PySem.Stmt→St→R Fl):Prop:=
 ∀{Θ:Mn} {e:List PySem.Stmt} {st:St} {k:Fl→St→Θ.T} {ke:V→St→Θ.T} {A:Around} {env:Env} {Φ:Fm} {F:Fz} {s:Shared} {Q:Flow→Shared→Prop} {X:Value→Shared→Prop},
  Θ.m (ex env.scope e st Θ.T k ke Θ.z)→Ctx n A env Φ→Rel W Φ F st s→bJ b dR W Φ F k ke Q X→wpAny W.M A (execs e env) Q X s
section
variable{α β:Type}{b:Nat}{rel:Fz→α→β→Prop}{W:Wd}{Φ:Fm}{F F':Fz}{k:α→St→Θ.T}{ke:V→St→Θ.T}{Q:β→Shared→Prop}{X:Value→Shared→Prop}
theorem Ext.of_true{d:Nat}(x:Ext 2 d F F'):Ext b d F F':=
 ⟨fun a k=>x.keep a (k.lev (fun _=>⟨Nat.le_succ 1,rfl⟩) (aK _) fun _=>.inr ⟨aK 2,rfl⟩),x.la,fun _=>x.me (Nat.le_succ 1)⟩
theorem bJ.ext(p:bJ b rel W Φ F k ke Q X)(x:Ext b Φ.d F F'):bJ b rel W Φ F' k ke Q X:=⟨fun y=>p.ok (x.trans y),fun y=>p.err (x.weak.trans y)⟩
theorem bJ.here(p:bJ b rel W Φ F k ke Q X){a:α}{st:St}{r:β}{s:Shared}(h:Rel W Φ F st s)(hv:rel F a r)(hk:Θ.m (k a st)):Q r s:=p.ok (.refl _ _ _) h hv hk
noncomputable def gY(W:Wd)(Φ:Fm)(F:Fz)(st:St)(c:V)(Q:Value→Shared→Prop):Prop:=∀{r:Value} {s':Shared} {F':Fz},Ext 2 Φ.d F F'→Rel W Φ F' st s'→VR F' c r→Q r s'
theorem gY.here{st:St}{c:V}{Q:Value→Shared→Prop}(h:gY W Φ F st c Q){r:Value}{s:Shared}(hr:Rel W Φ F st s)(hv:VR F c r):Q r s:=h (.refl _ _ _) hr hv
theorem gY.tok{st:St}{c:V}{Q:Value→Shared→Prop}(h:gY W Φ F st c Q){r:Value}{s:Shared}(hr:Rel W Φ F st s)(hv:VR F c r)(t:Nat):Q r {s with toks:=t}:=h (.refl _ _ _) (hr.toks t) hv
theorem aC{o:Option α}{K:α→Θ.T}(h:Θ.m (onO o K Θ.z)):∃a,o=some a∧Θ.m (K a):=by
 cases o with
 | none=>exact (Θ.nz h).elim
 | some a=>exact⟨a,rfl,h⟩
theorem aS{c:Bool}{x:Θ.T}(h:Θ.m (onB c x Θ.z)):c=true∧Θ.m x:=by
 cases c with
 | false=>exact (Θ.nz h).elim
 | true=>exact⟨rfl,h⟩
theorem bX{c:Bool}{a a':α}(h:cV c a=some a'):c=true∧a=a':=by
 cases c with
 | false=>exact ox h
 | true=>exact⟨rfl,Option.some.inj h⟩
theorem aA{a c:Bool}(h:(a&&c)=true):a=true∧c=true:=by
 cases a with
 | false=>exact Bool.noConfusion h
 | true=>exact⟨rfl,h⟩
theorem aM{o:Option α}{f:α→β}{c:β}(h:o.map f=some c):∃a,o=some a∧f a=c:=by
 cases o with
 | none=>exact ox h
 | some a=>exact⟨a,rfl,Option.some.inj h⟩
theorem aD{o:Option α}{f:α→Option β}{c:β}(h:o.bind f=some c):∃a,o=some a∧f a=some c:=by
 cases o with
 | none=>exact ox h
 | some a=>exact⟨a,rfl,h⟩
end
section
variable{F:Fz}{v:V}{r:Value}
theorem VR.asInt(h:VR F v r){i:Int}(e:asInt v=some i):v = .int i∧∃t,r = .int i t:=by
 have q:(Mine.Internal.asInt v).elim True fun i=>v = .int i∧∃t,r = .int i t:=by
  have h:=h.view
  cases v<;>first|exact trivial|exact h|exact⟨rfl,h⟩
 rw[e] at q;exact q
theorem VR.asStr(h:VR F v r){l:List Nat}(e:asStr v=some l):v = .str l∧l.length≤gH∧∃t,r = .str ⟨l.toArray⟩ t:=by
 have q:(Mine.Internal.asStr v).elim True fun l=>v = .str l∧l.length≤gH∧∃t,r = .str ⟨l.toArray⟩ t:=by
  have h:=h.view
  cases v<;>first|exact trivial|exact h|exact⟨rfl,h⟩
 rw[e] at q;exact q
theorem VR.asBool(h:VR F v r){b:Bool}(e:asBool v=some b):v = .bool b∧r = .bool b:=by
 have q:(Mine.Internal.asBool v).elim True fun b=>v = .bool b∧r = .bool b:=by
  have h:=h.view
  cases v<;>first|exact trivial|exact h|exact⟨rfl,h⟩
 rw[e] at q;exact q
theorem VR.asTup(h:VR F v r){l:List V}(e:asTup v=some l):∃a vs n,r = .ref a∧F.H a = .frz (kN (List.toArray vs) n)∧VRs F l vs∧l.length≤aO:=by
 have q:(Mine.Internal.asTup v).elim True fun l=>∃a vs n,r = .ref a∧F.H a = .frz (kN (List.toArray vs) n)∧VRs F l vs∧l.length≤aO:=by
  have h:=h.view
  cases v<;>first|exact trivial|exact h|exact⟨rfl,h⟩
 rw[e] at q;exact q
theorem VR.asLst(h:VR F v r){l:List V}(e:asLst v=some l):∃a vs n,r = .ref a∧F.H a = .frz (listOf (List.toArray vs) n)∧VRs F l vs∧l.length≤aO:=by
 have q:(Mine.Internal.asLst v).elim True fun l=>∃a vs n,r = .ref a∧F.H a = .frz (listOf (List.toArray vs) n)∧VRs F l vs∧l.length≤aO:=by
  have h:=h.view
  cases v<;>first|exact trivial|exact h|exact⟨rfl,h⟩
 rw[e] at q;exact q
theorem VR.asCls(h:VR F v r){c:Nat}(e:asCls v=some c):r = .ref c:=by
 have q:(Mine.Internal.asCls v).elim True fun c=>r = .ref c:=by
  have h:=h.view
  cases v<;>first|exact trivial|exact h|exact⟨rfl,h⟩
 rw[e] at q;exact q
end
theorem hY{l:List Nat}{c:Nat}(e:uL l=some c):l=[c]:=by
 match l,e with
 | [_],e=>obtain rfl:=so e;rfl
end
end
section
open PySem.Calls PyProof.Rows PySem.SeqAt
section
variable{Θ:Mn}
theorem cH{k:NameKind}{o:Option NameKind}(h:Dz k o=true):o=some k:=by
 cases o with
 | none=>exact Bool.noConfusion h
 | some j=>exact congrArg some (aI h)
noncomputable def nR(W:Wd)(O:Orc):Prop:=∀x v,look x O.glob=some v→∃r,W.mg x=some r∧∀F:Fz,(∀a o,W.base.get? a=some o→F.H a = .frz o)→VR F v r
section
variable{W:Wd}{n:Nat}{O:Orc}{E:Ev}{st:St}{A A':Around}{env:Env}{Φ:Fm}{F:Fz}{s:Shared}{X:Value→Shared→Prop}{Q:Value→Shared→Prop}{k:V→St→Θ.T}{ke:V→St→Θ.T}
theorem Ctx.dbg(C:Ctx n A env Φ){x:Str}{j:NameKind}(h:env.scope.names.lookup x=some j):(x==("__debug__" : Str))=false:=by
 cases q:x==("__debug__" : Str) with
 | false=>rfl
 | true=>rw[beq_iff_eq.mp q,C.nodbg] at h;exact ox h
theorem nW(C:Ctx n A env Φ)(h:Rel W Φ F st s){x:Str}{p:Pos}{m:Str→Option Value}{r:Value}(hx:cB env.scope x=true)(e0:F.H Φ.L = .frame Φ.d m)(hm:m x=some r)(hq:Q r s):wpAny W.M A' (eval (.Name x p) env) Q X s:=
 have e:=cH hx
 wpAny_Name (wpAny_loadName_local C.kind e (by rw[C.locals];exact (h.ph.frame e0).1) hm hq) (C.dbg e)
theorem hU(C:Ctx n A env Φ)(h:Rel W Φ F st s){x:Str}{p:Pos}{v:V}(hx:cB env.scope x=true)(hl:look x st.loc=some (.val v))(hq:∀r,VR F v r→Q r s):wpAny W.M A' (eval (.Name x p) env) Q X s:=by
 refine aB h.loc fun m e0 l=>?_;refine aB (l x _ hl) fun r hm hv=>?_;exact nW C h hx e0 hm (hq r hv)
theorem jB(hg:nR W O)(C:Ctx n A env Φ)(h:Rel W Φ F st s){x:Str}{p:Pos}{v:V}(hx:cL env.scope x=true)(hl:look x O.glob=some v)(hq:∀r,(∀F:Fz,(∀a o,W.base.get? a=some o→F.H a = .frz o)→VR F v r)→Q r s):wpAny W.M A' (eval (.Name x p) env) Q X s:=by
 refine aB (hg x v hl) fun r h1 h2=>?_;have e:=cH hx;exact Calls.Name_function_global C.kind e (Calls.loadGlobal_global (by rw[C.globals];exact W.g.keeps h.ph.old) h1 (hq r h2)) (C.dbg e)
theorem Iv{c:Const}{i:Nat}{p:Pos}(hk:Θ.m (R.ofOpt (En c) st Θ.T k ke Θ.z))(h:Rel W Φ F st s)(P:bJ 2 VR W Φ F k ke Q X):wpAny W.M A (eval (.Constant c i p) env) Q X s:=by
 refine aB (aC hk) fun v e hk=>?_
 cases c with
 | none=>obtain rfl:=so e;exact wpAny_Constant_none (P.here h .none hk)
 | bool b=>obtain rfl:=so e;exact wpAny_Constant_bool (P.here h (.bool b) hk)
 | int i=>obtain rfl:=so e;exact wpAny_Constant_int (P.here (h.toks _) (.int i _) hk)
 | str x=>
  refine aE (bX e) fun q e1=>?_;subst e1;exact wpAny_Constant_str (P.here (h.toks _) (VR.str x.cps.toList s.toks (aJ (eQ q) (by decide))) hk)
 | float|complex|bytes|ellipsis=>exact ox e
theorem Cx(C:Ctx n A env Φ)(h:Rel W Φ F st s){x:Str}{p:Pos}{l:List V}(hx:cB env.scope x=true)(hl:look x st.loc=some (.lst l))(hq:∀r F',Ext 2 Φ.d F F'→Rel W Φ F' (st.setL x (.val (.lst l))) s→VR F' (.lst l) r→Q r s):wpAny W.M A' (eval (.Name x p) env) Q X s:=by
 refine aB h.loc fun m e0 lr=>?_;refine gL (lr x _ hl) fun a vs j hm e1 hv hz=>?_;have ho:=h.ph.own e1;have x1:Ext 2 Φ.d F (F.set a (.frz (listOf vs.toArray j))):=Rel.setLoc_ext 2 e1;have v1:VR (F.set a (.frz (listOf vs.toArray j))) (.lst l) (.ref a):=.lst (F.set_self _ _) (hv.mono x1.le) hz;exact nW C h hx e0 hm (hq _ _ x1 (h.setLoc (t:=s.toks) (h':=s.heap) e0 lr e1 (Heap.SameBut.refl _ _) ho.1 ⟨_,hm,v1⟩) v1)
theorem Mr(hg:nR W O){x:Str}{p:Pos}(hk:Θ.m (Ol O env.scope x st Θ.T k ke Θ.z))(C:Ctx n A env Φ)(h:Rel W Φ F st s)(P:bJ 2 VR W Φ F k ke Q X):wpAny W.M A (eval (.Name x p) env) Q X s:=by
 unfold Ol at hk
 cases hx:cB env.scope x with
 | true=>
  rw[hx] at hk;have hk:Θ.m (AT x st Θ.T k ke Θ.z):=hk;unfold AT at hk
  cases hl:look x st.loc with
  | none=>rw[hl] at hk;exact (Θ.nz hk).elim
  | some sl=>
   rw[hl] at hk
   cases sl with
   | val v=>exact hU C h hx hl fun r hr=>P.here h hr hk
   | lst l=>exact Cx C h hx hl fun r F' x1 h1 v1=>P.ok x1 h1 v1 hk
   | dct l=>exact (Θ.nz hk).elim
   | self=>exact (Θ.nz hk).elim
   | gone=>exact (Θ.nz hk).elim
 | false=>
  rw[hx] at hk;refine aE (aS hk) fun hx2 hk=>?_;refine aB (aC hk) fun v hl hk=>?_;exact jB hg C h hx2 hl fun r hr=>P.here h (hr F h.ph.base) hk
theorem jM(l:List Nat):(Str.mk l.toArray).length=l.length:=List.size_toArray
theorem qK{l:List Nat}(h:l.length≤gH):(Str.mk l.toArray).length≤sizeLine:=by
 rw[jM,sizeLine_eq];exact aJ h (by decide)
theorem rZ{l:List Nat}(h:l.length≤gH):(((Str.mk l.toArray).length:Nat):Int)<2 ^ 63:=by
 rw[jM];exact Int.lt_of_le_of_lt (Int.ofNat_le.mpr h) (by decide)
theorem VRs.length{l:List V}{vs:List Value}(h:VRs F l vs):vs.length=l.length:=by
 induction l generalizing vs with
 | nil=>cases h;rfl
 | cons v l ih=>
  cases h with
  | cons a b=>exact congrArg Nat.succ (ih b)
theorem bQ{l:Heap}{a:Addr}{vs:Array Value}{j:Nat}(h:l.get? a=some (listOf vs j)):l.IsList a vs:=⟨_,h,rfl,j,rfl⟩
theorem iG{l:Heap}{a:Addr}{vs:Array Value}{j:Nat}(h:l.get? a=some (kN vs j)):IsTup l a vs:=⟨_,h,rfl,j,rfl⟩
theorem VRs.size{l:List V}{vs:List Value}(h:VRs F l vs):vs.toArray.size=l.length:=List.size_toArray.trans h.length
theorem VRs.fit{l:List V}{vs:List Value}(h:VRs F l vs)(hl:l.length≤aO):(vs.toArray.size:Int)<2 ^ 63:=by
 rw[h.size];exact Int.lt_of_le_of_lt (Int.ofNat_le.mpr hl) (by decide)
theorem VRs.fits{l:List V}{vs:List Value}(h:VRs F l vs)(hl:l.length≤aO):vs.toArray.size≤sizeLine:=by
 rw[h.size,sizeLine_eq];exact aJ hl (by decide)
theorem VRs.empty{l:List V}{vs:List Value}(h:VRs F l vs):(!vs.toArray.isEmpty) = !bU l:=by
 cases l with
 | nil=>cases h;rfl
 | cons v l=>
  cases h with
  | cons a b=>rfl
theorem sG{l:List V}{a:Addr}{vs:List Value}{j:Nat}{Q:Bool→Shared→Prop}(hz:s.heap.get? a=some (listOf vs.toArray j))(hv:VRs F l vs)(hl:l.length≤aO)(hp:∀t,Q (!bU l) {s with toks:=t}):wpAny W.M A (truthy (.ref a)) Q X s:=
 wpAny_truthy_list (bQ hz) (hv.fit hl) (by rw[hv.empty];exact hp _)
theorem lX{v:V}{r:Value}{b:Bool}{Q:Bool→Shared→Prop}(h:Rel W Φ F st s)(e:cF v=some b)(hv:VR F v r)(hp:∀t,Q b {s with toks:=t}):wpAny W.M A (truthy r) Q X s:=by
 have hv:=hv.view;have hp0:Q b s:=hp s.toks
 cases v with
 | none=>obtain rfl:=so e;rw[show r=_ from hv];exact fun _ _ _=>hp0
 | bool c=>obtain rfl:=so e;rw[show r=_ from hv];exact wpAny_truthy_bool hp0
 | int i=>
  obtain rfl:=so e;refine bG hv fun t e1=>?_;clear hv;subst e1;refine PyProof.Rows.truthy_int ?_;rw[show (i != 0) = !decide (i=0) from rfl];exact hp0
 | str l=>
  obtain rfl:=so e;obtain⟨hl,t,rfl⟩:=hv;refine P.truthy_str (Int.not_le.mpr (rZ hl)) ?_
  have e2:((l.length:Int) != 0) = !bU l:=by cases l<;>rfl
  rw[jM,e2];exact hp _
 | tup l=>
  obtain rfl:=so e;refine gL hv fun a vs j e3 hz h1 h2=>?_;clear hv;subst e3;refine truthy_tuple (iG (h.ph.frz hz)) (h1.fit h2) ?_;rw[h1.empty];exact hp _
 | lst l=>
  obtain rfl:=so e;refine gL hv fun a vs j e3 hz h1 h2=>?_;clear hv;subst e3;exact sG (h.ph.frz hz) h1 h2 hp
 | cls|obj|exc|any=>exact ox e
end
end
section
variable{Θ:Mn}
structure Ls(W:Wd):Prop where
 modc:∀{A:Around} {s:Shared} {X:Value→Shared→Prop} {t u:Tok},A.units+20<cLine→
  wpAny W.M A (binaryOp .Mod (.str ⟨mK.toArray⟩ t) (.str ⟨[124].toArray⟩ u)) (fun r s'=>(∃x k,r = .str x k)∧∃k,s'={s with toks:=k}) X s
section
variable{W:Wd}{n:Nat}{O:Orc}{E:Ev}{st:St}{A A':Around}{env:Env}{Φ:Fm}{F:Fz}{s:Shared}{X:Value→Shared→Prop}{Q:Value→Shared→Prop}{k:V→St→Θ.T}{ke:V→St→Θ.T}{a b c:V}{ra rb:Value}
theorem Hh{a b:List Nat}{t u:Tok}(h:Rel W Φ F st s)(hl:a.length+b.length≤gH)(hp:gY W Φ F st (.str (a++b)) Q) :
  (if (Str.mk a.toArray).length==0 then Made.val (.str ⟨b.toArray⟩ u) else if (Str.mk b.toArray).length==0 then Made.val (.str ⟨a.toArray⟩ t) else Made.str (Str.mk a.toArray++Str.mk b.toArray)).post Q s:=by
 cases a with
 | nil=>exact hp.here h (.str b u (aJ (Nat.le_add_left _ _) hl))
 | cons x a=>
  cases b with
  | nil=>exact hp.here h (by rw[cA];exact .str _ t hl)
  | cons y b=>
   have e:(Str.mk (x::a).toArray++Str.mk (y::b).toArray)=Str.mk ((x::a)++(y::b)).toArray:=congrArg Str.mk (List.append_toArray _ _);show _∧_;rw[e]
   have l:((x::a)++(y::b)).length≤gH:=by rw[aU];exact hl
   exact⟨qK l,hp.tok h (.str _ _ l) _⟩
theorem Ul(h:Rel W Φ F st s)(e:iX a b=some c)(ha:VR F a ra)(hb:VR F b rb)(hp:gY W Φ F st c Q):wpAny W.M A (binaryOp .Add ra rb) Q X s:=by
 unfold iX at e
 cases q:asInt a with
 | some x=>
  rw[q] at e;obtain⟨rfl,t,rfl⟩:=ha.asInt q;refine aB (aM e) fun y ey e2=>?_;subst e2;obtain⟨rfl,u,rfl⟩:=hb.asInt ey;exact add_int (hp.tok h (.int _ _) _)
 | none=>
  rw[q] at e;refine aB (aD e) fun x ex e=>?_;refine aB (aD e) fun y ey e=>?_;refine aE (bX e) fun hl e1=>?_;subst e1;obtain⟨rfl,_,t,rfl⟩:=ha.asStr ex;obtain⟨rfl,_,u,rfl⟩:=hb.asStr ey;exact P.add_str (Hh h (eQ hl) hp)
theorem Mo(h:Rel W Φ F st s)(e:Mj a b=some c)(ha:VR F a ra)(hb:VR F b rb)(hp:gY W Φ F st c Q):wpAny W.M A (binaryOp .Sub ra rb) Q X s:=by
 refine aB (aD e) fun x ex e=>?_;refine aB (aM e) fun y ey e2=>?_;subst e2;obtain⟨rfl,t,rfl⟩:=ha.asInt ex;obtain⟨rfl,u,rfl⟩:=hb.asInt ey;exact sub_int (hp.tok h (.int _ _) _)
theorem Jv{a b:Int}(h:0≤a∧a≤100∧0≤b∧b≤1000):IntMulOk a b:=by
 refine oQ h fun a1 a2 b1 b2=>?_;clear h
 mul_fits
theorem Ms(h:Rel W Φ F st s)(e:Fy a b=some c)(ha:VR F a ra)(hb:VR F b rb)(hp:gY W Φ F st c Q):wpAny W.M A (binaryOp .Mult ra rb) Q X s:=by
 refine bc fun hG=>?_;refine aB (aD e) fun x ex e=>?_;refine aB (aD e) fun y ey e=>?_;refine aE (bX e) fun q e1=>?_;subst e1;obtain⟨rfl,t,rfl⟩:=ha.asInt ex;obtain⟨rfl,u,rfl⟩:=hb.asInt ey;refine aE (aA q) fun q q4=>?_;refine aE (aA q) fun q q3=>?_;refine aE (aA q) fun q1 q2=>?_;refine hG ?_;clear hG;exact mul_int (hp.tok h (.int _ _) _) (Jv ⟨aI q1,aI q2,aI q3,aI q4⟩)
theorem Ug(Y:Ls W)(h:Rel W Φ F st s)(hu:A.units+20<cLine)(e:hE a b=some c)(ha:VR F a ra)(hb:VR F b rb)(hp:gY W Φ F st c Q):wpAny W.M A (binaryOp .Mod ra rb) Q X s:=by
 unfold hE at e
 cases q:asInt a with
 | some x=>
  rw[q] at e;obtain⟨rfl,t,rfl⟩:=ha.asInt q;refine aB (aD e) fun y ey e=>?_;obtain⟨rfl,u,rfl⟩:=hb.asInt ey;refine aE (bX e) fun q e1=>?_;subst e1;have hy:=aI q;refine mod_int' (Ne.symm (Int.ne_of_lt hy)) (hp.tok h ?_ _);rw[Int.fmod_eq_emod_of_nonneg _ (Int.le_of_lt hy)];exact .int _ _
 | none=>
  rw[q] at e;refine aB (aD e) fun x ex e=>?_;refine aB (aD e) fun y ey e=>?_;refine aE (bX e) fun hl e1=>?_;subst e1;refine aE (aA hl) fun q1 q2=>?_;obtain⟨rfl,_,t,rfl⟩:=ha.asStr ex;obtain⟨rfl,_,u,rfl⟩:=hb.asStr ey;rw[aI q1,aI q2];refine wpAny_mono (Y.modc hu) (fun r s' z=>?_) fun _ _ z=>z;obtain⟨⟨x,j,rfl⟩,j',rfl⟩:=z;exact hp.tok h .any _
theorem Nd(h:Rel W Φ F st s)(e:Gs a b=some c)(ha:VR F a ra)(hb:VR F b rb)(hp:gY W Φ F st c Q):wpAny W.M A (binaryOp .FloorDiv ra rb) Q X s:=by
 refine bc fun hG=>?_;refine aB (aD e) fun x ex e=>?_;refine aB (aD e) fun y ey e=>?_;refine aE (bX e) fun q e1=>?_;subst e1;obtain⟨rfl,t,rfl⟩:=ha.asInt ex;obtain⟨rfl,u,rfl⟩:=hb.asInt ey;refine aE (aA q) fun q q4=>?_;refine aE (aA q) fun q q3=>?_;refine aE (aA q) fun q1 q2=>?_;refine hG ?_;clear hG;have hy:=aI q1;have h2:=aI q2;have h3:=aI q3;have h4:=aI q4;refine floordiv_int (Ne.symm (Int.ne_of_lt hy)) (hp.tok h ?_ _) (.inl (PyProof.noPylong_small (by omega)));rw[Int.fdiv_eq_ediv_of_nonneg _ (Int.le_of_lt hy)];exact .int _ _
theorem Uj(Y:Ls W){op:Operator}(h:Rel W Φ F st s)(hu:A.units+20<cLine)(e:DY op a b=some c)(ha:VR F a ra)(hb:VR F b rb)(hp:gY W Φ F st c Q):wpAny W.M A (binaryOp op ra rb) Q X s:=by
 cases op with
 | Add=>exact Ul h e ha hb hp
 | Sub=>exact Mo h e ha hb hp
 | Mult=>exact Ms h e ha hb hp
 | Mod=>exact Ug Y h hu e ha hb hp
 | FloorDiv=>exact Nd h e ha hb hp
 | _=>exact ox e
theorem xH{c:Value}{v u:List Value}{n m:Nat}(e:bK.frz ({cls:=c,data:=.seq v.toArray n}:Obj) = .frz {cls:=c,data:=.seq u.toArray m}):v=u:=by
 injection e with e
 injection e with _ _ e _
 injection e with e _
 exact congrArg Array.toList e
theorem lQ(a b:List Nat):(Str.mk a.toArray==Str.mk b.toArray)=decide (a=b):=by
 by_cases q:a=b
 ·subst q;rw[beq_self_eq_true,bN rfl]
 ·rw[cE q]
  exact beq_eq_false_iff_ne.mpr fun e=>q (congrArg (fun z=>z.cps.toList) e)
end
end
section
variable{Θ:Mn}
section
variable{W:Wd}{n:Nat}{O:Orc}{E:Ev}{st:St}{A A':Around}{env:Env}{Φ:Fm}{F:Fz}{s:Shared}{X:Value→Shared→Prop}{Q:Value→Shared→Prop}{a b c:V}{ra rb:Value}
theorem VRs.uncons{v:V}{l:List V}{vs:List Value}(h:VRs F (v::l) vs):∃r rs,vs=r::rs∧VR F v r∧VRs F l rs:=by
 cases h with
 | cons a b=>exact⟨_,_,rfl,a,b⟩
theorem VRs.unnil{vs:List Value}(h:VRs F [] vs):vs=[]:=by
 cases h;rfl
theorem tD{k:Bool}(hb:VR F b rb)(e:Oj b=some k):(rb = .none∧k=true)∨((∃i t,rb = .int i t)∧k=false):=by
 have hb:=hb.view
 cases b with
 | none=>obtain rfl:=so e;exact .inl ⟨hb,rfl⟩
 | int i=>obtain rfl:=so e;obtain⟨t,e⟩:=hb;exact .inr ⟨⟨i,t,e⟩,rfl⟩
 | _=>exact ox e
theorem rT{f:V→V→Option Bool}(hf:∀a b r k,VR F a r→VR F b r→f a b=some k→k=true){l1:List V}:∀{l2:List V} {vs:List Value} {k:Bool},VRs F l1 vs→VRs F l2 vs→kK f l1 l2=some k→k=true:=by
 induction l1 with
 | nil=>
  intro l2 vs k h1 h2 e
  cases l2 with
  | nil=>obtain rfl:=so e;rfl
  | cons b l2=>exact ox e
 | cons a l1 ih=>
  intro l2 vs k h1 h2 e
  cases l2 with
  | nil=>exact ox e
  | cons b l2=>
   refine gX h1.uncons fun r rs e2 q1 q2=>?_;subst e2;refine gX h2.uncons fun r' rs' e' q3 q4=>?_
   cases e'
   refine aB (aD e) fun x ex e=>?_;refine aB (aM e) fun y ey e2=>?_;subst e2;rw[hf _ _ _ _ q1 q3 ex,ih q2 q4 ey];rfl
theorem uZ(n:Nat):∀(a b:V) (r:Value) (k:Bool),VR F a r→VR F b r→gE n a b=some k→k=true:=by
 induction n with
 | zero=>exact fun _ _ _ _ _ _ e=>nomatch e
 | succ n ih=>
  intro a b r k h1 h2 e;have h1:=h1.view
  cases a with
  | none=>
   rcases tD h2 e with ⟨_,q⟩|⟨⟨i,t,q⟩,_⟩
   ·exact q
   ·rw[show r=_ from h1] at q;cases q
  | bool x=>
   refine aB (aM e) fun y ey e2=>?_;subst e2;have q:=(h2.asBool ey).2;rw[show r=_ from h1] at q
   cases q;exact beq_self_eq_true _
  | int x=>
   refine aB (aM e) fun y ey e2=>?_;subst e2;refine bG h1 fun t e1=>?_;clear h1;obtain⟨_,u,e2⟩:=h2.asInt ey;rw[e1] at e2
   cases e2;exact bN rfl
  | str x=>
   refine aB (aM e) fun y ey e2=>?_;subst e2;obtain⟨_,t,e1⟩:=h1;obtain⟨_,_,u,e2⟩:=h2.asStr ey;rw[e1] at e2
   injection e2 with e2 _
   exact bN (congrArg (fun z=>z.cps.toList) e2)
  | tup x=>
   refine aB (aD e) fun y ey e=>?_;refine gL h1 fun p vs j e3 z1 q1 _=>?_;clear h1;subst e3;refine gL (h2.asTup ey) fun p' vs' j' e2 z2 q2 _=>?_
   cases e2
   rw[z1] at z2;obtain rfl:=xH z2;revert e
   cases Nat.beq x.length y.length with
   | true=>exact rT ih q1 q2
   | false=>exact fun e=>nomatch e
  | lst x=>
   refine aB (aD e) fun y ey e=>?_;refine gL h1 fun p vs j e3 z1 q1 _=>?_;clear h1;subst e3;refine gL (h2.asLst ey) fun p' vs' j' e2 z2 q2 _=>?_
   cases e2
   rw[z1] at z2;obtain rfl:=xH z2;rw[show Nat.beq x.length y.length=true from by rw[←q1.length,←q2.length];exact Nat.beq_refl _] at e;exact rT ih q1 q2 e
  | _=>exact ox e
theorem zH{f:V→V→Option Bool}{P:Value→Value→Bool→Prop}(hf:∀a b ra rb k,VR F a ra→VR F b rb→f a b=some k→P ra rb k){l1:List V}:∀{l2:List V} {v1 v2:List Value} {k:Bool},VRs F l1 v1→VRs F l2 v2→kK f l1 l2=some k→
  ∃e:Nat→Bool,(∀j (h1:j<v1.toArray.size) (h2:j<v2.toArray.size),P v1.toArray[j] v2.toArray[j] (e j))∧(List.range v1.length).all e=k∧v1.length=v2.length:=by
 induction l1 with
 | nil=>
  intro l2 v1 v2 k h1 h2 q
  cases l2 with
  | nil=>
   obtain rfl:=so q;obtain rfl:=h1.unnil;obtain rfl:=h2.unnil;exact⟨fun _=>true,fun j h=>absurd h (Nat.not_lt_zero _),rfl,rfl⟩
  | cons b l2=>exact ox q
 | cons a l1 ih=>
  intro l2 v1 v2 k h1 h2 q
  cases l2 with
  | nil=>exact ox q
  | cons b l2=>
   refine gX h1.uncons fun r1 s1 e2 p1 p2=>?_;subst e2;refine gX h2.uncons fun r2 s2 e2 p3 p4=>?_;subst e2;refine aB (aD q) fun x ex q=>?_;refine aB (aM q) fun y ey e2=>?_;subst e2;refine fA (ih p2 p4 ey) fun e e1 e2 e3=>?_;refine⟨fun j=>Nat.casesOn j x e,fun j g1 g2=>?_,?_,congrArg Nat.succ e3⟩
   ·cases j with
    | zero=>exact hf _ _ _ _ _ p1 p3 ex
    | succ j=>exact e1 j (Nat.lt_of_succ_lt_succ g1) (Nat.lt_of_succ_lt_succ g2)
   ·rw[List.length_cons,List.range_succ_eq_map,List.all_cons,List.all_map,←e2];rfl
structure Cmp3(A:Around)(s:Shared)(ra rb:Value)(k:Bool):Prop where
 rc:RcAt A s ra rb k
 eq:EqAt A s ra rb k
 ne:RcNeAt A s ra rb (!k)
theorem Fb(h:Rel W Φ F st s)(n:Nat):∀(A:Around) (a b:V) (ra rb:Value) (k:Bool),VR F a ra→VR F b rb→gE n a b=some k→A.units+n<cLine→Cmp3 A s ra rb k:=by
 induction n with
 | zero=>exact fun _ _ _ _ _ _ _ _ e=>nomatch e
 | succ n ih=>
  intro A a b ra rb k h1 h2 e hu;have e0:=e;have h1':=h1.view
  have lt:A.in1.units+n<cLine:=by show A.units+1+n<cLine;lia
  have lt2:A.units<cLine:=iS (bY _ _) hu
  cases a with
  | none=>
   rw[show ra=_ from h1']
   rcases tD h2 e with ⟨rfl,rfl⟩|⟨⟨i,t,rfl⟩,rfl⟩
   ·exact⟨.none_none,.same _,.none_none⟩
   ·exact⟨.none_int _ _,.none_int _ _,.none_int _ _⟩
  | bool x=>
   refine aB (aM e) fun y ey e2=>?_;subst e2;rw[show ra=_ from h1',(h2.asBool ey).2];exact⟨.bool_bool _ _,.bool_bool _ _,.bool_bool _ _⟩
  | int x=>
   refine aB (aM e) fun y ey e2=>?_;subst e2;refine bG h1' fun t e1=>?_;clear h1';subst e1;obtain⟨_,u,rfl⟩:=h2.asInt ey;exact⟨.int_int _ _ _ _,.int_int _ _ _ _,.int_int _ _ _ _⟩
  | str x=>
   refine aB (aM e) fun y ey e2=>?_;subst e2;obtain⟨_,t,rfl⟩:=h1';obtain⟨_,_,u,rfl⟩:=h2.asStr ey;rw[←lQ];exact⟨.str_str _ _ _ _,.str_str _ _ _ _,.str_str _ _ _ _⟩
  | tup x=>
   refine aB (aD e) fun y ey e=>?_;refine gL h1' fun p1 v1 j1 e3 z1 r1 _=>?_;clear h1';subst e3;refine gL (h2.asTup ey) fun p2 v2 j2 e3 z2 r2 _=>?_;subst e3
   cases hl:Nat.beq x.length y.length with
   | false=>rw[hl] at e;exact ox e
   | true=>
    rw[hl] at e;refine fA (zH (P:=fun x y k=>EqAt A.in1 s x y k) (fun a b ra rb k p q e'=>(ih A.in1 a b ra rb k p q e' lt).eq) r1 r2 e) fun ee e1 e2 e3=>?_;have T1:=iG (h.ph.frz z1);have T2:=iG (h.ph.frz z2)
    have sz:v1.toArray.size=v2.toArray.size:=by rw[List.size_toArray,List.size_toArray,e3]
    have hr:=RcAt.tuples (A:=A) (e:=ee) T1 T2 lt2 e1;have hn:=RcNeAt.tuples (A:=A) (e:=ee) T1 T2 lt2 e1;rw[←sz,Nat.min_self,beq_self_eq_true,Bool.and_true,List.size_toArray,e2] at hr hn;refine⟨hr,?_,hn⟩
    by_cases q:p1=p2
    ·subst q
     rw[uZ (n+1) _ _ _ k h1 h2 e0];exact .same _
    ·exact .of_refs q hr
  | lst x=>
   refine aB (aD e) fun y ey e=>?_;refine gL h1' fun p1 v1 j1 e3 z1 r1 _=>?_;clear h1';subst e3;refine gL (h2.asLst ey) fun p2 v2 j2 e3 z2 r2 _=>?_;subst e3;have T1:=bQ (h.ph.frz z1);have T2:=bQ (h.ph.frz z2)
   have Ln:RcAt A s (.ref p1) (.ref p2) k∧RcNeAt A s (.ref p1) (.ref p2) (!k):=by
    cases hl:Nat.beq x.length y.length with
    | false=>
     rw[hl] at e;obtain rfl:=so e;have ne:(v1.toArray.size != v2.toArray.size)=true:=bne_iff_ne.mpr (by rw[r1.size,r2.size];exact Nat.ne_of_beq_eq_false hl);exact⟨RcAt.lists_lengths T1 T2 ne lt2,RcNeAt.lists_lengths T1 T2 ne lt2⟩
    | true=>
     rw[hl] at e;refine fA (zH (P:=fun x y k=>EqAt A.in1 s x y k) (fun a b ra rb k p q e'=>(ih A.in1 a b ra rb k p q e' lt).eq) r1 r2 e) fun ee e1 e2 e3=>?_
     have sz:v1.toArray.size=v2.toArray.size:=by rw[List.size_toArray,List.size_toArray,e3]
     have hr:=RcAt.lists (A:=A) (e:=ee) T1 T2 sz lt2 e1;have hn:=RcNeAt.lists (A:=A) (e:=ee) T1 T2 sz lt2 e1;rw[List.size_toArray,e2] at hr hn;exact⟨hr,hn⟩
   refine⟨Ln.1,?_,Ln.2⟩
   by_cases q:p1=p2
   ·subst q
    rw[uZ (n+1) _ _ _ k h1 h2 e0];exact .same _
   ·exact .of_refs q Ln.1
  | _=>exact ox e
end
end
section
variable{Θ:Mn}
section
variable{W:Wd}{n:Nat}{O:Orc}{E:Ev}{st:St}{A A':Around}{env:Env}{Φ:Fm}{F:Fz}{s:Shared}{X:Value→Shared→Prop}{Q:Value→Shared→Prop}{a b:V}{c:Bool}{ra rb:Value}
noncomputable def eqS(a:List Nat):Value→Bool
 | .str x _=>x==⟨a.toArray⟩
 | _=>false
theorem Au{a:List Nat}{t:Tok}(A:Around){l:List V}:∀{vs:List Value} {c:Bool},VRs F l vs→Op a l=some c→(∀y∈vs.toArray,EqAt A s y (.str ⟨a.toArray⟩ t) (eqS a y))∧vs.toArray.any (eqS a)=c:=by
 have key:∀{vs:List Value} {c:Bool},VRs F l vs→Op a l=some c→(∀y∈vs,EqAt A s y (.str ⟨a.toArray⟩ t) (eqS a y))∧vs.any (eqS a)=c:=by
  induction l with
  | nil=>
   intro vs c h e;obtain rfl:=so e;obtain rfl:=h.unnil;exact⟨fun _ h=>(nomatch h),rfl⟩
  | cons v l ih=>
   intro vs c h e;refine gX h.uncons fun r rs e2 h1 h2=>?_;subst e2;refine aB (aD e) fun b eb e=>?_;refine aB (aM e) fun c' e' e2=>?_;subst e2;obtain⟨rfl,_,u,rfl⟩:=h1.asStr eb;refine aE (ih h2 e') fun e1 e2=>?_;refine⟨fun y hy=>?_,?_⟩
   ·rcases al_mc hy with rfl|hy
    ·exact .str_str _ _ _ _
    ·exact e1 y hy
   ·rw[List.any_cons,e2,←lQ];rfl
 intro vs c h e;refine aE (key h e) fun e1 e2=>?_;exact⟨fun y hy=>e1 y (List.mem_toArray.mp hy),by rw[List.any_toArray];exact e2⟩
theorem nL(b:List Nat)(a:Nat):(!(Builtin.Str.occurrences ⟨b.toArray⟩ ⟨[a].toArray⟩ 0 (Str.mk b.toArray).length 1).isEmpty)=decide (a∈b):=StrLaws.found_one ⟨b.toArray⟩ a
theorem Fu{c:Nat}:(Str.mk [c].toArray).cps.toList=[c]:=rfl
theorem AW(a b:Nat):(!decide ([b]<[a]))=decide (a≤b):=by
 have:([b]<[a])↔b<a:=by
  constructor
  ·intro h
   cases h with
   | rel h=>exact h
   | cons h=>cases h
  ·intro h;exact List.Lex.rel h
 by_cases q:a≤b
 ·rw[bN q,cE fun z=>absurd (this.mp z) (Nat.not_lt_of_le q)];rfl
 ·rw[cE q,bN (this.mpr (Nat.lt_of_not_le q))];rfl
theorem oJ{f:Int→Int→Bool}(e:Px f a b=some c)(ha:VR F a ra)(hb:VR F b rb):∃x y t u,ra = .int x t∧rb = .int y u∧f x y=c:=by
 refine bc fun hG=>?_;refine aB (aD e) fun x ex e=>?_;refine aB (aM e) fun y ey e=>?_;obtain⟨_,t,q1⟩:=ha.asInt ex;obtain⟨_,u,q2⟩:=hb.asInt ey;refine hG ?_;clear hG;exact⟨x,y,t,u,q1,q2,e⟩
theorem Gl(e:inS a b=some c)(ha:VR F a ra)(hb:VR F b rb):∃x l t u,ra = .str ⟨[x].toArray⟩ t∧rb = .str ⟨List.toArray l⟩ u∧decide (x∈l)=c:=by
 refine bc fun hG=>?_;refine aB (aD e) fun x ex e=>?_;refine aB (aD e) fun l el e=>?_;refine aB (aM e) fun y ey e=>?_;obtain⟨_,_,t,q1⟩:=ha.asStr ex;obtain⟨_,_,u,q2⟩:=hb.asStr el;refine hG ?_;clear hG;rw[hY ey] at q1;exact⟨y,l,t,u,q1,q2,e⟩
theorem Zw(h:Rel W Φ F st s)(e:inV a b=some c)(ha:VR F a ra)(hb:VR F b rb)(hp:Q (.bool c) s):wpAny W.M A (compareOp .In ra rb) Q X s:=by
 have str:inS a b=some c→wpAny W.M A (compareOp .In ra rb) Q X s:=fun e=>by
  refine Rr (Gl e ha hb) fun x l t u e4 e5 e6=>?_;subst e4 e5 e6;exact P.in_str (by rw[nL];exact hp)
 have hb':=hb.view;clear hb
 cases b with
 | lst l=>
  refine aB (aD e) fun x ex e=>?_;obtain⟨_,_,t,rfl⟩:=ha.asStr ex;refine gL hb' fun p vs j e3 z r _=>?_;clear hb';subst e3;refine aE (Au (s:=s) (t:=t) A.in1 r e) fun e1 e2=>?_;exact in_listAt (eqS _) (bQ (h.ph.frz z)) e1 (by rw[e2];exact hp)
 | tup l=>
  refine aB (aD e) fun x ex e=>?_;obtain⟨_,_,t,rfl⟩:=ha.asStr ex;clear ex ha;refine gL hb' fun p vs j e3 z r _=>?_;clear hb';subst e3;refine aE (Au (s:=s) (t:=t) A.in1 r e) fun e1 e2=>?_;exact in_tupleAt (eqS _) (iG (h.ph.frz z)) e1 (by rw[e2];exact hp)
 | _=>exact str e
theorem Zv(e:isV a b=some c)(ha:VR F a ra)(hb:VR F b rb)(hp:Q (.bool c) s):wpAny W.M A (compareOp .Is ra rb) Q X s:=by
 have ha:=ha.view;have hb:=hb.view
 cases b with
 | none=>
  rw[show rb=_ from hb]
  cases a with
  | none=>obtain rfl:=so e;rw[show ra=_ from ha];exact is_none_none hp
  | int i=>obtain rfl:=so e;obtain⟨t,rfl⟩:=ha;exact is_int_none hp
  | str l=>obtain rfl:=so e;obtain⟨_,t,rfl⟩:=ha;exact is_str_none hp
  | obj c fs=>obtain rfl:=so e;obtain⟨p,_,_,_,rfl,_⟩:=ha;exact is_ref_none hp
  | _=>exact ox e
 | bool y=>
  rw[show rb=_ from hb];clear hb
  cases a with
  | none=>obtain rfl:=so e;rw[show ra=_ from ha];exact fun _ _ _=>hp
  | bool x=>obtain rfl:=so e;rw[show ra=_ from ha];exact is_bool hp
  | _=>exact ox e
 | _=>exact ox e
theorem Io(e:Pq a b=some c)(ha:VR F a ra)(hb:VR F b rb)(hp:Q (.bool c) s):wpAny W.M A (compareOp .IsNot ra rb) Q X s:=by
 refine aB (aD e) fun y ey e=>?_;refine aB (aM e) fun d ed e2=>?_;subst e2;have ha:=ha.view;rw[(hb.asBool ey).2];clear e ey hb
 cases a with
 | none=>obtain rfl:=so ed;rw[show ra=_ from ha];exact fun _ _ _=>hp
 | bool x=>obtain rfl:=so ed;rw[show ra=_ from ha];cases x<;>cases y<;>exact fun _ _ _=>hp
 | _=>exact ox ed
theorem xC{op:CmpOp}(h:Rel W Φ F st s)(e:aG op a b=some c)(ha:VR F a ra)(hb:VR F b rb)(hu:A.units+20<cLine)(hp:Q (.bool c) s):wpAny W.M A (compareOp op ra rb) Q X s:=by
 have hu4:A.units+4<cLine:=by lia
 clear hu
 cases op with
 | Eq=>exact (Fb h 4 A _ _ _ _ c ha hb e hu4).rc W.prog W.w X Q hp
 | NotEq=>
  refine aB (aM e) fun k e1 e2=>?_;subst e2;exact (Fb h 4 A _ _ _ _ k ha hb e1 hu4).ne W.prog W.w X Q hp
 | Lt=>obtain⟨x,y,t,u,rfl,rfl,rfl⟩:=oJ e ha hb;exact lt_int hp
 | LtE=>
  have e:leV a b=some c:=e;unfold leV at e;clear hu4
  cases q:asStr a with
  | none=>rw[q] at e;obtain⟨x,y,t,u,rfl,rfl,rfl⟩:=oJ e ha hb;exact PyProof.Rows.le_int hp
  | some l=>
   rw[q] at e;refine aB (aD e) fun x ex e=>?_;refine aB (aD e) fun m em e=>?_;refine aB (aM e) fun y ey e2=>?_;subst e2;obtain⟨_,_,t,rfl⟩:=ha.asStr q;clear q;obtain⟨_,_,u,rfl⟩:=hb.asStr em;rw[hY ex,hY ey];refine P.le_str ?_;rw[Fu,Fu,AW];exact hp
 | Gt=>obtain⟨x,y,t,u,rfl,rfl,rfl⟩:=oJ e ha hb;exact gt_int hp
 | GtE=>obtain⟨x,y,t,u,rfl,rfl,rfl⟩:=oJ e ha hb;exact PyProof.Rows.ge_int hp
 | In=>exact Zw h e ha hb hp
 | NotIn=>
  clear h hu4;refine aB (aM e) fun k ek e2=>?_;subst e2;refine Rr (Gl ek ha hb) fun x l t u e4 e5 e6=>?_;subst e4 e5 e6;exact P.notIn_str (by rw[nL];exact hp)
 | Is=>exact Zv e ha hb hp
 | IsNot=>exact Io e ha hb hp
end
end
end
section
open PySem.Calls PyProof.Rows
section
variable{Θ:Mn}
noncomputable def yY(K:Frag)(c:Addr)(a:Str):Bool:=plainGet K c a&&(hasDictIn K c&&(match findIn K (.ref c) a with|some attr=>noGet K attr|none=>false))
noncomputable def qC(K:Frag)(c:Addr)(a:Str):Bool:=findIn K (.ref c) "__getattribute__" == some (some (.builtin "BaseException.__getattribute__"))&&(findIn K (.ref c) "__getattr__" == some none&&(hasDictIn K c&&((match findIn K (.ref c) a with|some attr=>noGet K attr|none=>false)&&((clsIn K c).any fun cd=>!cd.mro.isEmpty&&cd.mro.contains (.type "BaseException")))))
noncomputable def yR(K:Frag)(c:Addr)(a:Str)(v:Value):Bool:=findIn K (.ref c) a==some (some v)&&(specialIn K v "__get__" == some none&&(handedIn v && !(copiedNames.contains a)))
noncomputable def qO(K:Frag)(C:Addr)(name:Str):Bool:=findIn K (.ref C) "__setattr__" == some (some (.builtin "object.__setattr__"))&&(plainOver K C&&(takerIn K C name==some none&&hasDictIn K C))
noncomputable def lR:List Str:=["range", "enumerate", "len", "isinstance", "list", "max", "str", "super"]
structure cM(W:Wd)(O:Orc):Prop where
 scan:O.scan=W.scan
 blt:∀x∈lR,W.mg x=none
 glob:nR W O
 attr:∀c a,eM O c a=true→yY W.K c a=true
 set:∀a,eM O O.scan a=true→qO W.K W.scan a=true
 xattr:∀c a,vY O.xattrs c a=true→qC W.K c a=true
 cattr:∀c l a v,fF c O.cattr=some l→look a l=some v→∃r,yR W.K c a r=true∧∀F:Fz,VR F v r
theorem VR.handed{F:Fz}{v:V}{r:Value}(h:VR F v r):handedIn r=true:=by
 have h:=h.view
 cases v with
 | none|bool|cls=>rw[show r=_ from h];rfl
 | int i|any=>obtain⟨_,h⟩:=h;first|(subst h;rfl)|(obtain⟨_,rfl⟩:=h;rfl)
 | str=>obtain⟨_,t,rfl⟩:=h;rfl
 | obj|tup|lst|exc=>obtain⟨_,h⟩:=h;revert h;intro h;simp only[exists_and_left] at h;rw[h.1];rfl
section
variable{W:Wd}{n:Nat}{O:Orc}{E:Ev}{st:St}{A A':Around}{env:Env}{Φ:Fm}{F:Fz}{s:Shared}{X:Value→Shared→Prop}{Q:Value→Shared→Prop}{k:V→St→Θ.T}{ke:V→St→Θ.T}
theorem wM{K:Frag}{c:Addr}{a:Str}(h:yY K c a=true):plainGet K c a=true∧hasDictIn K c=true∧∃attr,findIn K (.ref c) a=some attr∧noGet K attr=true:=by
 refine aE (aA h) fun h1 h=>?_;refine aE (aA h) fun h2 h3=>?_;revert h3
 cases findIn K (.ref c) a with
 | none=>exact fun h=>Bool.noConfusion h
 | some attr=>exact fun h=>⟨h1,h2,attr,rfl,h⟩
theorem Wl{x C:Addr}{ox od:Obj}{a:Str}{v:Value}(XK:W.K.In s.heap)(I:InstAt s.heap x ox C (some od))(ho:qC W.K C a=true)(hl:lookIn a od=some (some v))(hh:handedIn v=true)
  (hp:Q v {s with toks:=s.toks+1}):wpAny W.M A (getAttr (.ref x) a true) Q X s:=by
 refine aE (aA ho) fun o1 ho=>?_;refine aE (aA ho) fun o2 ho=>?_;refine aE (aA ho) fun o3 ho=>?_;refine aE (aA ho) fun o4 o5=>?_;have o1:=eq_of_beq o1;have o2:=eq_of_beq o2
 cases e:findIn W.K (.ref C) a with
 | none=>rw[e] at o4;exact Bool.noConfusion o4
 | some attr=>
  rw[e] at o4;have hf:findObj W.K C (some od) a=some (.value v):=findObj_own o3 e o4 hl;obtain⟨hh',g,d,t,os⟩:=s;have L0:=I.type (M:=W.M);have L1:=looks_findIn (M:=W.M) XK o1;have L2:=looks_findIn (M:=W.M) XK o2;have L3:=looks_find (M:=W.M) XK I hf;refine aB (any_some o5) fun cd hcd q=>?_;refine aE (aA q) fun q1 q2=>?_;rw[Bool.not_eq_true'] at q1;have sub:Looks W.M hh' (isInstance (.ref x) (.type "BaseException")) true:=L0.andThen (looks_mroIn XK (by unfold mroIn;rw[hcd,Option.bind_some,if_neg (by rw[q1];decide),q2]));unfold getAttr getAttrBy;refine aF (wpAny_mkText (wpAny_holding (aF (L0.at (aF (L1.at ?_))))));dsimp only;rw[if_neg (by rw[show (Value.builtin "BaseException.__getattribute__" == Value.builtin "object.__getattribute__")=false from by decide,Bool.and_false];decide)];unfold getAttrByItsOwn hookBefore;refine aF ?_;rw[if_pos (by rfl)];refine L2.at (aF (wpAny_attempt (wpAny_holding ?_)));unfold callGetattribute;rw[if_neg (by rw[show onTheHeap (Value.builtin "BaseException.__getattribute__")=false from rfl,Bool.and_false];decide)];unfold boundAndCalled;rw[PySem.F.excAttr_ValueError.ga.bind];refine aF (aP (wpAny_call (codeAny_call_builtin PySem.F.excAttr_ValueError.ga.plain PySem.F.entry_bexc_ga (@check_slot W.M _ _ _ "BaseException.__getattribute__" "BaseException" "__getattribute__" (.ref x) [.str a t] [] _ (by decide +kernel) (by decide +kernel) sub (PySem.F.args_bexc_ga _ _) ?_))));unfold Builtin.«object.__getattribute__»;refine aF (aP (a:=(Value.ref x,[Value.str a t])) ?_);refine aF (aP (a:=a) (aF (L0.at (aF (L3.at ?_)))));refine aP ?_;show wpAny _ _ (handedOut v) _ _ _;rw[handedOut_of hh];exact aP hp
theorem pZ{x C:Addr}{ox:Obj}{es:List DictEntry}{j:Nat}{a:Str}{r:Value}(h:Rel W Φ F st s)(I:InstAt s.heap x ox C (some (dictOf es j)))(ho:yY W.K C a=true)(hl:getL a es=some (some r))(hh:handedIn r=true)
  (hp:Q r {s with toks:=s.toks+1}):wpAny W.M A (getAttr (.ref x) a true) Q X s:=by
 refine bc fun hG=>?_;obtain⟨h1,h2,attr,h3,h4⟩:=wM ho;refine fA h.frm fun m _ _ fr=>?_;refine hG ?_;clear hG;exact get_own fr W.X I h1 h2 h3 h4 hl hh hp
theorem FRv.getL{a:Str}{fl:List (Str×V)}:∀{es:List DictEntry},FRv F fl es→(look a fl).elim (PySem.W.getL a es=some none) fun v=>∃r,PySem.W.getL a es=some (some r)∧VR F v r:=by
 induction fl with
 | nil=>intro es h;cases h;rfl
 | cons p fl ih=>
  intro es h
  cases h with
  | @cons y hh t v r _ es h h'=>
   have ih:=ih h';show (if y=a then some v else look a fl).elim _ _
   by_cases q:y=a
   ·subst q
    rw[if_pos rfl];refine⟨r,?_,h⟩;unfold PySem.W.getL;rw[List.find?_cons,show (Value.str y t).isStr y=true from pV.mpr rfl]
   ·rw[if_neg q]
    have e:PySem.W.getL a (⟨hh,Value.str y t,r⟩::es)=PySem.W.getL a es:=by
     unfold PySem.W.getL;rw[List.find?_cons,List.any_cons];dsimp only;rw[tT q];rfl
    rw[e];exact ih
theorem VR.instAt(h:Rel W Φ F st s){c a d:Addr}{es:List DictEntry}{j:Nat}(z1:F.H a = .frz (instObj c d))(z2:F.H d = .frz (dictOf es j)):InstAt s.heap a (instObj c d) c (some (dictOf es j)):=⟨h.ph.frz z1,rfl,rfl,h.ph.frz z2⟩
theorem zS(T:cM W O){c:Nat}{fs:List (Str×V)}{a:Str}{v:V}{r:Value}(h:Rel W Φ F st s)(hc:eM O c a=true)(e:rL O c fs a=some v)(hv:VR F (.obj c fs) r)(hp:gY W Φ F st v Q):wpAny W.M A (getAttr r a true) Q X s:=by
 refine DJ hv.view fun p d es j e4 z1 z2 fr=>?_;subst e4;have I:=VR.instAt h z1 z2;have g:=fr.getL (a:=a);unfold rL at e
 cases q:look a fs with
 | some w=>
  rw[q] at e g;refine bc fun hG=>?_;obtain rfl:=so e;refine aB g fun r' g1 g2=>?_;clear g;refine hG ?_;clear hG;exact pZ h I (T.attr _ _ hc) g1 g2.handed (hp.tok h g2 _)
 | none=>
  rw[q] at e g;refine bc fun hG=>?_;refine aB (aD e) fun l e1 e2=>?_;refine aB (T.cattr _ _ _ _ e1 e2) fun r' q hv=>?_;refine aE (aA q) fun q1 q=>?_;refine aE (aA q) fun q2 q=>?_;refine aE (aA q) fun q3 q4=>?_;refine kG (wM (T.attr _ _ hc)) fun p1 p2 _=>?_;refine fA h.frm fun m _ _ f=>?_;refine hG ?_;clear hG;exact get_cls f W.X I p1 p2 (eq_of_beq q1) (eq_of_beq q2) q3 (by rw[Bool.not_eq_true'] at q4;exact q4) g (hp.tok h (hv _) _)
theorem pF(T:cM W O){v:V}{a:Str}{c:V}{r:Value}(h:Rel W Φ F st s)(e:eJ O v a=some c)(hv:VR F v r)(hp:gY W Φ F st c Q):wpAny W.M A (getAttr r a true) Q X s:=by
 cases v with
 | obj c fs=>
  have e:(match eM O c a with|true=>rL O c fs a|false=>none)=some _:=e
  cases hc:eM O c a with
  | true=>rw[hc] at e;exact zS T h hc e hv hp
  | false=>rw[hc] at e;exact ox e
 | exc c fs=>
  have e:(match vY O.xattrs c a with|true=>look a fs|false=>none)=some _:=e
  cases hc:vY O.xattrs c a with
  | true=>
   rw[hc] at e;have e:look a fs=some _:=e;refine e5a6 hv.view fun ae de oe es j e5 z1 z2 z3 z4 z5 fr=>?_;subst e5;have g:=fr.getL (a:=a);rw[e] at g;refine aB g fun r' g1 g2=>?_;clear g;have I:InstAt s.heap ae oe c (some (dictOf es j)):=⟨h.ph.frz z1,z2,z4,by rw[z3];exact h.ph.frz z5⟩;exact Wl h.ph.inK I (T.xattr _ _ hc) g1 g2.handed (hp.tok h g2 _)
  | false=>rw[hc] at e;exact ox e
 | _=>exact ox e
end
end
section
variable{Θ:Mn}
theorem oO{α:Type}{o:Option α}{P:α→Prop}(q:o.elim True P){a:α}(h:o=some a):P a:=by
 rw[h] at q;exact q
theorem bM{e:PySem.Expr}{x:Str}(h:cR e=some x):∃p,e = .Name x p:=
 oO (P:=fun x=>∃p,e = .Name x p) (by cases e<;>first|exact trivial|exact⟨_,rfl⟩) h
theorem mP{e b:PySem.Expr}{a:Str}(h:wF e=some (b,a)):∃p,e = .Attribute b a p:=
 oO (P:=fun q=>∃p,e = .Attribute q.1 q.2 p) (by cases e<;>first|exact trivial|exact⟨_,rfl⟩) h
theorem Ta{prog:Program}{w:World}{A:Around}{env:Env}{s:Shared}{X Q:Value→Shared→Prop}{b:PySem.Expr}{a:Str}{p:Pos}(hb:Oh b=true)(h:wpAny (model prog w) A (eval b env) (fun o s₁=>wpAny (model prog w) A (getAttr o a true) Q X s₁) X s):wpAny (model prog w) A (eval (.Attribute b a p) env) Q X s:=by
 cases b with
 | Name x q=>exact Attribute_Name_ h
 | Attribute x y q=>exact Attribute_any_ h
 | Subscript x y q=>exact Attribute_any_ h
 | _=>exact Bool.noConfusion hb
section
variable{W:Wd}{n:Nat}{O:Orc}{E:Ev}{st:St}{A A':Around}{env:Env}{Φ:Fm}{F:Fz}{s:Shared}{X:Value→Shared→Prop}{Q:Value→Shared→Prop}{k:V→St→Θ.T}{ke:V→St→Θ.T}
theorem nE{sc:Scope}{x:Str}(h:xI sc x st=true):cB sc x=true∧look x st.loc=some .self:=by
 refine aE (aA h) fun h1 h2=>?_;refine⟨h1,?_⟩;revert h2
 cases look x st.loc with
 | none=>exact fun h=>Bool.noConfusion h
 | some sl=>
  cases sl with
  | self=>exact fun _=>rfl
  | _=>exact fun h=>Bool.noConfusion h
theorem gQ{sc:Scope}{e:PySem.Expr}{q:Str×Slot}(h:bH O sc e st=some q):∃x p p',e = .Attribute (.Name x p) q.1 p'∧cB sc x=true∧look x st.loc=some .self∧eM O O.scan q.1=true∧look q.1 st.flds=some q.2:=by
 obtain⟨⟨b,a⟩,e1,h⟩:=aD h;refine bG (mP e1) fun p' e1=>?_;subst e1;have h:(match Fk sc b st&&eM O O.scan a with|true=>(look a st.flds).map fun sl=>(a,sl)|false=>none)=some q:=h
 cases c:Fk sc b st&&eM O O.scan a with
 | false=>rw[c] at h;exact ox h
 | true=>
  rw[c] at h;refine aB (aM h) fun sl hl e2=>?_;subst e2;refine aE (aA c) fun c1 c2=>?_;unfold Fk at c1
  cases en:cR b with
  | none=>rw[en] at c1;exact bx c1
  | some x=>
   rw[en] at c1;refine bG (bM en) fun p e1=>?_;subst e1;refine aE (nE c1) fun d1 d2=>?_;exact⟨x,p,p',rfl,d1,d2,c2,hl⟩
theorem nV(C:Ctx n A env Φ)(h:Rel W Φ F st s){x:Str}{p:Pos}(hx:cB env.scope x=true)(hl:look x st.loc=some .self)(hq:∀y,F.me=some y→Q (.ref y) s):wpAny W.M A' (eval (.Name x p) env) Q X s:=by
 refine aB h.loc fun m e0 l=>?_;refine aB (l x _ hl) fun y hm e=>?_;exact nW C h hx e0 hm (hq y e)
theorem eX.instAt{fl:aL}{x d:Addr}{es:List DictEntry}{j:Nat}(g:eX W F fl x d es j)(h:Rel W Φ F st s):InstAt s.heap x (instObj W.scan d) W.scan (some (dictOf es j)):=⟨h.ph.frz g.inst,rfl,rfl,(h.ph.own g.dict).1⟩
theorem Rel.focAt(h:Rel W Φ F st s){x:Addr}(hm:F.me=some x):∃d es j,eX W F st.flds x d es j:=by
 rcases h.foc with ⟨q,_⟩|⟨y,d,es,j,g⟩
 ·rw[q] at hm;exact ox hm
 ·rw[g.me] at hm;obtain rfl:=so hm;exact⟨d,es,j,g⟩
theorem eX.has{fl:aL}{x d:Addr}{es:List DictEntry}{j:Nat}(g:eX W F fl x d es j){a:Str}{sl:Slot}(e:look a fl=some sl):∃r,getL a es=some (some r)∧QR F x a sl r:=by
 have:=g.fld a;rw[e] at this;exact this
theorem eX.hasnt{fl:aL}{x d:Addr}{es:List DictEntry}{j:Nat}(g:eX W F fl x d es j){a:Str}(e:look a fl=none):getL a es=some none:=by
 have:=g.fld a;rw[e] at this;exact this
theorem QR.handed{me:Addr}{x:Str}{sl:Slot}{r:Value}(h:QR F me x sl r):handedIn r=true:=by
 cases h with
 | val h=>exact h.handed
 | lst=>rfl
 | dct=>rfl
theorem fD(T:cM W O)(C:Ctx n A env Φ)(h:Rel W Φ F st s){e:PySem.Expr}{q:Str×Slot}(ho:bH O env.scope e st=some q)
  (hq:∀r x d es j,eX W F st.flds x d es j→getL q.1 es=some (some r)→QR F x q.1 q.2 r→Q r {s with toks:=s.toks+1}):wpAny W.M A' (eval e env) Q X s:=by
 refine Bz (gQ ho) fun x p p' e3 hx hl ha hf=>?_;subst e3;refine Attribute_Name_ (nV C h hx hl fun y hy=>?_);refine jS (h.focAt hy) fun d es j g=>?_;refine aB (g.has hf) fun r g1 g2=>?_;exact pZ h (g.instAt h) (T.attr _ _ (T.scan▸ha)) g1 g2.handed (hq r y d es j g g1 g2)
theorem QR.ofVal{me:Addr}{x:Str}{v:V}{r:Value}(h:QR F me x (.val v) r):VR F v r:=by
 cases h with
 | val h=>exact h
theorem QR.ofLst{me:Addr}{x:Str}{l:List V}{r:Value}(h:QR F me x (.lst l) r):∃a vs j,r = .ref a∧F.la me x=some a∧F.H a = .own (.fld me (some x)) (listOf (List.toArray vs) j)∧VRs F l vs∧l.length≤aO:=by
 cases h with
 | lst a b c d=>exact⟨_,_,_,rfl,a,b,c,d⟩
theorem QR.ofDct{me:Addr}{x:Str}{l:List (Int×V)}{r:Value}(h:QR F me x (.dct l) r):∃a es j,r = .ref a∧F.H a = .own (.fld me (some x)) (dictOf es j)∧DR F l es∧l.length≤aO∧(l.map (·.1)).Nodup:=by
 cases h with
 | dct a b c d=>exact⟨_,_,_,rfl,a,b,c,d⟩
theorem sJ(T:cM W O)(C:Ctx n A env Φ)(h:Rel W Φ F st s){e:PySem.Expr}{q:Str×Slot}{v:V}(ho:bH O env.scope e st=some q)(hv:q.2 = .val v)(hp:gY W Φ F st v Q):wpAny W.M A' (eval e env) Q X s:=
 fD T C h ho fun r x d es j _ _ z=>hp.tok h (by rw[hv] at z;exact z.ofVal) _
theorem nC(T:cM W O)(C:Ctx n A env Φ)(h:Rel W Φ F st s){e:PySem.Expr}{q:Str×Slot}{l:List V}(ho:bH O env.scope e st=some q)(hv:q.2 = .lst l)
  (hp:∀a vs j,s.heap.get? a=some (listOf (List.toArray vs) j)→VRs F l vs→l.length≤aO→Q (.ref a) {s with toks:=s.toks+1}):wpAny W.M A' (eval e env) Q X s:=
 fD T C h ho fun r x d es j _ _ z=>by
  rw[hv] at z;refine Bz z.ofLst fun a vs i e3 _ z2 z3 z4=>?_;subst e3;exact hp a vs i (h.ph.own z2).1 z3 z4
theorem Nh(T:cM W O)(HE:aR W n E.eval){b:PySem.Expr}{a:Str}{p:Pos}(hk:Θ.m (Tc O E env.scope (.Attribute b a p) b a st Θ.T k ke Θ.z))(C:Ctx n A env Φ)(h:Rel W Φ F st s)(P:bJ 2 VR W Φ F k ke Q X) :
  wpAny W.M A (eval (.Attribute b a p) env) Q X s:=by
 unfold Tc at hk
 cases ho:bH O env.scope (.Attribute b a p) st with
 | some q=>
  rw[ho] at hk;have hk:Θ.m (Yc st q.2 Θ.T k ke Θ.z):=hk
  cases hs:q.2 with
  | val v=>rw[hs] at hk;exact sJ T C h ho hs fun x h v=>P.ok x h v hk
  | _=>rw[hs] at hk;exact (Θ.nz hk).elim
 | none=>
  rw[ho] at hk;refine aE (aS hk) fun hb hk=>?_
  exact Ta hb (HE hk C h ⟨fun x h1 hv hk=>by
   refine aB (aC hk) fun c e hk=>?_
   exact pF T h1 e hv fun x2 h2 v2=>P.ok (x.trans x2) h2 v2 hk,P.err⟩)
theorem Hv{M:Model}{v:Value}(h:wpAny M A (truthy v) (fun b s=>Q (.bool (!b)) s) X s):wpAny M A (unaryOp .Not v) Q X s:=by
 unfold unaryOp;refine wpAny_holding ?_;show wpAny M A (do return Value.bool (!(←truthy v))) Q X s;exact aF (wpAny_mono h (fun _ _ h=>aP h) fun _ _ z=>z)
theorem vD(T:cM W O)(C:Ctx n A env Φ)(h:Rel W Φ F st s){e:PySem.Expr}{q:Str×Slot}{k:Bool→St→Θ.T}{Q:Bool→Shared→Prop}(ho:bH O env.scope e st=some q)(hk:Θ.m (Yd st q.2 Θ.T k ke Θ.z))(hp:∀b t,Θ.m (k b st)→Q b {s with toks:=t}) :
  wpAny W.M A (eval e env) (fun v s₁=>wpAny W.M A (truthy v) Q X s₁) X s:=by
 cases hs:q.2 with
 | val v=>
  rw[hs] at hk;refine aB (aC hk) fun b hb hk=>?_;exact fD T C h ho fun r x d es j _ _ z=>lX (h.toks _) hb (by rw[hs] at z;exact z.ofVal) fun t=>hp b t hk
 | lst l=>
  rw[hs] at hk;exact nC T C h ho hs fun a vs j z1 z2 z3=>sG z1 z2 z3 fun t=>hp _ t hk
 | _=>rw[hs] at hk;exact (Θ.nz hk).elim
theorem Uf(T:cM W O)(HE:aR W n E.eval){x:PySem.Expr}{p:Pos}(hk:Θ.m (AM O E env.scope x st Θ.T k ke Θ.z))(C:Ctx n A env Φ)(h:Rel W Φ F st s)(P:bJ 2 VR W Φ F k ke Q X):wpAny W.M A (eval (.UnaryOp .Not x p) env) Q X s:=by
 show wpAny W.M A (do let v ←eval x env;standAt p;holding [v] (unaryOp .Not v)) Q X s;refine aF ?_;have go:∀{v:Value} {s:Shared},wpAny W.M A (truthy v) (fun b s=>Q (.bool (!b)) s) X s→wpAny W.M A (do standAt p;holding [v] (unaryOp .Not v)) Q X s:=fun h=>aF (wpAny_standAt (wpAny_holding (Hv h)));unfold AM at hk
 cases ho:bH O env.scope x st with
 | some q=>
  rw[ho] at hk;refine wpAny_mono (vD T C h ho (k:=fun b st=>k (.bool (!b)) st) (ke:=ke) (Q:=fun b s=>Q (.bool (!b)) s) ?_ fun b t hk=>P.here (h.toks t) (.bool _) hk) (fun _ _ z=>go z) fun _ _ z=>z;obtain⟨a,sl⟩:=q
  cases sl with
  | lst l=>show Θ.m (k (.bool (!(!bU l))) st);rw[Bool.not_not];exact hk
  | val v=>
   refine aB (aC hk) fun b hb hk=>?_;show Θ.m (R.ofOpt (cF v) st Θ.T _ ke _);rw[hb];exact hk
  | _=>exact hk
 | none=>
  rw[ho] at hk
  exact HE hk C h ⟨fun x h1 hv hk=>by
   refine aB (aC hk) fun b hb hk=>?_
   exact go (lX h1 hb hv fun t=>P.ok x (h1.toks t) (.bool _) hk),P.err⟩
theorem Mm(HE:aR W n E.eval){x:PySem.Expr}{p:Pos}(hk:Θ.m ((R.bind (E.eval env.scope x st) fun v st=>R.ofOpt (Xx v) st) Θ.T k ke Θ.z))(C:Ctx n A env Φ)(h:Rel W Φ F st s)(P:bJ 2 VR W Φ F k ke Q X):wpAny W.M A (eval (.UnaryOp .USub x p) env) Q X s:=by
 show wpAny W.M A (do let v ←eval x env;standAt p;holding [v] (unaryOp .USub v)) Q X s;refine aF (HE hk C h ⟨fun x h1 hv hk=>?_,P.err⟩);refine aB (aC hk) fun c e hk=>?_;refine aB (aM e) fun i ei e2=>?_;subst e2;obtain⟨_,t,rfl⟩:=hv.asInt ei;exact aF (wpAny_standAt (wpAny_holding (PyProof.Rows.neg_int (P.ok x (h1.toks _) (.int _ _) hk))))
theorem Iz(Y:Ls W)(HE:aR W (n+1) E.eval){l r:PySem.Expr}{op:Operator}{p:Pos}(hk:Θ.m ((R.bind (E.eval env.scope l st) fun a st=>R.bind (E.eval env.scope r st) fun b st=>R.ofOpt (DY op a b) st) Θ.T k ke Θ.z))(C:Ctx (n+1) A env Φ)(h:Rel W Φ F st s)(P:bJ 2 VR W Φ F k ke Q X) :
  wpAny W.M A (eval (.BinOp l op r p) env) Q X s:=
 wpAny_BinOp (HE hk C h ⟨fun x1 h1 v1 k1=>HE k1 C h1 ⟨fun x2 h2 v2 k2=>by
  refine aB (aC k2) fun c e hk=>?_
  exact Uj Y h2 (by have:=C.units;exact zu ‹_›) e (v1.mono x2.le) v2 fun x3 h3 v3=>P.ok (x1.trans (x2.trans x3)) h3 v3 hk,(P.ext x1).err⟩,P.err⟩)
theorem Iq(HT:jU W n E.test)(HE:aR W n E.eval){t a b:PySem.Expr}{p:Pos}(hk:Θ.m (wE O E env.scope (.IfExp t a b p) st Θ.T k ke Θ.z))(C:Ctx n A env Φ)(h:Rel W Φ F st s)(P:bJ 2 VR W Φ F k ke Q X):wpAny W.M A (eval (.IfExp t a b p) env) Q X s:=
 wpAny_IfExp (HT hk C h ⟨fun {c} _ _ _ _ x h1 e hk=>by
  cases e
  cases c with
  | true=>rw[if_pos rfl];exact HE hk C h1 (P.ext x)
  | false=>rw[if_neg Bool.false_ne_true];exact HE hk C h1 (P.ext x),P.err⟩)
end
end
section
variable{Θ:Mn}
section
variable{W:Wd}{n:Nat}{O:Orc}{E:Ev}{st:St}{A A':Around}{env:Env}{Φ:Fm}{F:Fz}{s:Shared}{X:Value→Shared→Prop}{Q:Value→Shared→Prop}{k:V→St→Θ.T}{ke:V→St→Θ.T}
noncomputable def dU(E:Ev):Prop:=∀sc a b st,E.eval sc (.Starred a b) st=R.bad
theorem mW{e:PySem.Expr}(h:dA e=false)(r:List PySem.Expr):starEach (e::r) env=(false,eval e env)::starEach r env:=by
 cases e with
 | Starred x y=>exact Bool.noConfusion h
 | _=>rfl
theorem noStar(NS:dU E){e:PySem.Expr}{sc:Scope}{k:V→St→Θ.T}(h:Θ.m (E.eval sc e st Θ.T k ke Θ.z)):dA e=false:=by
 cases e with
 | Starred a b=>rw[NS] at h;exact (Θ.nz h).elim
 | _=>rfl
theorem vE(NS:dU E)(HE:aR W n E.eval)(C:Ctx n A env Φ){p:Pos}{es:List PySem.Expr}:∀{st:St} {F:Fz} {s:Shared} {k:List V→St→Θ.T} {Q:List Value→Shared→Prop},Θ.m (lO (E.eval env.scope) es st Θ.T k ke Θ.z)→Rel W Φ F st s→
  bJ 2 VRs W Φ F k ke (fun rs s=>rs.length=es.length→Q rs s) X→wpAny W.M A (spliced (backTo p (starEach es env))) Q X s:=by
 induction es with
 | nil=>exact fun hk h P=>Calls.spliced_nil (P.here h .nil hk rfl)
 | cons e r ih=>
  intro st F s k Q hk h P;rw[mW (noStar NS hk)];exact Calls.spliced_cons (HE hk C h ⟨fun x h1 v1 k1=>ih k1 h1 ⟨fun x2 h2 v2 k2 l=>P.ok (x.trans x2) h2 (.cons (v1.mono x2.le) v2) k2 (congrArg Nat.succ l),(P.ext x).err⟩,P.err⟩)
theorem zY(NS:dU E)(HE:aR W n E.eval)(C:Ctx n A env Φ){p:Pos}{es:List PySem.Expr}{f:List V→V}{g:List Value→Obj}(hf:∀{F:Fz} {l:List V} {vs:List Value} {a:Addr},F.H a = .frz (g vs)→VRs F l vs→l.length≤aO→VR F (f l) (.ref a))(hg:∀vs,(g vs).isFreed=false)
  (hk:Θ.m (ifB (Nat.ble es.length 100) (R.bind (lO (E.eval env.scope) es st) fun vs st=>R.ok (f vs) st) Θ.T k ke Θ.z)) (h:Rel W Φ F st s) (P:bJ 2 VR W Φ F k ke Q X)
  : wpAny W.M A (spliced (backTo p (starEach es env))) (fun rs s₁=>rs.toArray.size≤sizeLine∧Q (.ref s₁.heap.objs.size) {s₁ with heap:=s₁.heap.push (g rs)}) X s:=by
 refine aE (aS hk) fun hl hk=>?_;have hl:=eQ hl;refine vE NS HE C hk h ⟨fun x h1 v1 k1 l=>?_,P.err⟩;have hz:=l▸hl;obtain⟨h2,x2⟩:=h1.alloc (b:=2) (d:=Φ.d) (hg _);refine⟨by rw[List.size_toArray,sizeLine_eq];exact aJ hz (by decide),P.ok (x.trans x2) h2 (hf (Fz.set_self _ _ _) (v1.mono x2.le) (by rw[←v1.length];exact aJ hz (by decide))) k1⟩
theorem Ie(NS:dU E)(HE:aR W n E.eval){es:List PySem.Expr}{i:Nat}{p:Pos}(hk:Θ.m (wE O E env.scope (.Tuple es i p) st Θ.T k ke Θ.z))(C:Ctx n A env Φ)(h:Rel W Φ F st s)(P:bJ 2 VR W Φ F k ke Q X):wpAny W.M A (eval (.Tuple es i p) env) Q X s:=
 PyProof.Rows.Tuple_ (wpAny_mono (zY NS HE C (f:=.tup) (g:=fun rs=>kN rs.toArray 0) (fun a b c=>.tup a b c) (fun _=>rfl) hk h P) (fun _ _ z=>wpAny_newObj_type z.2 z.1) fun _ _ z=>z)
theorem Mw(NS:dU E)(HE:aR W n E.eval){es:List PySem.Expr}{p:Pos}(hk:Θ.m (wE O E env.scope (.List es p) st Θ.T k ke Θ.z))(C:Ctx n A env Φ)(h:Rel W Φ F st s)(P:bJ 2 VR W Φ F k ke Q X):wpAny W.M A (eval (.List es p) env) Q X s:=
 PyProof.Rows.List_ (wpAny_mono (zY NS HE C (f:=.lst) (g:=fun rs=>listOf rs.toArray 0) (fun a b c=>.lst a b c) (fun _=>rfl) hk h P) (fun _ _ z=>wpAny_newObj_type z.2 z.1) fun _ _ z=>z)
set_option backward.match.sparseCases true in
theorem Ix(HE:aR W n E.eval){op:BoolOp}{p:Pos}(C:Ctx n A env Φ){es:List PySem.Expr}:∀{st:St} {F:Fz} {s:Shared},Θ.m (Sp (E.eval env.scope) op es st Θ.T k ke Θ.z)→Rel W Φ F st s→bJ 2 VR W Φ F k ke Q X→wpAny W.M A (boolOp p op (evalEach es env)) Q X s:=by
 induction es with
 | nil=>exact fun hk _ _=>(Θ.nz hk).elim
 | cons e r ih=>
  intro st F s hk h P
  cases r with
  | nil=>exact HE hk C h P
  | cons e2 r=>
   show wpAny W.M A (do let v ←eval e env;standAt p;let t ←holding [v] (truthy v);match op,t with | .And,false | .Or,true=>pure v|_,_=>boolOp p op (evalEach (e2::r) env)) Q X s;refine aF (HE hk C h ⟨fun x h1 v1 k1=>aF (wpAny_standAt (aF (wpAny_holding ?_))),P.err⟩);refine aB (aC k1) fun b hb hk=>?_;refine lX h1 hb v1 fun t=>?_;clear C HE h hb k1 s
   cases b<;>cases op
   ·exact aP (P.ok x (h1.toks t) v1 hk)
   ·exact ih hk (h1.toks t) (P.ext x)
   ·exact ih hk (h1.toks t) (P.ext x)
   ·exact aP (P.ok x (h1.toks t) v1 hk)
set_option backward.match.sparseCases true in
theorem Iy{k:Bool→St→Θ.T}{Q:Bool→Shared→Prop}(HT:jU W n E.test){op:BoolOp}(C:Ctx n A env Φ){es:List PySem.Expr}:∀{st:St} {F:Fz} {s:Shared},Θ.m (Sq (E.test env.scope) op es st Θ.T k ke Θ.z)→Rel W Φ F st s→bJ 2 Jn W Φ F k ke Q X→wpAny W.M A (allTrue op es env) Q X s:=by
 induction es with
 | nil=>
  intro st F s hk h P
  cases op<;>exact aP (P.here h rfl hk)
 | cons e r ih=>
  intro st F s hk h P;show wpAny W.M A (do match op,←isTrue e env (eval e env) with | .And,false=>pure false | .Or,true=>pure true|_,_=>allTrue op r env) Q X s;refine aF (HT hk C h ⟨fun {b} _ _ _ _ x h1 e1 k1=>?_,P.err⟩);clear C HT h hk s st
  cases e1
  cases b<;>cases op
  ·exact aP (P.ok x h1 rfl k1)
  ·exact ih k1 h1 (P.ext x)
  ·exact ih k1 h1 (P.ext x)
  ·exact aP (P.ok x h1 rfl k1)
theorem hJ(ops:List CmpOp):∀(rs:List PySem.Expr),rs.any lE=false→lastMarks ops rs=false:=by
 induction ops with
 | nil=>intro rs _;simp [lastMarks]
 | cons op ops ih=>
  intro rs h
  cases rs with
  | nil=>simp [lastMarks]
  | cons e rs=>
   rw[List.any_cons,Bool.or_eq_false_iff] at h
   cases ops with
   | nil=>
    cases rs with
    | nil=>
     show behindInMarks op e=false;have h':=h.1
     cases e<;>first|rfl|exact tz h'
    | cons=>simp [lastMarks]
   | cons o ops=>exact ih rs h.2
theorem Iw(HE:aR W (n+1) E.eval)(C:Ctx (n+1) A env Φ){α:Type}{ch:Value→List CmpOp→List PySem.Expr→Sem α}{Z:Bool→Shared→Prop}{Q:α→Shared→Prop}
  (lc:∀{ra:Value} {op:CmpOp} {r:PySem.Expr} {s:Shared},wpAny W.M A (eval r env) (fun rb s₁=>wpAny W.M A (compareOp op ra rb) (fun c s₂=>∃b,c = .bool b∧Z b s₂) X s₁) X s→wpAny W.M A (ch ra [op] [r]) Q X s)
  (ll:∀{ra:Value} {op op':CmpOp} {ops:List CmpOp} {r r':PySem.Expr} {rs:List PySem.Expr} {s:Shared},wpAny W.M A (eval r env) (fun rb s₁=>wpAny W.M A (compareOp op ra rb) (fun c s₂=>∃b,c = .bool b∧(b=true→wpAny W.M A (ch rb (op'::ops) (r'::rs)) Q X s₂)∧(b=false→Z false s₂)) X s₁) X s→wpAny W.M A (ch ra (op::op'::ops) (r::r'::rs)) Q X s)
  {ops:List CmpOp}:∀{rs:List PySem.Expr} {a:V} {ra:Value} {st:St} {F:Fz} {s:Shared} {k:Bool→St→Θ.T},Θ.m (uF (E.eval env.scope) ops rs a st Θ.T k ke Θ.z)→Rel W Φ F st s→VR F a ra→bJ 2 Jn W Φ F k ke Z X→wpAny W.M A (ch ra ops rs) Q X s:=by
 induction ops with
 | nil=>exact fun hk _ _ _=>(Θ.nz hk).elim
 | cons op ops ih=>
  intro rs a ra st F s k hk h ha P
  cases rs with
  | nil=>exact (Θ.nz hk).elim
  | cons r rs=>
   have hu:∀{c b:Bool},A.units+20<cLine:=zu C.units
   cases ops with
   | nil=>
    cases rs with
    | nil=>
     exact lc (HE hk C h ⟨fun x h1 v1 k1=>by
      refine aB (aC k1) fun c e k1=>?_
      exact xC h1 e (ha.mono x.le) v1 (hu (c:=c) (b:=c)) ⟨c,rfl,P.ok x h1 rfl k1⟩,P.err⟩)
    | cons=>exact (Θ.nz hk).elim
   | cons op' ops=>
    clear lc
    cases rs with
    | nil=>exact (Θ.nz hk).elim
    | cons r' rs=>
     exact ll (HE hk C h ⟨fun x h1 v1 k1=>by
      refine aB (aC k1) fun c e k1=>?_;refine xC h1 e (ha.mono x.le) v1 (hu (c:=c) (b:=c)) ⟨c,rfl,fun q=>?_,fun q=>?_⟩
      ·clear C HE e h ha hk hu ll
       subst q;exact ih k1 h1 v1 (P.ext x)
      ·clear C HE e h ha hk hu ll v1
       subst q;exact P.ok x h1 rfl k1,P.err⟩)
end
end
section
variable{Θ:Mn}
inductive DV(F:Fz):List (Int×V)→List (Int×Value)→Prop
 | nil:DV F [] []
 | cons {i:Int} {v:V} {r:Value} {l:List (Int×V)} {ks:List (Int×Value)}:VR F v r→DV F l ks→DV F ((i,v)::l) ((i,r)::ks)
section
variable{F:Fz}{prog:Program}{w:World}
theorem DV.keys{l:List (Int×V)}{ks:List (Int×Value)}(h:DV F l ks):ks.map (·.1)=l.map (·.1):=by
 induction h with
 | nil=>rfl
 | cons _ _ ih=>rw[List.map_cons,List.map_cons,ih]
theorem DV.length{l:List (Int×V)}{ks:List (Int×Value)}(h:DV F l ks):ks.length=l.length:=by
 rw[←List.length_map (f:=(·.1)),h.keys,List.length_map]
theorem DV.at{i:Int}{l:List (Int×V)}{ks:List (Int×Value)}(h:DV F l ks):(cX i l).elim (valueAt ks i=none) fun v=>∃r,valueAt ks i=some r∧VR F v r:=by
 induction h with
 | nil=>rfl
 | @cons j v r l ks h h' ih=>
  show (if j=i then some v else cX i l).elim _ _;unfold valueAt at ih ⊢;rw[List.find?_cons]
  by_cases q:j=i
  ·rw[if_pos q,bN q]
   exact⟨r,rfl,h⟩
  ·rw[if_neg q,cE q]
   exact ih
theorem DV.isSome{i:Int}{l:List (Int×V)}{ks:List (Int×Value)}(h:DV F l ks):(valueAt ks i).isSome=(cX i l).isSome:=by
 have:=h.at (i:=i);revert this;clear h
 cases cX i l with
 | none=>exact fun q=>by rw[show valueAt ks i=none from q];rfl
 | some v=>exact fun ⟨r,q,_⟩=>by rw[q];rfl
theorem DR.pairs{l:List (Int×V)}{es:List DictEntry}(h:DR F l es):∃ks,DV F l ks∧Pairs (intKind prog w) es ks∧∀e∈es,∃k,(intKind prog w).is k e.key=true∧e.hash=(intKind prog w).hash k:=by
 induction h with
 | nil=>exact⟨[],.nil,.nil,fun _ h=>(nomatch h)⟩
 | @cons i t v r l es h h' ih=>
  refine fA ih fun ks a b c=>?_;clear ih;have hi:(intKind prog w).is i (.int i t)=true:=intKind_is prog w i t;refine⟨_,.cons h a,.cons hi rfl b,fun e he=>?_⟩
  rcases al_mc he with rfl|he
  ·exact⟨i,hi,rfl⟩
  ·exact c e he
theorem DR.dictOf{l:List (Int×V)}{es:List DictEntry}{h:Heap}{a:Addr}{n:Nat}(x:DR F l es)(nd:(l.map (·.1)).Nodup)(ha:h.get? a=some (dictOf es n)):∃ks,DV F l ks∧h.DictAt (intKind prog w) a ks n:=by
 refine fA (x.pairs (prog:=prog) (w:=w)) fun ks x1 x2 x3=>?_;exact⟨ks,x1,_,_,ha,⟨rfl,rfl,rfl⟩,rfl,fun e he=>x3 e (List.mem_toArray.mp he),x2,by rw[x1.keys];exact nd⟩
theorem DR.of_pairs{l:List (Int×V)}{ks:List (Int×Value)}(h:DV F l ks):∀{es:List DictEntry},Pairs (intKind prog w) es ks→(∀e∈es,∃k,(intKind prog w).is k e.key=true∧e.hash=(intKind prog w).hash k)→DR F l es:=by
 induction h with
 | nil=>intro es p _;cases p;exact .nil
 | @cons i v r l ks h h' ih=>
  intro es p h4
  cases p with
  | @cons e _ es _ h1 h2 h3=>
   have ih:=ih h3 fun e he=>h4 e (.tail _ he);obtain⟨hh,key,val⟩:=e;refine bG (Value.isInt_shape h1) fun t q=>?_;dsimp only at q h2;clear h1 h3;subst q h2;refine aB (h4 _ (.head _)) fun k k1 k2=>?_;have e1:(Value.isInt k (.int i t))=true:=k1;have e2:i=k:=beq_iff_eq.mp e1;clear e1 h4 k1;subst e2;dsimp only at k2;subst k2;exact .cons h ih
theorem DV.dictOf{l:List (Int×V)}{ks:List (Int×Value)}{h:Heap}{a:Addr}(x:DV F l ks)(y:h.DictOf (intKind prog w) a ks):∃es n,h.get? a=some (dictOf es n)∧DR F l es∧(l.map (·.1)).Nodup:=by
 refine bc fun hG=>?_;obtain⟨o,es,ep,y1,⟨q1,q2,q3⟩,q4,y4,y5,y6⟩:=y;obtain⟨oc,od,dt,sl⟩:=o;refine hG ?_;clear hG
 cases q1;cases q2;cases q3;cases q4
 exact⟨es.toList,ep,y1,DR.of_pairs x y5 fun e he=>y4 e (Array.mem_toList_iff.mp he),by rw[←x.keys];exact y6⟩
end
theorem Zq:sysModules<mainGlobals:=by decide
theorem Wd.sys(W:Wd):sysModules<W.base.objs.size:=by
 refine Lh W.g fun o _ _ e _=>?_;exact Nat.lt_trans Zq (Heap.lt_size e)
theorem Wd.notSys(W:Wd){a:Addr}(h:W.base.objs.size≤a):(a==sysModules)=false:=
 beq_eq_false_iff_ne.mpr fun q=>absurd (q▸h) (Nat.not_le_of_lt W.sys)
section
variable{W:Wd}{n:Nat}{O:Orc}{E:Ev}{st:St}{A A':Around}{env:Env}{Φ:Fm}{F:Fz}{s:Shared}{X:Value→Shared→Prop}{Q:Value→Shared→Prop}{k:V→St→Θ.T}{ke:V→St→Θ.T}
theorem nD(T:cM W O)(C:Ctx n A env Φ)(h:Rel W Φ F st s){e:PySem.Expr}{q:Str×Slot}{l:List (Int×V)}(ho:bH O env.scope e st=some q)(hv:q.2 = .dct l)
  (hp:∀a ks j,(a==sysModules)=false→DV F l ks→s.heap.DictAt (intKind W.prog W.w) a ks j→l.length≤aO→(l.map (·.1)).Nodup→(∃es,F.H a = .own (.fld (F.me.getD 0) (some q.1)) (dictOf es j))→Q (.ref a) {s with toks:=s.toks+1}):wpAny W.M A' (eval e env) Q X s:=
 fD T C h ho fun r x d es j g _ z=>by
  rw[hv] at z;clear C T hv;refine Bz z.ofDct fun a ds i e3 z2 z3 z4 z5=>?_;subst e3;refine aE (h.ph.own z2) fun ho hb=>?_;refine aB (z3.dictOf (prog:=W.prog) (w:=W.w) z5 ho) fun ks k1 k2=>?_;exact hp a ks i (W.notSys hb) k1 k2 z4 z5 ⟨ds,by rw[g.me];exact z2⟩
theorem bZ{α:Type}{l:List α}{a:α}(h:one l=some a):l=[a]:=by
 match l,h with
 | [_],h=>obtain rfl:=so h;rfl
theorem Pu{ops:List CmpOp}(h:isIn ops=true):ops=[.In]:=by
 unfold isIn at h
 cases q:one ops with
 | none=>rw[q] at h;exact bx h
 | some op=>
  rw[q] at h;rw[bZ q];clear q
  cases op with
  | In=>rfl
  | _=>exact bx h
theorem Ek{sc:Scope}{ops:List CmpOp}{rs:List PySem.Expr}{d:List (Int×V)}(h:yN O sc ops rs st=some d):ops=[.In]∧∃r q,rs=[r]∧bH O sc r st=some q∧q.2 = .dct d:=by
 unfold yN at h
 cases e:isIn ops with
 | false=>rw[e] at h;exact ox h
 | true=>
  rw[e] at h;refine aB (aD h) fun r e1 h=>?_;refine aB (aD h) fun q e2 h=>?_;refine⟨Pu e,r,q,bZ e1,e2,?_⟩;revert h;clear e e1 e2 ops
  cases q.2 with
  | dct l=>exact fun h=>by obtain rfl:=so h;rfl
  | _=>exact fun h=>by exact ox h
theorem Aa(T:cM W O)(HE:aR W (n+1) E.eval){α:Type}{ch:Value→List CmpOp→List PySem.Expr→Sem α}{Z:Bool→Shared→Prop}{Q:α→Shared→Prop}
  (lc:∀{ra:Value} {op:CmpOp} {r:PySem.Expr} {s:Shared},wpAny W.M A (eval r env) (fun rb s₁=>wpAny W.M A (compareOp op ra rb) (fun c s₂=>∃b,c = .bool b∧Z b s₂) X s₁) X s→wpAny W.M A (ch ra [op] [r]) Q X s)
  (ll:∀{ra:Value} {op op':CmpOp} {ops:List CmpOp} {r r':PySem.Expr} {rs:List PySem.Expr} {s:Shared},wpAny W.M A (eval r env) (fun rb s₁=>wpAny W.M A (compareOp op ra rb) (fun c s₂=>∃b,c = .bool b∧(b=true→wpAny W.M A (ch rb (op'::ops) (r'::rs)) Q X s₂)∧(b=false→Z false s₂)) X s₁) X s→wpAny W.M A (ch ra (op::op'::ops) (r::r'::rs)) Q X s)
  {l:PySem.Expr} {ops:List CmpOp} {rs:List PySem.Expr} {k:Bool→St→Θ.T} (hk:Θ.m (Sb O E env.scope l ops rs st Θ.T k ke Θ.z)) (C:Ctx (n+1) A env Φ) (h:Rel W Φ F st s) (P:bJ 2 Jn W Φ F k ke Z X) :
  rs.any lE=false∧wpAny W.M A (eval l env) (fun ra s₁=>wpAny W.M A (ch ra ops rs) Q X s₁) X s:=by
 unfold Sb at hk
 cases e:rs.any lE with
 | true=>rw[e] at hk;exact (Θ.nz hk).elim
 | false=>
  rw[e] at hk;refine⟨rfl,HE hk C h ⟨fun {a} st1 _ _ _ x h1 v1 k1=>?_,P.err⟩⟩;have k1:Θ.m (Sa O E env.scope ops rs a st1 Θ.T k ke Θ.z):=k1;unfold Sa at k1;clear e hk
  cases di:yN O env.scope ops rs st1 with
  | none=>
   rw[di] at k1;exact Iw HE C (fun h=>lc h) (fun h=>ll h) k1 h1 v1 (P.ext x)
  | some d=>
   rw[di] at k1;refine aB (aC k1) fun i ei k9=>?_;clear HE h k1 ll;obtain⟨_,t,rfl⟩:=v1.asInt ei;clear ei v1;obtain⟨rfl,r,q,rfl,e2,e3⟩:=Ek di;refine lc (nD T C h1 e2 e3 fun a ks j hs k2 k3 _ _ _=>?_);refine wpAny_in_of (intKind_is _ _ i t) hs k3.dictOf.mapOf ⟨_,rfl,?_⟩;rw[k2.isSome];exact P.ok x (h1.toks _) rfl k9
theorem zZ(T:cM W O)(HE:aR W (n+1) E.eval){l:PySem.Expr}{ops:List CmpOp}{rs:List PySem.Expr}{p:Pos}(hk:Θ.m (wE O E env.scope (.Compare l ops rs p) st Θ.T k ke Θ.z))(C:Ctx (n+1) A env Φ)(h:Rel W Φ F st s)(P:bJ 2 VR W Φ F k ke Q X) :
  wpAny W.M A (eval (.Compare l ops rs p) env) Q X s:=by
 obtain⟨e,z⟩:=Aa T HE (ch:=fun ra ops rs=>compareChain p ra ops (evalEach rs env)) (Z:=fun b s=>Q (.bool b) s) (fun h=>chain_last (wpAny_mono h (fun _ _ z=>wpAny_mono z (fun _ _ z=>by obtain⟨b,rfl,z⟩:=z;exact z) fun _ _ z=>z) fun _ _ z=>z))
  (fun h=>chain_link (wpAny_mono h (fun _ _ z=>wpAny_mono z (fun _ _ z=>by
   clear HE T;refine fA z fun b e1 z1 z2=>?_;clear z;subst e1;refine wpAny_truthy_bool ?_
   cases b with
   | true=>rw[if_pos rfl];exact z1 rfl
   | false=>rw[if_neg Bool.false_ne_true];exact z2 rfl) fun _ _ z=>z) fun _ _ z=>z)) hk C h ⟨fun x h e k=>by cases e;exact P.ok x h (.bool _) k,P.err⟩
 show wpAny W.M A (do compareChain p (←eval l env) ops (markedEach ops rs (evalEach rs env))) Q X s;rw[markedEach_of_false _ _ _ (hJ ops rs e)];exact aF z
theorem xA(T:cM W O)(HE:aR W (n+1) E.eval){l:PySem.Expr}{ops:List CmpOp}{rs:List PySem.Expr}{p:Pos}{w:Sem Value}{k:Bool→St→Θ.T}{Q:Bool→Shared→Prop}(hk:Θ.m (Sb O E env.scope l ops rs st Θ.T k ke Θ.z))(C:Ctx (n+1) A env Φ)(h:Rel W Φ F st s)(P:bJ 2 Jn W Φ F k ke Q X) :
  wpAny W.M A (isTrue (.Compare l ops rs p) env w) Q X s:=by
 obtain⟨e,z⟩:=Aa T HE (ch:=fun ra ops rs=>testChain p ra ops (evalEach rs env)) (Z:=Q) (fun {ra op r s} h=>by
   show wpAny W.M A (do
    let rv ←holding [ra] (eval r env)
    standAt p
    let c ←operate [ra,rv] (compareOp op ra rv)
    holding [c] (truthy c)) Q X s
   refine aF (wpAny_holding (wpAny_mono h (fun rb s1 h1=>?_) fun _ _ z=>z));refine aF (wpAny_standAt (aF (wpAny_operate' (wpAny_mono h1 (fun c s2 h2=>?_) fun _ _ z=>z))));clear HE T h1 rb s1 w;refine aB h2 fun b e1 hq=>?_;clear h2;subst e1
   exact wpAny_holding (wpAny_truthy_bool hq))
  (fun h=>test_link (wpAny_mono h (fun _ _ z=>wpAny_mono z (fun _ _ z=>by
   clear HE T w;refine fA z fun b e1 z1 z2=>?_;clear z;subst e1;refine wpAny_truthy_bool ?_
   cases b with
   | true=>rw[if_pos rfl];exact z1 rfl
   | false=>rw[if_neg Bool.false_ne_true];exact z2 rfl) fun _ _ z=>z) fun _ _ z=>z)) hk C h P
 show wpAny W.M A (do testChain p (←eval l env) ops (markedEach ops rs (evalEach rs env))) Q X s;rw[markedEach_of_false _ _ _ (hJ ops rs e)];exact aF z
end
end
section
variable{Θ:Mn}
theorem oP{e:PySem.Expr}{i:Int}(h:Bx e=some i):∃k p,e = .Constant (.int i) k p:=
 oO (P:=fun i=>∃k p,e = .Constant (.int i) k p) (by
  cases e with
  | Constant c k p=>cases c<;>first|exact trivial|exact⟨_,_,rfl⟩
  | _=>exact trivial) h
section
variable{F:Fz}
theorem VRs.getElem?{l:List V}:∀{vs:List Value} (i:Nat),VRs F l vs→(l[i]?).elim (vs[i]? = none) fun v=>∃r,vs[i]? = some r∧VR F v r:=by
 induction l with
 | nil=>intro vs i h;rw[h.unnil];rfl
 | cons v l ih=>
  intro vs i h;refine gX h.uncons fun r rs e2 h1 h2=>?_;subst e2;clear h
  cases i with
  | zero=>exact⟨r,rfl,h1⟩
  | succ i=>rw[List.getElem?_cons_succ,List.getElem?_cons_succ];exact ih i h2
theorem VRs.get{l:List V}{vs:List Value}{i:Nat}{v:V}(h:VRs F l vs)(e:l[i]? = some v):∃r,vs[i]? = some r∧VR F v r:=by
 have q:=h.getElem? i;rw[e] at q;exact q
theorem VRs.take{l:List V}:∀{vs:List Value} (n:Nat),VRs F l vs→VRs F (l.take n) (vs.take n):=by
 induction l with
 | nil=>intro vs n h;rw[h.unnil,List.take_nil,List.take_nil];exact .nil
 | cons v l ih=>
  intro vs n h;refine gX h.uncons fun r rs e2 h1 h2=>?_;subst e2;clear h
  cases n with
  | zero=>exact .nil
  | succ n=>exact .cons h1 (ih n h2)
theorem VRs.drop{l:List V}:∀{vs:List Value} (n:Nat),VRs F l vs→VRs F (l.drop n) (vs.drop n):=by
 induction l with
 | nil=>intro vs n h;rw[h.unnil,List.drop_nil,List.drop_nil];exact .nil
 | cons v l ih=>
  intro vs n h;refine gX h.uncons fun r rs e2 h1 h2=>?_;subst e2;clear h
  cases n with
  | zero=>exact .cons h1 h2
  | succ n=>exact ih n h2
theorem VRs.append{l l':List V}{vs':List Value}(h':VRs F l' vs'):∀{vs:List Value},VRs F l vs→VRs F (l++l') (vs++vs'):=by
 induction l with
 | nil=>intro vs h;rw[h.unnil];exact h'
 | cons v l ih=>
  intro vs h;clear h';refine gX h.uncons fun r rs e2 h1 h2=>?_;subst e2;exact .cons h1 (ih h2)
end
theorem sM{α:Type}(l:List α)(lo hi:Option Int):(cS l lo hi).length≤l.length:=by
 unfold cS;rw[List.length_take,List.length_drop];exact aJ (Nat.min_le_right _ _) (Nat.sub_le _ _)
theorem Lk(n:Nat)(i:Int):clipAt n i≤n:=Int.ofNat_le.mp (by rw[clipAt_cast];exact Int.max_le.mpr ⟨Int.natCast_nonneg _,Int.min_le_right _ _⟩)
theorem pU{α:Type}{l:List α}{i:Int}{x:α}(h:iF l i=some x):0≤i∧l[i.toNat]? = some x∧i.toNat<l.length:=by
 refine aB (aD h) fun j e h=>?_;refine aE (bX e) fun h0 e1=>?_;subst e1;refine⟨aI h0,h,Nat.lt_of_not_le fun q=>?_⟩;rw[List.getElem?_eq_none q] at h;exact ox h
theorem gZ{i:Int}{n:Nat}(h0:0≤i)(h1:i.toNat<n):seqIndex? i n=some i.toNat:=by
 unfold seqIndex?
 have:¬i<0:=by lia
 simp [this];lia
section
variable{W:Wd}{n:Nat}{O:Orc}{E:Ev}{st:St}{A A':Around}{env:Env}{Φ:Fm}{F:Fz}{s:Shared}{X:Value→Shared→Prop}{Q:Value→Shared→Prop}{k:V→St→Θ.T}{ke:V→St→Θ.T}
theorem dQ{slice:PySem.Expr}{o i:Value}(hs:∀lo hi p,slice ≠ .Slice lo hi none p):subscripted slice false o i=operate [o,i] (getItem o i):=by
 have:subscripted slice false o i=operate [o,i] (getItem o i)∨∃lo hi p,slice = .Slice lo hi none p:=by
  cases slice with
  | Slice lo hi st p=>cases st with
   | none=>exact .inr ⟨_,_,_,rfl⟩
   | some=>exact .inl rfl
  | _=>exact .inl rfl
 rcases this with e|⟨_,_,_,e⟩
 ·exact e
 ·exact absurd e (hs _ _ _)
theorem xZ{i:Int}{n m:Nat}(h0:0≤i)(h1:i.toNat<n)(h2:n≤m)(h3:m≤1000000):¬i < -2 ^ 63∧¬i ≥ 2 ^ 63∧-2 ^ 63≤i∧i<2 ^ 63:=by lia
theorem vU{value slice:PySem.Expr}{l:List V}{l0:Addr}{vs:List Value}{nn:Nat}{i:Int}{t:Tok}{v:V}(hg:s.heap.get? l0=some (listOf vs.toArray nn))(hv:VRs F l vs)(hl:l.length≤aO)(e:iF l i=some v)(hs:∀lo hi p,slice ≠ .Slice lo hi none p)(hq:∀r,VR F v r→Q r s) :
  wpAny W.M A (subscriptTail value slice (.ref l0) (.int i t)) Q X s:=by
 refine kG (pU e) fun h0 h1 h2=>?_;refine aB (hv.get h1) fun r h3 h4=>?_;have hL:=bQ hg;have z:=xZ h0 h2 hl (by decide);exact tail_any hL.typeIs slot_list_getitem.lookup (wpAny_getItem_list hL h0 z.2.2.2 (by rw[List.getElem?_toArray];exact h3) (hq r h4)) (dQ hs)
theorem Po{value slice:PySem.Expr}(h:Rel W Φ F st s){v iv c:V}{r ri:Value}(e:dN v iv=some c)(hr:VR F v r)(hi:VR F iv ri)(hs:∀lo hi p,slice ≠ .Slice lo hi none p)(hp:gY W Φ F st c Q):wpAny W.M A (subscriptTail value slice r ri) Q X s:=by
 refine aB (aD e) fun i ei e=>?_;obtain⟨_,u,rfl⟩:=hi.asInt ei;have hr:=hr.view;clear ei hi
 cases v with
 | str l=>
  refine aB (aM e) fun x e1 e2=>?_;subst e2;refine kG (pU e1) fun h0 h1 h2=>?_;clear e1;obtain⟨hlen,t,rfl⟩:=hr;have z:=xZ h0 h2 hlen (by decide);refine tail_any (typeIs_str _ _ t) PySem.F.slot_str_getitem.lookup (P.getItem_str (c:=x) ?_ ?_ (hp.tok h (.str [x] s.toks (by show 1≤100000;decide)) _)) (dQ hs)
  ·rw[Bool.or_eq_false_iff]
   exact⟨cE z.1,cE z.2.1⟩
  ·rw[jM,gZ h0 h2]
   show (l.toArray)[i.toNat]? = some x;rw[List.getElem?_toArray];exact h1
 | lst l=>
  refine gL hr fun a vs j e3 hz hvs hlen=>?_;clear hr;subst e3;exact vU (h.ph.frz hz) hvs hlen e hs fun r hr=>hp.here h hr
 | tup l=>
  refine gL hr fun a vs j e3 hz hvs hlen=>?_;clear hr;subst e3;refine kG (pU e) fun h0 h1 h2=>?_;refine aB (hvs.get h1) fun r h3 h4=>?_;have hT:=iG (h.ph.frz hz);have z:=xZ h0 h2 hlen (by decide);exact tail_any hT.typeIs slot_tuple_getitem.lookup (getItem_tuple hT z.2.2.1 z.2.2.2 (gZ h0 (by rw[hvs.size];exact h2)) (by rw[List.getElem?_toArray];exact h3) (hp.here h h4)) (dQ hs)
 | _=>exact ox e
theorem qT{sc:Scope}{i:PySem.Expr}{v:Int}(e:pJ O sc i st=some v):∀lo hi p,i ≠ .Slice lo hi none p:=by
 intro lo hi p q;subst q;exact ox e
theorem jO(T:cM W O)(C:Ctx n A env Φ)(h:Rel W Φ F st s){i:PySem.Expr}{v:Int}(e:pJ O env.scope i st=some v)(hq:∀t t',Q (.int v t) {s with toks:=t'}):wpAny W.M A (eval i env) Q X s:=by
 unfold pJ at e
 cases e1:Bx i with
 | some j=>
  rw[e1] at e;obtain rfl:=so e;refine yM (oP e1) fun k p e2=>?_;subst e2;exact wpAny_Constant_int (hq _ _)
 | none=>
  rw[e1] at e;dsimp only at e;clear e1
  cases e2:cR i with
  | some x=>
   rw[e2] at e;refine bG (bM e2) fun p e1=>?_;subst e1;dsimp only at e
   cases hx:cB env.scope x with
   | false=>rw[hx] at e;exact ox e
   | true=>
    rw[hx] at e
    cases hl:look x st.loc with
    | none=>rw[hl] at e;exact ox e
    | some sl=>
     rw[hl] at e
     cases sl with
     | val w=>
      refine hU C h hx hl fun r hr=>?_;clear hl hx;obtain⟨_,t,rfl⟩:=hr.asInt e;exact hq t s.toks
     | _=>exact ox e
  | none=>
   rw[e2] at e;dsimp only at e;clear e2
   cases ho:bH O env.scope i st with
   | none=>rw[ho] at e;exact ox e
   | some q=>
    rw[ho] at e;dsimp only at e
    cases hs:q.2 with
    | val w=>
     rw[hs] at e;refine fD T C h ho fun r x d es j _ _ z=>?_;rw[hs] at z;clear C T h ho;obtain⟨_,t,rfl⟩:=z.ofVal.asInt e;exact hq t _
    | _=>rw[hs] at e;exact ox e
theorem uK{v:V}{r:Value}{o:Option Int}(h:VR F v r)(e:Ew v=some o):IsPart r o∧∃l:Option (Int×Tok),r=partValue l∧l.map (·.1)=o:=by
 have h:=h.view
 cases v with
 | none=>obtain rfl:=so e;rw[show r=_ from h];exact⟨.none,none,rfl,rfl⟩
 | int i=>obtain rfl:=so e;obtain⟨t,rfl⟩:=h;exact⟨.int i t,some (i,t),rfl,rfl⟩
 | _=>exact ox e
theorem Od{l:List Nat}{la lb:Option (Int×Tok)}{a b:Option Int}(q2:la.map (·.1)=a)(q4:lb.map (·.1)=b):slicePicked (⟨l.toArray⟩:Str) la lb none=(List.range (b.elim l.length (clipAt l.length)-a.elim 0 (clipAt l.length))).map (a.elim 0 (clipAt l.length) + ·):=by
 have e:slicePicked (⟨l.toArray⟩:Str) la lb none=sliceRange (sliceBounds a b none l.length).1 (sliceBounds a b none l.length).2.1 1:=by
  unfold slicePicked;rw[q2,q4];rfl
 rw[e,sliceBounds_plain];exact PySem.sliceRange_one _ _
theorem Jb{value:PySem.Expr}{lo hi:Option PySem.Expr}{p:Pos}(h:Rel W Φ F st s){v lv hv c:V}{r rl rh:Value}(e:bR v lv hv=some c)(hr:VR F v r)(hl:VR F lv rl)(hh:VR F hv rh)(hp:gY W Φ F st c Q) :
  wpAny W.M A (subscriptTail value (.Slice lo hi none p) r (.ref s.heap.objs.size)) Q X {s with heap:=s.heap.push {cls:=.type "slice", data:=.fields #[rl,rh,.none]}}:=by
 have h1:Rel W Φ F st {s with heap:=s.heap.push {cls:=.type "slice", data:=.fields #[rl,rh,.none]}}:=h.keep (t:=s.toks) fun a o (e:s.heap.get? a=some o)=>Heap.get?_push_of_some {cls:=.type "slice", data:=.fields #[rl,rh,.none]} e;refine bc fun hG=>?_;refine aB (aD e) fun a ea e=>?_;refine aB (aD e) fun b eb e=>?_;obtain⟨pa,la,q1,q2⟩:=uK hl ea;obtain⟨pb,lb,q3,q4⟩:=uK hh eb;refine hG ?_;clear hG;have hr:=hr.view
 cases v with
 | str l=>
  refine bc fun hG=>?_;obtain rfl:=so e;obtain⟨hlen,t,rfl⟩:=hr;refine hG ?_;clear hG;have lx:=aJ (sM l a b) hlen;refine tail_any (ops:=[.ref s.heap.objs.size,.str ⟨l.toArray⟩ t]) (typeIs_str _ _ t) PySem.F.slot_str_getitem.lookup (wpAny_getItem_str_slice (l:=la) (u:=lb) (st:=none) ⟨_,Heap.get?_push_size _ rfl,rfl,by rw[q1,q3];rfl⟩ rfl ?_) rfl
  have pk:(slicePicked (⟨l.toArray⟩:Str) la lb none).filterMap ((⟨l.toArray⟩:Str).cps[·]?)=cS l a b:=by
   rw[Od q2 q4];exact pick_run l.toArray _ _
  unfold sliceMade
  split
  ·rename_i hc
   have hx:cS l a b=l:=by
    have hc2:=beq_iff_eq.mp (aA hc).2;rw[Od q2 q4,List.length_map,List.length_range,jM] at hc2
    have b1:b.elim l.length (clipAt l.length)≤l.length:=by
     cases b with
     | none=>exact aK _
     | some b=>exact Lk _ _
    unfold cS;rw[hc2]
    rcases Nat.eq_zero_or_pos (a.elim 0 (clipAt l.length)) with z|z
    ·rw[z];exact List.take_length
    ·have:l.length=0:=by lia
     rw[List.length_eq_zero_iff.mp this];rfl
   rw[hx] at hp;exact hp.here h1 (.str _ t hlen)
  ·rw[pk]
   exact⟨qK lx,hp.tok h1 (.str _ _ lx) _⟩
 | lst l=>
  refine bc fun hG=>?_;obtain rfl:=so e;refine gL hr fun l0 vs nn e3 hz hvs hlen=>?_;clear hr;subst e3;refine hG ?_;clear hG;have hL:=bQ (h1.ph.frz hz);refine tail_any (ops:=[.ref s.heap.objs.size,.ref l0]) hL.typeIs slot_list_getitem.lookup (wpAny_getItem_list_slice (lo:=a) (hi:=b) (st:=none) hL (Heap.IsSliceOf.new ..) pa pb .none (fun z=>nomatch z) ?_ (hvs.fits hlen)) rfl;have e3:slicePick vs.toArray a b none=(cS vs a b).toArray:=slicePick_plain vs.toArray a b;rw[e3];refine aE (h1.alloc (b:=2) (d:=Φ.d) (o:=listOf (cS vs a b).toArray 0) rfl) fun h2 x2=>?_;refine hp x2 h2 (.lst (n:=0) (F.set_self _ _) (VRs.mono x2.le ?_) (aJ (sM l a b) hlen));unfold cS;rw[hvs.length];exact (hvs.drop _).take _
 | _=>exact ox e
theorem zR(HE:aR W n E.eval){e:Option PySem.Expr}{k:V→St→Θ.T}{Q:Value→Shared→Prop}(hk:Θ.m (Oe E env.scope e st Θ.T k ke Θ.z))(C:Ctx n A env Φ)(h:Rel W Φ F st s)(P:bJ 2 VR W Φ F k ke Q X):wpAny W.M A (evalPart e env) Q X s:=by
 cases e with
 | none=>exact aP (P.here h .none hk)
 | some e=>exact HE hk C h P
theorem Mp(HE:aR W n E.eval){b i:PySem.Expr}{v:V}{r:Value}(hk:Θ.m (Yb E env.scope v i st Θ.T k ke Θ.z))(C:Ctx n A env Φ)(h:Rel W Φ F st s)(hv:VR F v r)(P:bJ 2 VR W Φ F k ke Q X) :
  wpAny W.M A (eval i env) (fun iv s₂=>wpAny W.M A (subscriptTail b i r iv) Q X s₂) X s:=by
 have gen:(∀lo hi p,i ≠ .Slice lo hi none p)→Θ.m ((R.bind (E.eval env.scope i st) fun i st=>R.ofOpt (dN v i) st) Θ.T k ke Θ.z)→wpAny W.M A (eval i env) (fun iv s₂=>wpAny W.M A (subscriptTail b i r iv) Q X s₂) X s:=fun hs hk=>
  HE hk C h ⟨fun x h1 v1 k1=>by
   refine aB (aC k1) fun c e k9=>?_
   exact Po h1 e (hv.mono x.le) v1 hs fun x2 h2 v2=>P.ok (x.trans x2) h2 v2 k9,P.err⟩
 cases i with
 | Slice lo hi step p=>
  cases step with
  | some=>exact (Θ.nz hk).elim
  | none=>
   refine wpAny_Slice (zR HE hk C h ⟨fun x1 h1 v1 k1=>zR HE k1 C h1 ⟨fun x2 h2 v2 k2=>aP ?_,(P.ext x1).err⟩,P.err⟩);refine aB (aC k2) fun c e k9=>?_;exact Jb h2 e (hv.mono (x1.trans x2).le) (v1.mono x2.le) v2 fun x3 h3 v3=>P.ok ((x1.trans x2).trans x3) h3 v3 k9
 | _=>exact gen (fun _ _ _ q=>PySem.Expr.noConfusion q) hk
theorem Ue(T:cM W O)(HE:aR W n E.eval){b i:PySem.Expr}{p:Pos}(hk:Θ.m (Zr O E env.scope b i st Θ.T k ke Θ.z))(C:Ctx n A env Φ)(h:Rel W Φ F st s)(P:bJ 2 VR W Φ F k ke Q X):wpAny W.M A (eval (.Subscript b i p) env) Q X s:=by
 unfold Zr at hk;refine PyProof.Rows.Subscript_ ?_
 cases ho:(bH O env.scope b st).bind fun p=>cV (!Yo p.2) p.2 with
 | none=>
  rw[ho] at hk;exact HE hk C h ⟨fun x h1 v1 k1=>Mp HE k1 C h1 v1 (P.ext x),P.err⟩
 | some sl=>
  rw[ho] at hk;refine bc fun hG=>?_;refine aB (aD ho) fun q hq e=>?_;refine aE (bX e) fun _ e=>?_;refine aB (aC hk) fun c ec k9=>?_;refine aB (aD ec) fun iv ei e1=>?_;refine hG ?_;clear hG;clear HE ec hk ho p
  cases sl with
  | lst l=>
   refine nC T C h hq e fun a vs j z1 z2 z3=>?_;exact jO T C (h.toks _) ei fun t t'=>vU z1 z2 z3 e1 (qT ei) fun r hr=>P.here (h.toks _) hr k9
  | dct l=>
   refine nD T C h hq e fun a ks j _ z1 z2 _ _ _=>?_;refine jO T C (h.toks _) ei fun t t'=>?_;have hx:=z1.at (i:=iv);rw[show cX iv l=some c from e1] at hx;refine aB hx fun r x1 x2=>?_;clear hx;exact tail_any z2.dictOf.typeIs slot_dict_getitem.lookup (wpAny_getItem_of (intKind_is _ _ iv t) z2.dictOf.mapOf x1 (P.here (h.toks _) x2 k9)) (dQ (qT ei))
  | _=>exact ox e1
end
end
section
variable{Θ:Mn}
section
variable{M:Model}{A:Around}{env:Env}{s:Shared}{X:Value→Shared→Prop}{Q:Value→Shared→Prop}
theorem Fw{p:Pos}{args:List PySem.Expr}(h:args.all (fun a=>!dA a)=true):(backTo p (starEach args env)).any (·.1)=false∧(backTo p (starEach args env)).all (fun a=>!a.1)=true:=by
 induction args with
 | nil=>exact⟨rfl,rfl⟩
 | cons e r ih=>
  refine aE (aA h) fun h1 h2=>?_;rw[mW (by rw[Bool.not_eq_true'] at h1;exact h1)];refine aE (ih h2) fun a b=>?_;exact⟨a,b⟩
theorem named{p:Pos}{kws:List Keyword}(h:kws.all (fun k=>k.arg.isSome)=true):(backToKw p (keywordEach kws env)).all (·.1.isSome)=true∧(backToKw p (keywordEach kws env)).any (·.1.isNone)=false:=by
 induction kws with
 | nil=>exact⟨rfl,rfl⟩
 | cons k r ih=>
  obtain⟨n,v,q⟩:=k;refine aE (aA h) fun h1 h2=>?_;refine aE (ih h2) fun a b=>?_
  cases n with
  | none=>exact Bool.noConfusion h1
  | some x=>exact⟨a,b⟩
structure gB(args:List PySem.Expr)(kws:List Keyword):Prop where
 star:args.all (fun a=>!dA a)=true
 named:kws.all (fun k=>k.arg.isSome)=true
 few:args.length+kws.length≤20
theorem mH{args:List PySem.Expr}{kws:List Keyword}(h:xP args kws=true):gB args kws:=by
 refine aE (aA h) fun h1 h=>?_;refine aE (aA h) fun h2 h3=>?_;exact⟨h1,h2,eQ h3⟩
theorem iQ{o:PySem.Expr}{m:Str}{ap p:Pos}{args:List PySem.Expr}{kws:List Keyword}(c:gB args kws)(l:iD ap p=true)(hb:∀w,attributeBase o m env w=w)
  (h:wpAny M A (eval o env) (fun ov s₁=>wpAny M A (getMethod ov m (do return (←importBound o env).getD true)) (fun fx s₂=>wpAny M A (callWith p fx.1 fx.2 (backTo p (starEach args env)) (backToKw p (keywordEach kws env))) Q X s₂) X s₁) X s) :
  wpAny M A (eval (.Call (.Attribute o m ap) args kws p) env) Q X s:=by
 have few:methodCallForm (args.length+kws.length) (backTo p (starEach args env)) (backToKw p (keywordEach kws env))=true:=by
  unfold methodCallForm;rw[(Fw (env:=env) (p:=p) c.star).2,(named (env:=env) (p:=p) c.named).1];have:=c.few;simp only[Bool.and_self,Bool.true_and,decide_eq_true_eq]
  split<;>lia
 show wpAny M A (do
  let ov ←attributeBase o m env (eval o env)
  standAt ap.atName
  methodCall o m ap p env ov (args.length+kws.length) (backTo p (starEach args env)) (backToKw p (keywordEach kws env))) Q X s
 rw[hb];refine aF (wpAny_mono h (fun ov s1 h1=>aF (wpAny_standAt ?_)) fun _ _ z=>z);unfold methodCall calleeOf methodCallPos;rw[few,if_pos rfl];refine aF (wpAny_holding (wpAny_mono h1 (fun fx s2 h2=>?_) fun _ _ z=>z));obtain⟨f,first⟩:=fx;dsimp only;refine aF ?_;rw[if_pos (by rw[show (ap.endLine==p.line)=true from l];rfl)];exact aP h2
end
inductive KRs(F:Fz):List (Str×V)→List (Str×Value)→Prop
 | nil:KRs F [] []
 | cons {x:Str} {v:V} {r:Value} {l:List (Str×V)} {vs:List (Str×Value)}:VR F v r→KRs F l vs→KRs F ((x,v)::l) ((x,r)::vs)
theorem KRs.mono{F F':Fz}(k:F.le F'){l:List (Str×V)}{vs:List (Str×Value)}(h:KRs F l vs):KRs F' l vs:=by
 induction h with
 | nil=>exact .nil
 | cons a _ ih=>exact .cons (a.mono k) ih
section
variable{W:Wd}{n:Nat}{O:Orc}{E:Ev}{st:St}{A A':Around}{env:Env}{Φ:Fm}{F:Fz}{s:Shared}{X:Value→Shared→Prop}{Q:Value→Shared→Prop}{k:V→St→Θ.T}{ke:V→St→Θ.T}
theorem Fh(HE:aR W n E.eval)(C:Ctx n A env Φ){p:Pos}{kws:List Keyword}:∀{st:St} {F:Fz} {s:Shared} {k:List (Str×V)→St→Θ.T} {Q:List Value→Shared→Prop},Θ.m (BG (E.eval env.scope) kws st Θ.T k ke Θ.z)→Rel W Φ F st s→
  bJ 2 (fun F ks rs=>KRs F ks (((backToKw p (keywordEach kws env)).filterMap (·.1)).zip rs)) W Φ F k ke Q X→wpAny W.M A (evalAll ((backToKw p (keywordEach kws env)).map (·.2))) Q X s:=by
 induction kws with
 | nil=>exact fun hk h P=>aP (P.here h .nil hk)
 | cons kw r ih=>
  intro st F s k Q hk h P;obtain⟨nm,e,q⟩:=kw
  cases nm with
  | none=>exact (Θ.nz hk).elim
  | some x=>
   show wpAny W.M A (do
    let v ←(do let v ←eval e env;standAt p;pure v)
    return v::(←holding [v] (evalAll ((backToKw p (keywordEach r env)).map (·.2))))) Q X s
   exact aF (aF (HE hk C h ⟨fun x1 h1 v1 k1=>aF (wpAny_standAt (aP (aF (wpAny_holding (ih k1 h1 ⟨fun x2 h2 v2 k2=>aP (P.ok (x1.trans x2) h2 (.cons (v1.mono x2.le) v2) k2),(P.ext x1).err⟩))))),P.err⟩))
theorem kP(NS:dU E)(HE:aR W n E.eval){args:List PySem.Expr}{kws:List Keyword}{p:Pos}(c:gB args kws){fv:Value}{first:List Value}(hf:keepIn W.K fv=true){g:List V→List (Str×V)→St→R V}
  (hk:Θ.m (qX E env.scope args kws st g Θ.T k ke Θ.z)) (C:Ctx n A env Φ) (h:Rel W Φ F st s) (hx:∀{e:V} {ea:Addr} {st:St} {s:Shared} {F':Fz},Ext 0 Φ.d F F'→qI W Φ F' e ea st s→Θ.m (ke e st)→X (.ref ea) s)
  (hc:∀{vs ks st1 rs rks s1 F1},Ext 2 Φ.d F F1→Rel W Φ F1 st1 s1→VRs F1 vs rs→KRs F1 ks rks→rs.length=args.length∧(kws=[]→rks=[])→Θ.m (g vs ks st1 Θ.T k ke Θ.z)→wpAny W.M A (call fv (first++rs) rks) Q X s1) :
  wpAny W.M A (callWith p fv first (backTo p (starEach args env)) (backToKw p (keywordEach kws env))) Q X s:=by
 have hpl:((backTo p (starEach args env)).any (·.1)||(backToKw p (keywordEach kws env)).any (·.1.isNone))=false:=by
  rw[(Fw (env:=env) (p:=p) c.star).1,(named (env:=env) (p:=p) c.named).2];rfl
 have hall:=(named (env:=env) (p:=p) c.named).1
 cases args with
 | nil=>exact callWith_KW0 W.X hf hall (Fh HE C hk h ⟨fun x1 h1 v1 k1=>⟨h1.ph.inK,hc x1 h1 .nil v1 ⟨rfl,fun q=>by subst q;rfl⟩ k1⟩,hx⟩) hpl
 | cons e r=>
  refine callWith_KW W.X hf hall ?_ hpl (mW (noStar NS hk) r);exact vE NS HE C hk h ⟨fun x1 h1 v1 k1 l1=>Fh HE C k1 h1 ⟨fun x2 h2 v2 k2=>⟨h2.ph.inK,hc (x1.trans x2) h2 (v1.mono x2.le) v2 ⟨l1,fun q=>by subst q;rfl⟩ k2⟩,fun y=>hx (x1.weak.trans y)⟩,hx⟩
end
structure hO(W:Wd)(f:Addr)(fd:FuncData)(body:List PySem.Stmt):Prop where
 at_:∃oc od sl,W.K.lookup f=some ⟨oc,od,.func fd,sl⟩
 body:fd.body = .stmts body
 code:codeIn W.K fd.code fd.qualname=true
 cell:∀x∈fd.scope.names,x.2 ≠ .cell
 co:fd.scope.isCoroutine=false
 gen:fd.scope.isGenerator=false
 kind:fd.scope.kind = .function
 glob:fd.globals=mainGlobals
 blt:fd.builtins=builtinsNs
 nodbg:fd.scope.names.lookup ("__debug__" : Str)=none
noncomputable def Tg(F:Fz)(slf:Bool)(first:List Value):Prop:=match slf with
 | true=>∃a,first=[.ref a]∧F.me=some a
 | false=>first=[]
noncomputable def aW(W:Wd)(n:Nat)(f:Addr)(slf:Bool)(sp:aY):Prop:=
 ∀{Θ:Mn} {args:List V} {kw:List (Str×V)} {st:St} {k:V→aL→Θ.T} {ke:V→Θ.T} {A:Around} {env:Env} {Φ:Fm} {F:Fz} {s:Shared} {first rs:List Value} {rks:List (Str×Value)} {R:Result→Shared→Prop},
  Θ.m (sp args kw st.flds Θ.T k ke Θ.z)→Ctx n A env Φ→Rel W Φ F st s→Tg F slf first→VRs F args rs→KRs F kw rks→
  (∀{v fl rv s' F'},Ext 2 Φ.d F F'→Rel W Φ F' (st.setF fl) s'→VR F' v rv→Θ.m (k v fl)→R (.ok (.ret rv)) s')→
  (∀{e ea s' F'},Ext 0 Φ.d F F'→qI W Φ F' e ea st.dead s'→Θ.m (ke e)→R (.error (.ref ea)) s')→codeAny W.M A (.call (.ref f) ⟨first++rs,rks⟩) R s
section
variable{W:Wd}{n:Nat}{O:Orc}{E:Ev}{st:St}{A A':Around}{env:Env}{Φ:Fm}{F:Fz}{s:Shared}{X:Value→Shared→Prop}{Q:Value→Shared→Prop}{k:V→St→Θ.T}{ke:V→St→Θ.T}
theorem oW{f:Addr}{slf:Bool}{sp:aY}(hS:aW W n f slf sp){vs:List V}{ks:List (Str×V)}{first rs:List Value}{rks:List (Str×Value)}(hk:Θ.m (gR sp vs ks st Θ.T k ke Θ.z))(C:Ctx n A env Φ)(h:Rel W Φ F st s)(h0:Tg F slf first)
  (hvs:VRs F vs rs) (hks:KRs F ks rks) (P:bJ 2 VR W Φ F k ke Q X):wpAny W.M A (call (.ref f) (first++rs) rks) Q X s:=
 wpAny_call (hS hk C h h0 hvs hks (fun x h v k=>P.ok x h v k) fun x h k=>P.err x h k)
noncomputable def gV(K:Frag)(c:Addr)(m:Str)(f:Addr):Bool:=plainGet K c m&&(findIn K (.ref c) m==some (some (.ref f))&&(isFn K (.ref f)&&keepIn K (.ref f)))
structure oX(W:Wd)(n:Nat)(O:Orc):Prop where
 meth:∀m sp,look m O.meth=some sp→∃f,gV W.K W.scan m f=true∧aW W n f true sp
theorem Mt(NS:dU E)(HE:aR W n E.eval)(MO:oX W n O){x:Str}{xp ap p:Pos}{m:Str}{args:List PySem.Expr}{kws:List Keyword}(c:gB args kws)(l:iD ap p=true)(hx:cB env.scope x=true)(hl:look x st.loc=some .self)(hn:look m st.flds=none){sp:aY}(hsp:look m O.meth=some sp)
  (hk:Θ.m (qX E env.scope args kws st (gR sp) Θ.T k ke Θ.z)) (C:Ctx n A env Φ) (h:Rel W Φ F st s) (P:bJ 2 VR W Φ F k ke Q X):wpAny W.M A (eval (.Call (.Attribute (.Name x xp) m ap) args kws p) env) Q X s:=by
 refine iQ c l (fun _=>rfl) (nV C h hx hl fun y hy=>?_);refine bc fun hG=>?_;refine aB (MO.meth m sp hsp) fun f hf hS=>?_;refine aE (aA hf) fun f1 hf=>?_;refine aE (aA hf) fun f2 hf=>?_;refine aE (aA hf) fun f3 f4=>?_;refine jS (h.focAt hy) fun d es j g=>?_;refine fA h.frm fun m0 _ _ fr=>?_;refine hG ?_;clear hG;refine method_inst fr W.X (g.instAt h) f1 (eq_of_beq f2) f3 (g.hasnt hn) ?_;exact kP NS HE c f4 (first:=[.ref y]) hk C h P.err fun x1 h1 v1 k1 _ hk=>oW hS hk C h1 ⟨y,rfl,(x1.me (Nat.le_succ 1)).trans hy⟩ v1 k1 (P.ext x1)
end
end
section
variable{Θ:Mn}
noncomputable def pA(W:Wd)(fd:FuncData)(slf:Bool)(ps:fM):Prop:=
 ∀{F:Fz} {s:Shared} {args:List V} {kw l:List (Str×V)} {first rs:List Value} {rks:List (Str×Value)},kB ps.1 args kw ps.2=some l→W.K.In s.heap→(∀a o,W.base.get? a=some o→F.H a = .frz o)→Tg F slf first→VRs F args rs→KRs F kw rks→
  ∃binds,BindsTo s fd ⟨first++rs,rks⟩ binds∧(∀x∈binds,fd.scope.names.lookup x.1=some .local)∧(∀x v,look x l=some v→∃r,binds.reverse.lookup x=some r∧VR F v r)∧(slf=true→∃a,binds.reverse.lookup ("self" : Str)=some (.ref a)∧F.me=some a)
section
variable{W:Wd}{n:Nat}{O:Orc}{E:Ev}{st:St}{A A':Around}{env:Env}{Φ:Fm}{F F':Fz}{s:Shared}{X:Value→Shared→Prop}
theorem Ke{x:Str}{l:List (Str×V)}:look x (fN l)=(look x l).map Slot.val:=by
 induction l with
 | nil=>rfl
 | cons p l ih=>
  show (if p.1=x then some (Slot.val p.2) else look x (fN l))=(if p.1=x then some p.2 else look x l).map Slot.val
  by_cases e:p.1=x
  ·rw[if_pos e,if_pos e];rfl
  ·rw[if_neg e,if_neg e,ih]
theorem Ba{d:Nat}{m:Str→Option Value}{l:List (Str×V)}(h:∀x v,look x l=some v→∃r,m x=some r∧VR F v r):kJ F d m (fN l):=fun x sl e=>by
 rw[Ke] at e;refine aB (aM e) fun v ev e2=>?_;subst e2;exact h x v ev
theorem Bb{d:Nat}{m:Str→Option Value}{l:aL}(h:kJ F d m l)(hs:∃a,m ("self" : Str)=some (.ref a)∧F.me=some a):kJ F d m ((("self" : Str),.self)::l):=fun x sl e=>by
 have e:(if ("self" : Str)=x then some Slot.self else look x l)=some sl:=e
 by_cases q:("self" : Str)=x
 ·rw[if_pos q] at e
  subst q;obtain rfl:=so e;exact hs
 ·rw[if_neg q] at e
  exact h x sl e
theorem uY.mono{P P':Value→Prop}{ea:Addr}{vs:Array Value}(h:uY W F ea P vs s)(hp:∀v,P v→P' v):uY W F ea P' vs s:=by
 obtain⟨T,oT,ts,a,b,c,d,e,⟨v,f,g⟩,i⟩:=h;exact⟨T,oT,ts,a,b,c,d,e,⟨v,f,hp v g⟩,i⟩
noncomputable def Tj(W:Wd)(n:Nat):Prop:=∀{A:Around} {env:Env} {Φ:Fm} {F:Fz} {st:St} {s:Shared} {e:V} {ea:Addr} {Q:Unit→Shared→Prop} {X:Value→Shared→Prop},Ctx n A env Φ→qI W Φ F e ea st s→
 (∀s',Rel W Φ F st s'→F.me=none→(∃c fs oe vs,e = .exc c fs∧oZ W F c fs ea oe vs s'∧uY W F ea (fun v=>v = .none) vs s')→Q () s')→wpAny W.M A (leaving env (.ref ea)) Q X s
theorem Ctx.deeper{f:Addr}{fd:FuncData}{body:List PySem.Stmt}(FF:hO W f fd body)(C:Ctx (n+1) A env Φ)(L:Addr):Ctx n (A.deeper (callEnv fd L f)) (callEnv fd L f) (Φ.deeper L) where
 kind:=FF.kind
 locals:=rfl
 frame:=rfl
 globals:=FF.glob
 builtins:=FF.blt
 nodbg:=FF.nodbg
 frames:=by
  refine aB C.frames fun outer o1 o2=>?_;exact⟨env::outer,Around.frames_deeper o1,.cons C.frame C.kind o2⟩
 handled:=C.handled
 depth:=by have:=C.depth;show A.depth+1+8*n<recursionLimit;exact zk ‹_› (by decide)
 units:=by have:=C.units;show A.units+3+20*n<cLine;exact zk ‹_› (by decide)
theorem Rel.return(h:Rel W Φ F st s){L:Addr}(hL:F.H L = .free){m:Str→Option Value}{b c:Nat}{st':St}{s':Shared}{Φ':Fm}(x:Ext b (Φ.d+1) (F.set L (.frame (Φ.d+1) m)) F')(hb:1≤c→1≤b)(me:F'.me=F.me)(h':Rel W Φ' F' st' s'):Rel W Φ F' ⟨st.loc,st'.flds,true⟩ s'∧Ext c Φ.d F F':=by
 have hH:∀a,Kp b F.me (Φ.d+1) (F.H a)→F'.H a=F.H a:=fun a k=>by
  have e:=F.set_ne (.frame (Φ.d+1) m) (fun (q:a=L)=>by rw[q,hL] at k;exact k);exact (x.keep a (by rw[e];exact k)).trans e
 exact⟨h.back h'.ph (fun a k=>hH a k.weak) me h'.foc h'.lax,fun a k=>hH a (k.lev (fun q=>⟨hb q,rfl⟩) (Nat.le_succ _) fun _=>.inl (Nat.lt_succ_self _)),x.la,fun _=>me⟩
theorem eT{f:Addr}{fd:FuncData}{body:List PySem.Stmt}{slf:Bool}{ps:fM}(LV:Tj W n)(FF:hO W f fd body)(BD:pA W fd slf ps)(HX:cZ W n 1 E.execs):aW W (n+1) f slf (eC E slf fd.scope ps body):=by
 intro Θ args kw st k ke A env Φ F s first rs rks R hk C h h0 hvs hks ok er
 unfold eC at hk
 cases hb:kB ps.1 args kw ps.2 with
 | none=>rw[hb] at hk;exact (Θ.nz hk).elim
 | some l=>
  rw[hb] at hk;refine Ca (BD (s:=s) hb h.ph.inK h.ph.base h0 hvs hks) fun binds b1 b2 b3 b4=>?_;refine jS FF.at_ fun oc od sl ho=>?_;refine codeAny_call_def (fd:=fd) (body:=body) (binds:=binds) (by have:=C.depth;exact zd ‹_›) (h.ph.inK _ _ ho) rfl (W.nolimit.keeps h.ph.old) (codeRec_of h.ph.inK FF.code) FF.body b1 FF.cell b2 (fun h₁ hns hk₁=>?_) FF.co FF.gen FF.kind;have fr:=h.ph.new (aK _);have le:F.le (F.set s.heap.objs.size (.frame (Φ.d+1) fun x=>binds.reverse.lookup x)):=Fz.le_add fr
  have l0:kJ (F.set s.heap.objs.size (.frame (Φ.d+1) fun x=>binds.reverse.lookup x)) (Φ.d+1) (fun x=>binds.reverse.lookup x) (fN l):=Ba fun x v e=>by
   refine aB (b3 x v e) fun r e1 e2=>?_;exact⟨r,e1,e2.mono le⟩
  have l1:kJ (F.set s.heap.objs.size (.frame (Φ.d+1) fun x=>binds.reverse.lookup x)) (Φ.d+1) (fun x=>binds.reverse.lookup x) (iW slf l):=by
   cases slf with
   | true=>exact Bb l0 (b4 rfl)
   | false=>exact l0
  have h1:=h.enter (t:=s.toks+binds.length) hns hk₁ l1;refine HX hk (C.deeper FF _) h1 ⟨fun {fl st' fl' s' F'} x h' hf k1=>?_,fun {e ea st' s' F'} x hx k1=>?_⟩
  ·obtain⟨h2,x2⟩:=h.return fr x (fun _=>aK 1) (x.me (aK 1)) h'
   cases hf with
   | ret hv=>exact ok x2 h2 hv k1
   | next=>exact ok x2 h2 .none k1
   | brk=>exact ok x2 h2 .none k1
   | cont=>exact ok x2 h2 .none k1
  ·refine LV (C.deeper FF _) hx fun s2 h2 hm z=>?_
   refine Rr z fun c fs oe vs e4 z1 z2=>?_;clear z;subst e4
   have e2:st'.flds=[]:=by
    rcases h2.foc with ⟨_,q⟩|⟨_,_,_,_,g⟩
    ·exact q
    ·rw[g.me] at hm;exact sx hm
   refine aE (h.dead.return fr (b:=0) (c:=0) (F':=F') (m:=fun x=>binds.reverse.lookup x) ⟨fun a k=>x.keep a k.weak,x.la,fun q=>absurd q (Nat.not_succ_le_zero _)⟩ id hm h2) fun h3 x3=>?_;have h3:Rel W Φ F' ⟨lD st.loc,st'.flds,true⟩ s2:=h3;rw[e2] at h3;exact er ((Ext.dead Φ.d).trans x3) ⟨h3,hm,c,fs,oe,vs,rfl,z1,.inr (z2.mono fun v q=>.inl q)⟩ k1
end
end
end
section
open PySem.Calls PyProof.Rows PySem.AutoSeq1 PySem.MeetsSeq
section
variable{Θ:Mn}
theorem xL{a:Str}{sl:Slot}{fl:aL}:fl.length≤(put a sl fl).length∧(look a fl=none→(put a sl fl).length=fl.length+1):=by
 induction fl with
 | nil=>exact⟨Nat.zero_le _,fun _=>rfl⟩
 | cons p r ih=>
  obtain⟨y,w⟩:=p;show _≤(if y=a then (y,sl)::r else (y,w)::put a sl r).length∧((if y=a then some w else look a r)=none→(if y=a then (y,sl)::r else (y,w)::put a sl r).length=_)
  by_cases e:y=a
  ·rw[if_pos e,if_pos e]
   exact⟨aK _,fun q=>nomatch q⟩
  ·rw[if_neg e,if_neg e]
   exact⟨Nat.succ_le_succ ih.1,fun q=>congrArg Nat.succ (ih.2 q)⟩
theorem La{a y:Str}{hsh:Int}{t:Tok}{r:Value}{es:List DictEntry}:((putL a hsh (.str a t) r es).find? (·.key.isStr y)).map (·.val)=(if a=y then some r else (es.find? (·.key.isStr y)).map (·.val))∧(putL a hsh (.str a t) r es).any (·.refKey)=es.any (·.refKey):=by
 induction es with
 | nil=>
  refine⟨?_,rfl⟩;show (([⟨hsh,.str a t,r⟩]:List DictEntry).find? _).map _=_;rw[List.find?_cons]
  by_cases q:a=y
  ·rw[if_pos q,show (Value.str a t).isStr y=true from pV.mpr q];rfl
  ·rw[if_neg q,show (Value.str a t).isStr y=false from tT q]
 | cons e es ih=>
  unfold putL
  by_cases c:e.key.isStr a=true
  ·rw[if_pos c,List.find?_cons,List.find?_cons]
   refine⟨?_,rfl⟩
   by_cases q:a=y
   ·subst q
    rw[if_pos rfl];dsimp only;rw[c];rfl
   ·rw[if_neg q]
    dsimp only
    have:e.key.isStr y=false:=by
     cases z:e.key.isStr y with
     | false=>rfl
     | true=>exact absurd (Value.isStr_inj _ _ _ c z) q
    rw[this]
  ·rw[if_neg c,List.find?_cons,List.find?_cons,List.any_cons,List.any_cons,ih.2]
   refine⟨?_,rfl⟩
   cases z:e.key.isStr y with
   | false=>exact ih.1
   | true=>
    rw[if_neg fun (q:a=y)=>c (q▸z)]
theorem Kw{a y:Str}{hsh:Int}{t:Tok}{r:Value}{es:List DictEntry}:getL y (putL a hsh (.str a t) r es)=if a=y then some (some r) else getL y es:=by
 refine aE (La (a:=a) (y:=y) (hsh:=hsh) (t:=t) (r:=r) (es:=es)) fun h1 h2=>?_
 have gl:∀es:List DictEntry,getL y es=match (es.find? (·.key.isStr y)).map (·.val) with|some v=>some (some v)|none=>if es.any (·.refKey) then none else some none:=fun es=>by
  unfold getL
  cases es.find? (·.key.isStr y)<;>rfl
 rw[gl,gl,h1,h2]
 by_cases q:a=y
 ·rw[if_pos q,if_pos q]
 ·rw[if_neg q,if_neg q]
theorem kS(name:Str)(hsh:Int)(key v:Value)(es:List DictEntry):(putL name hsh key v es).length≤es.length+1∧(∀r,getL name es=some (some r)→(putL name hsh key v es).length=es.length):=by
 induction es with
 | nil=>exact⟨aK _,fun r h=>nomatch h⟩
 | cons e r ih=>
  unfold putL
  by_cases c:e.key.isStr name=true
  ·rw[if_pos c]
   exact⟨Nat.le_succ _,fun _ _=>rfl⟩
  ·rw[if_neg c]
   refine⟨Nat.succ_le_succ ih.1,fun r' h=>congrArg Nat.succ (ih.2 r' ?_)⟩;revert h;unfold getL;rw[List.find?_cons,List.any_cons];rw[Bool.not_eq_true] at c;rw[c]
   cases r.find? (·.key.isStr name) with
   | some e'=>exact id
   | none=>
    dsimp only;intro h
    split at h<;>cases h
section
variable{W:Wd}{n:Nat}{O:Orc}{E:Ev}{st:St}{A A':Around}{env:Env}{Φ:Fm}{F F':Fz}{s:Shared}{X:Value→Shared→Prop}
set_option tactic.hygienic true in
theorem Fj{C x d:Addr}{es:List DictEntry}{j:Nat}{name:Str}{v:Value}{Q:Unit→Shared→Prop}(XK:W.K.In s.heap)(hx:s.heap.get? x=some (instObj C d))(hd:s.heap.get? d=some (dictOf es j))(ok:qO W.K C name=true)
  (hl:(getL name es).isSome=true) (hz:es.length≤200) (h:∀h' hsh t,Heap.SameBut d s.heap h'→h'.get? d=some (dictOf (putL name hsh (.str name t) v es) (putN name es j))→Q () {s with heap:=h',toks:=s.toks+2}) :
  wpAny W.M A (setAttr (.ref x) name v) Q X s:=by
 refine aE (aA ok) fun o1 ok=>?_;refine aE (aA ok) fun o2 ok=>?_;refine aE (aA ok) fun o3 o4=>?_;have I:InstAt s.heap x (instObj C d) C (some (dictOf es j)):=⟨hx,rfl,rfl,hd⟩;refine set_plain XK I (eq_of_beq o1) (osa_open (s:={s with toks:=s.toks+1}) (C:=C) (x:=x) XK I o2 (eq_of_beq o3) fun b=>?_);refine aB (any_some o4) fun cd hc hd'=>?_;have hu:=Heap.get?_update_self (Obj.putName name (PyData.keyHash W.w.params name) (.str name (s.toks+1)) v) hd (by rw[putName_dict];rfl);rw[putName_dict] at hu;refine aF (aP (aF (aF (wpAny_loadPart hx (aF (Looks.here (s:={s with toks:=s.toks+1}) (looks_clsIn XK hc) ?_))))));rw[hd'];refine aP (a:=some d) (aF (aP (aF ?_)));unfold nsSet;refine aF (aF (wpAny_askSetting (aP (aF (wpAny_mkText (aF (wpAny_loadPart hd ?_)))))))
 have c:(!es.toArray.any (·.key.isStr name)&&es.toArray.any (·.refKey))=false:=by
  rw[List.any_toArray,List.any_toArray];unfold getL at hl
  split at hl
  ·rename_i en he
   rw[List.any_eq_true.mpr ⟨en,List.mem_of_find?_eq_some he,List.find?_some he⟩];rfl
  ·split at hl
   ·exact bx hl
   ·rename_i z;rw[Bool.not_eq_true] at z;rw[z,Bool.and_false]
 dsimp only;rw[aRefKeyMayBeTheName_at,c];refine wpAny_updatePart hd ?_;have pl:=(kS name (PyData.keyHash W.w.params name) (.str name (s.toks+1)) v es).1;refine aF (wpAny_lookBehind hu (pastItsLine_dict (by rw[List.size_toArray,sizeLine_eq];lia)) ?_);exact aP (h _ _ _ (Heap.SameBut.update ..) hu)
theorem eX.put{fl:aL}{x d:Addr}{es es':List DictEntry}{j j':Nat}(g:eX W F fl x d es j){a:Str}{sl:Slot}{r:Value}(me:F'.me=F.me)(le:F.le F')(dict:F'.H d = .own (.fld x none) (dictOf es' j'))(kf:∀y b o,a≠y→F.H b = .own (.fld x (some y)) o→F'.H b = .own (.fld x (some y)) o)(kl:∀y,a≠y→F'.la x y=F.la x y)
  (hes:∀y,getL y es'=if a=y then some (some r) else getL y es) (hq:QR F' x a sl r) (hlen:es'.length≤(Mine.Internal.put a sl fl).length) (hla:∀b,F'.la x a=some b→∃l,sl = .lst l):eX W F' (Mine.Internal.put a sl fl) x d es' j':=by
 refine⟨me.trans g.me,le _ _ g.inst,dict,fun y=>?_,hlen,fun y b e=>?_⟩
 ·rw[kW,hes]
  by_cases q:a=y
  ·subst q
   rw[if_pos rfl,if_pos rfl];exact⟨r,rfl,hq⟩
  ·rw[if_neg q,if_neg q]
   have:=g.fld y;revert this
   cases look y fl with
   | none=>exact id
   | some sl=>exact fun ⟨r,h1,h2⟩=>⟨r,h1,h2.mono le (fun b o=>kf y b o q) fun b e=>(kl y q).trans e⟩
 ·rw[kW]
  by_cases q:a=y
  ·subst q
   rw[if_pos rfl];refine bG (hla b e) fun l e=>?_;exact⟨l,congrArg some e⟩
  ·rw[if_neg q]
   rw[kl y q] at e;exact g.lav y b e
theorem Rel.setOwn(h:Rel W Φ F st s){x d l0:Addr}{es:List DictEntry}{j:Nat}(g:eX W F st.flds x d es j){a:Str}{o o':Obj}{sl:Slot}(e1:getL a es=some (some (.ref l0)))(e2:F.H l0 = .own (.fld x (some a)) o){h':Heap}{t:Nat}(hs:Heap.SameBut l0 s.heap h')(hg:h'.get? l0=some o')
  (hq:QR (F.set l0 (.own (.fld x (some a)) o')) x a sl (.ref l0)) (hla:∀b,F.la x a=some b→∃l,sl = .lst l):Ext 2 Φ.d F (F.set l0 (.own (.fld x (some a)) o'))∧Rel W Φ (F.set l0 (.own (.fld x (some a)) o')) (st.setF (Mine.Internal.put a sl st.flds)) {s with heap:=h',toks:=t}:=by
 have nf:∀o,F.H l0 ≠ .frz o:=fun o q=>by rw[e2] at q;cases q
 have ph:=h.ph.step (t:=t) (c:=.own (.fld x (some a)) o') (fun b ob hb _ e=>(hs.2 b hb).trans e) ⟨hg,(h.ph.own e2).2⟩ nf;have ne:∀{b:Addr} {c:bK},F.H b=c→c ≠ .own (.fld x (some a)) o→(F.set l0 (.own (.fld x (some a)) o')).H b=c:=fun e q=>(F.set_ne _ fun z=>q (by rw[←e,z,e2])).trans e;refine⟨.set (by rw[e2];exact fun k=>k.2 g.me),h.field ph (fun b _ hb=>F.set_ne _ fun z=>hb x (some a) o g.me (z▸e2)) rfl (fun _ _ _ e=>.inl e) (.inr ⟨x,d,es,j,?_⟩)⟩;refine g.put rfl (Fz.le_set nf) (ne g.dict fun q=>by cases q) (fun y b ob hy e=>ne e fun q=>by cases q;exact hy rfl) (fun _ _=>rfl) (fun y=>?_) hq (aJ g.len xL.1) hla
 by_cases q:a=y
 ·subst q;rw[if_pos rfl];exact e1
 ·rw[if_neg q]
end
end
section
variable{Θ:Mn}
section
variable{prog:Program}{w:World}{A:Around}{env:Env}{s:Shared}{X:Value→Shared→Prop}{Q:Value→Shared→Prop}
theorem DW{M:Model}{p:Pos}{id:String}{first:List Value}(h:wpAny M A (call (.builtin id) first) Q X s):wpAny M A (callWith p (.builtin id) first (backTo p (starEach [] env)) []) Q X s:=by
 refine Calls.callWith_builtin rfl ?_
 have e:evalArgs (.builtin id) true (backTo p (starEach [] env)) []=pure ⟨[],[]⟩:=by kernel_rfl
 rw[e];refine aP ?_;dsimp only;rw[cA];exact h
theorem qE{M:Model}{p:Pos}{id:String}{first:List Value}{e:PySem.Expr}(he:dA e=false)(h:wpAny M A (eval e env) (fun v s₁=>wpAny M A (call (.builtin id) (first++[v])) Q X s₁) X s) :
  wpAny M A (callWith p (.builtin id) first (backTo p (starEach [e] env)) []) Q X s:=by
 rw[mW he];exact Calls.callWith_builtin rfl (Calls.evalArgs_plain (Calls.spliced_cons (wpAny_mono h (fun _ _ h₁=>Calls.spliced_nil h₁) fun _ _ z=>z)))
theorem Ep{M:Model}{p:Pos}{id:String}{first:List Value}{e f:PySem.Expr}(he:dA e=false)(hf:dA f=false)
  (h:wpAny M A (eval e env) (fun v s₁=>wpAny M A (eval f env) (fun u s₂=>wpAny M A (call (.builtin id) (first++[v,u])) Q X s₂) X s₁) X s) :
  wpAny M A (callWith p (.builtin id) first (backTo p (starEach [e,f] env)) []) Q X s:=by
 rw[mW he,mW hf];exact Calls.callWith_builtin rfl (Calls.evalArgs_plain (Calls.spliced_cons (wpAny_mono h (fun _ _ h₁=>Calls.spliced_cons (wpAny_mono h₁ (fun _ _ h₂=>Calls.spliced_nil h₂) fun _ _ z=>z)) fun _ _ z=>z)))
theorem kY{l:Addr}{items:Array Value}{n:Nat}{x:Value}(hl:s.heap.get? l=some (listOf items n))(h:Q .none {s with heap:=s.heap.update l (Obj.mapSeq (·.push x))})(hz:items.size≤sizeLine):wpAny (model prog w) A (call (.builtin "list.append") [.ref l,x]) Q X s:=by
 refine wpAny_call_entry slot_list_append (bQ hl).typeIs entry_list_append ?_ (args_list_append _ _);show wpAny _ _ (updateSeq l (·.push x) >>= fun _=>ret .none) _ _ s;exact aF (wpAny_updateSeq hl rfl (aP ⟨.none,rfl,h⟩))
theorem kA{i:Int}(h0:0≤i)(h1:i<2 ^ 63):Builtin.List.listFitsIndex i=true:=by
 unfold Builtin.List.listFitsIndex;simp;lia
theorem tL{l:Addr}{items:Array Value}{n:Nat}{i:Int}{u:Tok}{x:Value}(hl:s.heap.get? l=some (listOf items n))(hz:items.size≤sizeLine)(h0:0≤i)(h1:i<2 ^ 63)
  (h:Q .none {s with heap:=s.heap.update l (Obj.mapSeq fun xs=>have k:=if i<0 then (i+(xs.size:Int)).toNat else min i.toNat xs.size;(xs.extract 0 k).push x++xs.extract k)}):wpAny (model prog w) A (call (.builtin "list.insert") [.ref l,.int i u,x]) Q X s:=
 call_meets PySem.F.slot_list_insert (bQ hl).typeIs PySem.F.entry_list_insert (PySem.F.args_list_insert_3 _ _ _) (list_insert_list_int_val_1 l items n i u x (by rw[kA h0 h1];decide) hz) ⟨hl,h⟩
theorem xX{l:Addr}{items:Array Value}{n:Nat}{u:Tok}{y:Value}(hl:s.heap.get? l=some (listOf items n))(hz:items.size≤sizeLine)(hy:items[0]? = some y)
  (h:Q y {s with heap:=s.heap.update l (Obj.mapSeq fun xs=>xs.eraseIdxIfInBounds 0)}):wpAny (model prog w) A (call (.builtin "list.pop") [.ref l,.int 0 u]) Q X s:=by
 have hp:0<items.size:=by
  rcases Nat.eq_zero_or_pos items.size with q|q
  ·rw[Array.getElem?_eq_none (Nat.le_of_eq q)] at hy;exact ox hy
  ·exact q
 exact call_meets PySem.F.slot_list_pop (bQ hl).typeIs PySem.F.entry_list_pop (PySem.F.args_list_pop_2 _ _) (list_pop_at l items n 0 u 0 y (kA (by decide) (by decide)) (gZ (by decide) hp) hy hz) ⟨hl,h⟩
theorem xW{l:Addr}{items:Array Value}{n:Nat}{y:Value}(hl:s.heap.get? l=some (listOf items n))(hz:items.size≤sizeLine)(hy:items[items.size-1]? = some y)
  (h:Q y {s with heap:=s.heap.update l (Obj.mapSeq fun xs=>xs.eraseIdxIfInBounds (items.size-1))}):wpAny (model prog w) A (call (.builtin "list.pop") [.ref l]) Q X s:=
 call_meets PySem.F.slot_list_pop (bQ hl).typeIs PySem.F.entry_list_pop (PySem.F.args_list_pop_1 _) (list_pop_last l items n y hy hz) ⟨hl,h⟩
theorem tO{l b:Addr}{items items2:Array Value}{n n2:Nat}(hl:s.heap.get? l=some (listOf items n))(hb:s.heap.get? b=some (listOf items2 n2))(hz:items.size+items2.size≤20000)
  (h:Q .none {s with heap:=s.heap.update l (Obj.mapSeq fun x=>x++items2)}):wpAny (model prog w) A (call (.builtin "list.extend") [.ref l,.ref b]) Q X s:=by
 have z:(20000:Nat)≤sizeLine:=by rw[sizeLine_eq];decide
 refine call_meets PySem.F.slot_list_extend (bQ hl).typeIs PySem.F.entry_list_extend (PySem.F.args_list_extend_2 _ _) (list_extend_list_list_0 l items n b items2 n2 ?_ (by lia) (by exact aJ ‹_› (by decide))) ⟨hl,hb,h⟩
 have:Builtin.List.listTooLong (items.size+items2.size)=false:=by
  unfold Builtin.List.listTooLong;simp;exact aJ ‹_› ‹_›
 rw[this,Bool.and_false];decide
theorem dT{name:Str}{id:String}{pl:Sem Bool}{l:Addr}{items:Array Value}{n:Nat}{Q:Value×List Value→Shared→Prop}(slot:PySem.Slot "list" name id)
  (hty:typeOf (.builtin id)=pure (.type "method_descriptor")) (hl:s.heap.get? l=some (listOf items n)) (h:Q (.builtin id,[.ref l]) s):wpAny (model prog w) A (getMethod (.ref l) name pl) Q X s:=
 getMethod_list_of slot hty (bQ hl) ⟨_,hl,rfl⟩ h
theorem gI{h:Heap}{l:Addr}{vs vs':List Value}{n:Nat}{f:Array Value→Array Value}(hl:h.get? l=some (listOf vs.toArray n))(hf:f vs.toArray=vs'.toArray):∃n',(h.update l (Obj.mapSeq f)).get? l=some (listOf vs'.toArray n'):=
 ⟨_,(Heap.get?_update_self (Obj.mapSeq f) hl rfl).trans (congrArg (fun a=>some (listOf a _)) hf)⟩
end
section
variable{W:Wd}{n:Nat}{O:Orc}{E:Ev}{st:St}{A A':Around}{env:Env}{Φ:Fm}{F F':Fz}{s:Shared}{X:Value→Shared→Prop}{Q:Value→Shared→Prop}{k:V→St→Θ.T}{ke:V→St→Θ.T}
theorem hV{o:Option Slot}{l:List V}(h:tH o=some l):o=some (.lst l):=by
 cases o with
 | none=>exact ox h
 | some sl=>
  cases sl with
  | lst l=>obtain rfl:=so h;rfl
  | _=>exact ox h
theorem rK(h:Rel W Φ F st s){x l0:Addr}{a:Str}{l:List V}(hx:F.me=some x)(la:F.la x a=some l0)(hl:look a st.flds=some (.lst l)) :
  ∃vs j,s.heap.get? l0=some (listOf (List.toArray vs) j)∧VRs F l vs∧vs.toArray.size≤sizeLine∧l.length≤aO∧
   ∀{l':List V} {vs':List Value} {h':Heap} {t j':Nat},Heap.SameBut l0 s.heap h'→h'.get? l0=some (listOf (List.toArray vs') j')→VRs F l' vs'→l'.length≤aO→
    ∃F',Ext 2 Φ.d F F'∧Rel W Φ F' (st.setF (Mine.Internal.put a (.lst l') st.flds)) {s with heap:=h',toks:=t}:=by
 refine bc fun hG=>?_;refine jS (h.focAt hx) fun d es j g=>?_;refine aB (g.has hl) fun r g1 g2=>?_;clear hl hx;refine Bz g2.ofLst fun l1 vs i e3 z1 z2 z3 z4=>?_;subst e3;refine hG ?_;clear hG;rw[la] at z1;clear g2;obtain rfl:=so z1;refine⟨vs,i,(h.ph.own z2).1,z3,z3.fits z4,z4,fun {l' vs' h' t j'} hs hg hv hz=>⟨_,h.setOwn (sl:=.lst l') (o':=listOf vs'.toArray j') g g1 z2 hs hg ?_ fun _ _=>⟨l',rfl⟩⟩⟩
 have nf:∀o,F.H l0 ≠ .frz o:=fun o q=>by rw[z2] at q;cases q
 exact .lst la (F.set_self _ _) (hv.mono (Fz.le_set nf)) hz
theorem qQ{a:Str}{l:List V}(h:Θ.m (rJ a l st Θ.T k ke Θ.z)):l.length≤aO∧Θ.m (k .none (st.setF (put a (.lst l) st.flds))):=by
 unfold rJ at h
 cases e:Nat.ble l.length aO with
 | false=>rw[e] at h;exact (Θ.nz h).elim
 | true=>rw[e] at h;exact⟨eQ e,h⟩
theorem Cn{α:Type}{l:List α}:∀{p:List α×α},iB l=some p→l=p.1++[p.2]:=by
 induction l with
 | nil=>exact fun h=>nomatch h
 | cons x r ih=>
  intro p h;unfold iB at h
  cases e:iB r with
  | none=>
   rw[e] at h;obtain rfl:=so h
   cases r with
   | nil=>rfl
   | cons y r=>
    unfold iB at e
    cases e2:iB r<;>rw[e2] at e<;>exact sx e
  | some q=>
   rw[e] at h;obtain rfl:=so h;exact congrArg (x :: ·) (ih e)
theorem VRs.snoc{l:List V}{v:V}:∀{vs:List Value},VRs F (l++[v]) vs→∃vs' r,vs=vs'++[r]∧VRs F l vs'∧VR F v r:=by
 induction l with
 | nil=>
  intro vs h;refine gX h.uncons fun r rs e2 h1 h2=>?_;subst e2;rw[h2.unnil];exact⟨[],r,rfl,.nil,h1⟩
 | cons u l ih=>
  intro vs h;refine gX h.uncons fun r rs e2 h1 h2=>?_;subst e2;clear h;refine gX (ih h2) fun vs' r' e2 h3 h4=>?_;subst e2;exact⟨r::vs',r',rfl,.cons h1 h3,h4⟩
theorem bL{α:Type}{l:List α}(h:bP l=true):l=[]:=by
 cases l with
 | nil=>rfl
 | cons a l=>exact bx h
theorem wQ{α:Type}{l:List α}{p:α×α}(h:two l=some p):l=[p.1,p.2]:=by
 match l,h with
 | [_,_],h=>obtain rfl:=so h;rfl
theorem eA{e:PySem.Expr}{r:List PySem.Expr}(h:(e::r).all (fun a=>!dA a)=true):dA e=false∧r.all (fun a=>!dA a)=true:=by
 refine aE (aA h) fun a b=>?_;rw[Bool.not_eq_true'] at a;exact⟨a,b⟩
theorem Vw{vs:List Value}{i:Int}{r:Value}(h0:0≤i)(h1:i≤(vs.length:Int)):(fun xs:Array Value=>have k:=if i<0 then (i+(xs.size:Int)).toNat else min i.toNat xs.size;(xs.extract 0 k).push r++xs.extract k) vs.toArray=(vs.take i.toNat++r::vs.drop i.toNat).toArray:=by
 have e0:¬i<0:=by lia
 have e1:min i.toNat vs.length=i.toNat:=by exact Nat.min_eq_left (by lia)
 dsimp only;rw[if_neg e0,List.size_toArray,e1]
 apply Array.ext'
 simp [List.extract_eq_take_drop];rw[show vs.length-i.toNat=(vs.drop i.toNat).length from List.length_drop.symm];exact List.take_length
theorem uT(T:cM W O)(NS:dU E)(HE:aR W n E.eval){o:PySem.Expr}{m:Str}{ap p:Pos}{args:List PySem.Expr}{q:Str×Slot}{l0:List V}(c:gB args [])(hl:iD ap p=true)(ho:bH O env.scope o st=some q)(hq:q.2 = .lst l0)
  (hk:Θ.m (pM E env.scope q.1 m args st Θ.T k ke Θ.z)) (C:Ctx n A env Φ) (h:Rel W Φ F st s) (P:bJ 2 VR W Φ F k ke Q X):wpAny W.M A (eval (.Call (.Attribute o m ap) args [] p) env) Q X s:=by
 have hb:∀w,attributeBase o m env w=w:=by
  clear NS;refine Lh (gQ ho) fun x _ _ e3 _=>?_;subst e3;intro w;rfl
 refine iQ c hl hb (fD T C h ho fun r x d es j g _ z=>?_);rw[hq] at z;clear NS T hb hl ho hq;refine Bz z.ofLst fun l1 vs i e3 la z2 z3 z4=>?_;subst e3;have h1:=h.toks (s.toks+1);have hg:s.heap.get? l1=some (listOf vs.toArray i):=(h.ph.own z2).1;unfold pM at hk
 by_cases m1:m=("append" : Str)
 ·clear h z z2 z3 z4
  subst m1;rw[if_pos rfl] at hk;refine aB (aC hk) fun e ee hk=>?_;obtain rfl:=bZ ee;refine dT slot_list_append PySem.F.type_list_append hg (qE (eA c.star).1 (HE hk C h1 ⟨fun {_ _ rv _ _} x1 h2 v1 k1=>?_,P.err⟩));refine aB (aC k1) fun l el k2=>?_;refine aE (qQ k2) fun hz k3=>?_;refine Li (rK h2 ((x1.me (Nat.le_succ 1)).trans g.me) (x1.la _ _ _ la) (hV el)) fun vs' j' y1 y2 y3 y4 y5=>?_;refine bG (gI (f:=(·.push rv)) y1 (List.push_toArray _ _)) fun n' hu=>?_;obtain⟨F2,x2,h3⟩:=y5 (t:=_) (Heap.SameBut.update ..) hu ((VRs.cons v1 .nil).append y2) hz;exact kY y1 (P.ok (x1.trans x2) h3 .none k3) y3
 ·rw[if_neg m1] at hk
  by_cases m2:m=("insert" : Str)
  ·clear h m1 z z2 z3 z4
   subst m2;rw[if_pos rfl] at hk;refine aB (aC hk) fun e ee hk=>?_;obtain rfl:=wQ ee;have st1:=eA c.star;refine dT PySem.F.slot_list_insert PySem.F.type_list_insert hg (Ep st1.1 (eA st1.2).1 (HE hk C h1 ⟨fun x0 h0 v0 k0=>HE k0 C h0 ⟨fun {_ _ rv _ _} x1 h2 v1 k1=>?_,(P.ext x0).err⟩,P.err⟩));refine aB (aC k1) fun iv ei k2=>?_;refine aB (aC k2) fun l el k3=>?_;refine aE (aS k3) fun ok k4=>?_;refine aE (qQ k4) fun hz k5=>?_;refine aE (aA ok) fun o1 o2=>?_;have o1:=aI o1;have o2:=aI o2;clear C HE c ee h0 k2 k3 k4 st1;obtain⟨_,u,rfl⟩:=v0.asInt ei;refine Li (rK h2 ((x1.me (Nat.le_succ 1)).trans ((x0.me (Nat.le_succ 1)).trans g.me)) (x1.la _ _ _ (x0.la _ _ _ la)) (hV el)) fun vs' j' y1 y2 y3 y4 y5=>?_;refine bG (gI (f:=fun xs=>have k:=if iv<0 then (iv+(xs.size:Int)).toNat else min iv.toNat xs.size;(xs.extract 0 k).push rv++xs.extract k) y1 (Vw o1 (by rw[y2.length];exact o2))) fun n' hu=>?_;obtain⟨F2,x2,h3⟩:=y5 (t:=_) (Heap.SameBut.update ..) hu ((VRs.cons v1 (y2.drop _)).append (y2.take _)) hz;exact tL y1 y3 o1 (Int.lt_of_le_of_lt (Int.le_trans o2 (Int.ofNat_le.mpr y4)) (by decide)) (P.ok (x0.trans (x1.trans x2)) h3 .none k5)
  ·rw[if_neg m2] at hk
   by_cases m3:m=("pop" : Str)
   ·clear C HE c h m1 m2 z z2 z3 z4
    subst m3;rw[if_pos rfl] at hk
    cases args with
    | nil=>
     refine aB (aC hk) fun p ep k1=>?_;refine aB (aD ep) fun l el ep=>?_;obtain rfl:=Cn ep;refine Li (rK h1 g.me la (hV el)) fun vs' j' y1 y2 y3 y4 y5=>?_;clear ep;refine gX y2.snoc fun vs2 rv e2 w1 w2=>?_;subst e2
     have ea:(fun xs:Array Value=>xs.eraseIdxIfInBounds ((vs2++[rv]).toArray.size-1)) (vs2++[rv]).toArray=vs2.toArray:=by
      dsimp only;rw[List.eraseIdxIfInBounds_toArray,List.size_toArray,aU,show vs2.length+[rv].length-1=vs2.length from Nat.add_sub_cancel _ _,List.eraseIdx_append_of_length_le (aK _),Nat.sub_self];simp
     refine bG (gI (f:=fun xs=>xs.eraseIdxIfInBounds ((vs2++[rv]).toArray.size-1)) y1 ea) fun n' hu=>?_;obtain⟨F2,x2,h3⟩:=y5 (t:=_) (Heap.SameBut.update ..) hu w1 (aJ (by rw[aU];exact bY _ _) y4);exact dT PySem.F.slot_list_pop PySem.F.type_list_pop hg (DW (xW y1 y3 (by simp) (P.ok x2 h3 (w2.mono x2.le) k1)))
    | cons e r=>
     refine aE (aS hk) fun ok k0=>?_;refine aE (aA ok) fun o1 o2=>?_;refine yM (oP (aI o1)) fun _ _ e2=>?_;subst e2;clear o1;obtain rfl:=bL o2;refine aB (aC k0) fun q eq k1=>?_;refine aB (aD eq) fun l el eu=>?_;clear eq k0 o2
     cases l with
     | nil=>exact ox eu
     | cons v l=>
      obtain rfl:=so eu;refine Li (rK h1 g.me la (hV el)) fun vs' j' y1 y2 y3 y4 y5=>?_;clear el g h1 la;refine gX y2.uncons fun rv vs2 e2 w1 w2=>?_;subst e2;clear y2;refine bG (gI (f:=fun xs=>xs.eraseIdxIfInBounds 0) (vs':=vs2) y1 (by rw[List.eraseIdxIfInBounds_toArray];rfl)) fun n' hu=>?_;refine aB (y5 (t:=s.toks+1+1) (Heap.SameBut.update ..) hu w2 (Nat.le_of_succ_le y4)) fun F2 x2 h3=>?_;exact dT PySem.F.slot_list_pop PySem.F.type_list_pop hg (qE rfl (wpAny_Constant_int (xX y1 y3 (y:=rv) rfl (P.ok x2 h3 (w1.mono x2.le) k1))))
   ·rw[if_neg m3] at hk
    exact (Θ.nz hk).elim
end
end
section
variable{Θ:Mn}
section
variable{W:Wd}{n:Nat}{O:Orc}{E:Ev}{st:St}{A A':Around}{env:Env}{Φ:Fm}{F F':Fz}{s:Shared}{X:Value→Shared→Prop}{Q:Value→Shared→Prop}{k:V→St→Θ.T}{ke:V→St→Θ.T}
theorem Fs(h:Rel W Φ F st s){x:Str}{l:List V}(hl:look x st.loc=some (.lst l)) :
  ∃l0 vs j m,F.H Φ.L = .frame Φ.d m∧m x=some (.ref l0)∧s.heap.get? l0=some (listOf (List.toArray vs) j)∧VRs F l vs∧vs.toArray.size≤sizeLine∧l.length≤aO∧
   ∀{l':List V} {vs':List Value} {h':Heap} {t j':Nat},Heap.SameBut l0 s.heap h'→h'.get? l0=some (listOf (List.toArray vs') j')→VRs F l' vs'→l'.length≤aO→
    ∃F',Ext 2 Φ.d F F'∧Rel W Φ F' (st.setL x (.lst l')) {s with heap:=h',toks:=t}:=by
 refine bc fun hG=>?_;refine aB h.loc fun m e0 lr=>?_;refine gL (lr x _ hl) fun a vs j hm e1 hv hz=>?_;refine aE (h.ph.own e1) fun ho hb=>?_;refine hG ?_;clear hG;refine⟨a,vs,j,m,e0,hm,ho,hv,hv.fits hz,hz,fun {l' vs' h' t j'} hs hg hv' hz'=>⟨_,Rel.setLoc_ext 2 e1,h.setLoc e0 lr e1 (c:=.own (.loc Φ.d x) (listOf vs'.toArray j')) hs ⟨hg,hb⟩ ⟨a,vs',j',hm,F.set_self _ _,hv'.mono ?_,hz'⟩⟩⟩
 exact Fz.le_set fun o q=>by rw[e1] at q;cases q
theorem qP{x:Str}{l:List V}(h:Θ.m (rI x l st Θ.T k ke Θ.z)):l.length≤aO∧Θ.m (k .none (st.setL x (.lst l))):=by
 unfold rI at h
 cases e:Nat.ble l.length aO with
 | false=>rw[e] at h;exact (Θ.nz h).elim
 | true=>rw[e] at h;exact⟨eQ e,h⟩
theorem uU(HE:aR W n E.eval){x m:Str}{xp ap p:Pos}{args:List PySem.Expr}{l0:List V}(c:gB args [])(hl:iD ap p=true)(hx:cB env.scope x=true)(hx0:look x st.loc=some (.lst l0))
  (hk:Θ.m (pR E env.scope x m args st Θ.T k ke Θ.z)) (C:Ctx n A env Φ) (h:Rel W Φ F st s) (P:bJ 2 VR W Φ F k ke Q X):wpAny W.M A (eval (.Call (.Attribute (.Name x xp) m ap) args [] p) env) Q X s:=by
 refine e4a6 (Fs h hx0) fun a vs j m0 e0 hm hg _ _ _ _=>?_;refine iQ c hl (fun _=>rfl) (nW C h hx e0 hm ?_);have at_:∀{F1:Fz} {st1:St} {s1:Shared},Ext 2 Φ.d F F1→Rel W Φ F1 st1 s1→∀{l:List V},look x st1.loc=some (.lst l)→∃vs j,s1.heap.get? a=some (listOf (List.toArray vs) j)∧VRs F1 l vs∧vs.toArray.size≤sizeLine∧l.length≤aO∧
   ∀{l':List V} {vs':List Value} {h':Heap} {t j':Nat},Heap.SameBut a s1.heap h'→h'.get? a=some (listOf (List.toArray vs') j')→VRs F1 l' vs'→l'.length≤aO→
    ∃F',Ext 2 Φ.d F1 F'∧Rel W Φ F' (st1.setL x (.lst l')) {s1 with heap:=h',toks:=t}:=fun x1 h2 l hl=>by
  refine Rr (Fs h2 hl) fun a' vs j m1 e1 hm1 r=>?_;rw[x1.keep _ (by rw[e0];exact .inr ⟨aK 2,rfl⟩),e0] at e1
  cases e1
  rw[hm] at hm1
  cases hm1
  exact⟨vs,j,r⟩
 unfold pR at hk
 by_cases ma:m=("append" : Str)
 ·subst ma
  rw[if_pos rfl] at hk;refine aB (aC hk) fun e ee hk=>?_;obtain rfl:=bZ ee;refine dT slot_list_append PySem.F.type_list_append hg (qE (eA c.star).1 (HE hk C h ⟨fun {_ _ rv _ _} x1 h2 v1 k1=>?_,P.err⟩));refine aB (aC k1) fun l el k2=>?_;refine aE (qP k2) fun hz k3=>?_;refine Li (at_ x1 h2 (hV el)) fun vs' j' y1 y2 y3 y4 y5=>?_;refine bG (gI (f:=(·.push rv)) y1 (List.push_toArray _ _)) fun n' hu=>?_;obtain⟨F2,x2,h3⟩:=y5 (t:=_) (Heap.SameBut.update ..) hu ((VRs.cons v1 .nil).append y2) hz;exact kY y1 (P.ok (x1.trans x2) h3 .none k3) y3
 ·by_cases me:m=("extend" : Str)
  ·subst me
   rw[if_neg ma,if_pos rfl] at hk;refine aB (aC hk) fun e ee hk=>?_;obtain rfl:=bZ ee;refine dT PySem.F.slot_list_extend PySem.F.type_list_extend hg (qE (eA c.star).1 (HE hk C h ⟨fun {_ _ rv _ _} x1 h2 v1 k1=>?_,P.err⟩));refine aB (aC k1) fun l el k2=>?_;refine aB (aC k2) fun l' el' k3=>?_;refine aE (qP k3) fun hz k4=>?_;refine Li (at_ x1 h2 (hV el)) fun vs' j' y1 y2 y3 y4 y5=>?_;refine gL (v1.asLst el') fun b ws nb e3 z1 z2 z3=>?_;subst e3;refine bG (gI (f:=fun x=>x++ws.toArray) y1 (List.append_toArray _ _)) fun n' hu=>?_;obtain⟨F2,x2,h3⟩:=y5 (t:=_) (Heap.SameBut.update ..) hu (z2.append y2) hz;refine tO y1 (h2.ph.frz z1) ?_ (P.ok (x1.trans x2) h3 .none k4);rw[y2.size,z2.size,←aU];exact aJ hz (by decide)
  ·rw[if_neg ma,if_neg me] at hk
   exact (Θ.nz hk).elim
end
end
section
variable{Θ:Mn}
theorem Bq(ys:List Str):∀(a:Array Nat),(ys.foldl (fun acc p=>acc++(#[]:Array Nat)++p.cps) a).toList=a.toList++ys.flatMap (fun y=>y.cps.toList):=by
 induction ys with
 | nil=>intro a;rw[List.flatMap_nil,cA];rfl
 | cons y ys ih=>
  intro a;rw[List.foldl_cons,ih,List.flatMap_cons,Array.toList_append,Array.append_empty,fY]
theorem Bh(ys:List Str):(Txt.join ⟨#[]⟩ ys).cps.toList=ys.flatMap (fun y=>y.cps.toList):=by
 unfold Txt.join Builtin.Str.glued
 cases ys with
 | nil=>rfl
 | cons y ys=>
  dsimp only[List.drop_succ_cons,List.drop_zero,List.headD_cons];rw[Bq];rfl
theorem Pk{F:Fz}{l:List V}:∀{vs:List Value} {r:List Nat},vR l=some r→VRs F l vs→∃ys,StrsAre vs ys∧ys.flatMap (fun y=>y.cps.toList)=r∧(ys.map (·.length)).sum=r.length:=by
 induction l with
 | nil=>
  intro vs r e h;obtain rfl:=so e;rw[h.unnil];exact⟨[],.nil,rfl,rfl⟩
 | cons v l ih=>
  intro vs r e h;refine gX h.uncons fun rv rs e2 h1 h2=>?_;subst e2;refine aB (aD e) fun a ea e=>?_;refine aB (aM e) fun r' e' e2=>?_;subst e2;obtain⟨_,_,t,rfl⟩:=h1.asStr ea;refine fA (ih e' h2) fun ys y1 y2 y3=>?_;exact⟨⟨a.toArray⟩::ys,.cons _ _ y1,by rw[List.flatMap_cons,y2],by rw[List.map_cons,List.sum_cons,y3,jM,aU]⟩
section
variable{W:Wd}{n:Nat}{O:Orc}{E:Ev}{st:St}{A A':Around}{env:Env}{Φ:Fm}{F F':Fz}{s:Shared}{X:Value→Shared→Prop}
theorem My{Q:Value→Shared→Prop}{k:V→St→Θ.T}{ke:V→St→Θ.T}(HE:aR W n E.eval){m:Str}{i:Nat}{cp ap p:Pos}{co:Const}{args:List PySem.Expr}(c:gB args [])(hl:iD ap p=true)
  (hk:Θ.m (Yn E env.scope co m args st Θ.T k ke Θ.z)) (C:Ctx n A env Φ) (h:Rel W Φ F st s) (P:bJ 2 VR W Φ F k ke Q X):wpAny W.M A (eval (.Call (.Attribute (.Constant co i cp) m ap) args [] p) env) Q X s:=by
 cases co with
 | str x=>
  have hk:Θ.m ((match decide (x=("" : Str))&&decide (m=("join" : Str)) with
   | true=>(R.ofOpt (one args) st).bind fun e st=>(E.eval env.scope e st).bind fun v st=>R.ofOpt (jY v) st
   | false=>R.bad) Θ.T k ke Θ.z):=hk
  cases q:decide (x=("" : Str))&&decide (m=("join" : Str)) with
  | false=>rw[q] at hk;exact (Θ.nz hk).elim
  | true=>
   rw[q] at hk;refine aE (aA q) fun q1 q2=>?_;obtain rfl:=aI q1;obtain rfl:=aI q2;refine aB (aC hk) fun e ee hk=>?_;obtain rfl:=bZ ee;refine iQ c hl (fun _=>rfl) (wpAny_Constant_str ?_);refine GM.join (qE (eA c.star).1 (HE hk C (h.toks (s.toks+1)) ⟨fun x1 h2 v1 k1=>?_,P.err⟩));refine aB (aC k1) fun v ev k2=>?_;refine aB (aD ev) fun l el ev=>?_;refine aB (aD ev) fun r er ev=>?_;refine aE (bX ev) fun hz e1=>?_;subst e1;have hz:=eQ hz;refine gL (v1.asLst el) fun b vs nn e3 z1 z2 z3=>?_;subst e3;refine fA (Pk er z2) fun ys y1 y2 y3=>?_
   have hempty:("" : Str)=(⟨#[]⟩:Str):=by decide
   refine join_list (bQ (h2.ph.frz z1)) y1 ?_ fun t' j=>?_
   ·rw[y3,hempty]
    exact aJ hz (by decide)
   ·rw[hempty,show Txt.join ⟨#[]⟩ ys=⟨r.toArray⟩ from congrArg Str.mk (Array.ext' ((Bh ys).trans y2))]
    exact P.ok x1 (h2.toks j) (.str r t' hz) k2
 | _=>exact (Θ.nz hk).elim
theorem fC{x:Str}{v:V}{r:Value}{Q:Unit→Shared→Prop}(C:Ctx n A env Φ)(h:Rel W Φ F st s)(hx:cB env.scope x=true)(hv:VR F v r)
  (hq:∀{s' F'},(∀{b},b<2→Ext b Φ.d F F')→Rel W Φ F' (st.setL x (.val v)) s'→Q () s'):wpAny W.M A' (storeName env x r) Q X s:=by
 refine aB h.loc fun m e0 l=>?_;refine wpAny_storeName_local (cH hx) (by rw[C.locals];exact (h.ph.frame e0).1) (fun h' hn hs=>?_) (by rw[C.kind];rfl);rw[C.locals] at hn hs;exact hq (fun hb=>Rel.bind_ext hb e0) (h.storeVal (t:=s.toks+1) e0 l hv hn hs)
theorem dZ{v:PySem.Expr}{t:Option PySem.Expr}{l:Nat}(h:fQ v=true)(ht:t.isSome=true):swapsWith v t l env=pure false:=by
 cases t with
 | none=>exact bx ht
 | some t=>cases v<;>first|rfl|exact bx h
theorem oA{v:PySem.Expr}{xs:List PySem.Expr}{i:Nat}{q:Pos}(h:xR v=true):fQ v=true∧swappedStores [.Tuple xs i q] v env=pure none:=by
 cases v<;>first|exact⟨rfl,rfl⟩|exact bx h
theorem qJ{sc:Scope}{k:Fl→St→Θ.T}{ke:V→St→Θ.T}{xs:List PySem.Expr}:∀{vs:List V} {st:St},Θ.m (lV sc xs vs st Θ.T k ke Θ.z)→(assignEach xs env).length=xs.length∧(assignEach xs env).findIdx? (·.1)=none:=by
 induction xs with
 | nil=>exact fun _=>⟨rfl,rfl⟩
 | cons e xs ih=>
  intro vs st hk
  cases vs with
  | nil=>exact (Θ.nz hk).elim
  | cons v vs=>
   refine aB (aC hk) fun y ey hk=>?_;refine bG (bM ey) fun p e1=>?_;subst e1;refine aE (aS hk) fun _ hk=>?_;refine aE (ih hk) fun a b=>?_;have e1:assignEach (.Name y p::xs) env=(false,assign (.Name y p) env)::assignEach xs env:=rfl;rw[e1];refine⟨congrArg Nat.succ a,?_⟩;rw[List.findIdx?_cons,b];rfl
theorem qM{k:Fl→St→Θ.T}{ke:V→St→Θ.T}{Q:Unit→Shared→Prop}(C:Ctx n A env Φ){xs:List PySem.Expr}:∀{vs:List V} {rs:List Value} {st:St} {F:Fz} {s:Shared},Rel W Φ F st s→VRs F vs rs→Θ.m (lV env.scope xs vs st Θ.T k ke Θ.z)→
  (∀{st' s' F'},(∀{b},b<2→Ext b Φ.d F F')→Rel W Φ F' st' s'→Θ.m (k .next st')→Q () s')→wpAny W.M A (assignInOrder ((assignEach xs env).map (·.2)) rs) Q X s:=by
 induction xs with
 | nil=>
  intro vs rs st F s h hv hk hq
  cases vs with
  | nil=>rw[hv.unnil];exact aP (hq (fun _=>.refl _ _ _) h hk)
  | cons v vs=>exact (Θ.nz hk).elim
 | cons e xs ih=>
  intro vs rs st F s h hv hk hq
  cases vs with
  | nil=>exact (Θ.nz hk).elim
  | cons v vs=>
   refine gX hv.uncons fun r rs e2 v1 v2=>?_;subst e2;refine aB (aC hk) fun y ey hk=>?_;refine bG (bM ey) fun p e1=>?_;subst e1;refine aE (aS hk) fun hy hk=>?_;show wpAny W.M A (do holding rs (assign (.Name y p) env r);assignInOrder ((assignEach xs env).map (·.2)) rs) Q X s;exact aF (wpAny_holding (PyProof.Rows.assign_Name (fC C h hy v1 fun x1 h1=>ih h1 (v2.mono (x1 (b:=0) (by decide)).le) hk fun x2 h2 k2=>hq (fun hb=>(x1 hb).trans (x2 hb)) h2 k2)))
theorem mX{k:Fl→St→Θ.T}{ke:V→St→Θ.T}{Q:Unit→Shared→Prop}{xs:List PySem.Expr}{i:Nat}{p:Pos}{v:V}{r:Value}(C:Ctx n A env Φ)(h:Rel W Φ F st s)(hv:VR F v r)(hk:Θ.m (gF env.scope xs v st Θ.T k ke Θ.z))
  (hq:∀{st' s' F'},(∀{b},b<2→Ext b Φ.d F F')→Rel W Φ F' st' s'→Θ.m (k .next st')→Q () s'):wpAny W.M A (assign (.Tuple xs i p) env r) Q X s:=by
 refine aB (aC hk) fun vs ev hk=>?_;refine aE (aS hk) fun hl hk=>?_;refine gL (hv.asTup ev) fun a rs j e3 hz hvs _=>?_;subst e3;refine aE (qJ (env:=env) hk) fun e1 e2=>?_;refine assign_Tuple_tuple C.handled (iG (h.ph.frz hz)) (by rw[e1,hvs.size];exact Nat.eq_of_beq_eq_true hl) e2 fun h' he=>?_;exact qM C (h.keep (t:=s.toks) fun a o e=>he a o (Nat.ne_of_lt (Heap.lt_size e)) e) hvs hk hq
theorem Ja{k:Fl→St→Θ.T}{ke:V→St→Θ.T}{Q:Unit→Shared→Prop}{t:PySem.Expr}{v:V}{r:Value}(C:Ctx n A env Φ)(h:Rel W Φ F st s)(hv:VR F v r)(hk:Θ.m (Cg env.scope t v st Θ.T k ke Θ.z))
  (hq:∀{st' s' F'},(∀{b},b<2→Ext b Φ.d F F')→Rel W Φ F' st' s'→Θ.m (k .next st')→Q () s'):wpAny W.M A (assign t env r) Q X s:=by
 cases t with
 | Name y p=>
  refine aE (aS hk) fun hy hk=>?_;exact PyProof.Rows.assign_Name (fC C h hy hv fun x h=>hq x h hk)
 | Tuple xs i p=>exact mX C h hv hk hq
 | _=>exact (Θ.nz hk).elim
section
variable{b:Nat}{k:Fl→St→Θ.T}{ke:V→St→Θ.T}{Q:Flow→Shared→Prop}(hb:b<2)
include hb
theorem qN(HE:aR W n E.eval){x:Str}{v:PySem.Expr}{p q:Pos}(hk:Θ.m ((R.bind (E.eval env.scope v st) fun v st=>setLoc env.scope x (.val v) st) Θ.T k ke Θ.z))(C:Ctx n A env Φ)(h:Rel W Φ F st s)(P:bJ b dR W Φ F k ke Q X)(hs:fQ v=true):wpAny W.M A (exec (.Assign [.Name x q] v p) env) Q X s:=
 wpAny_Assign_Name (HE hk C h ⟨fun x1 h1 v1 k1=>by
  refine aE (aS k1) fun hx k2=>?_
  exact fC C h1 hx v1 fun x2 h2=>P.ok (x1.of_true.trans (x2 hb)) h2 .next k2,P.err⟩) (dZ hs rfl)
theorem xF(HE:aR W n E.eval){xs:List PySem.Expr}{i:Nat}{v:PySem.Expr}{p q:Pos}(hk:Θ.m (ifB (xR v) (R.bind (E.eval env.scope v st) fun v st=>gF env.scope xs v st) Θ.T k ke Θ.z))(C:Ctx n A env Φ)(h:Rel W Φ F st s)(P:bJ b dR W Φ F k ke Q X):wpAny W.M A (exec (.Assign [.Tuple xs i q] v p) env) Q X s:=by
 refine aE (aS hk) fun hs hk=>?_;refine Assign_Tuple (HE hk C h ⟨fun x1 h1 v1 k1=>mX C h1 v1 k1 fun x2 h2 k2=>P.ok (x1.of_true.trans (x2 hb)) h2 .next k2,P.err⟩) (by show swapsWith v (some (.Tuple xs i q)) p.line env=pure false;exact dZ (oA (xs:=xs) (i:=i) (q:=q) (env:=env) hs).1 rfl) (oA hs).2
end
theorem Rel.setFld(h:Rel W Φ F st s){x d:Addr}{es:List DictEntry}{j j':Nat}(g:eX W F st.flds x d es j){a:Str}{sl:Slot}{r:Value}{h':Heap}{hsh:Int}{tk t:Nat}(hs:Heap.SameBut d s.heap h')(hg:h'.get? d=some (dictOf (putL a hsh (.str a tk) r es) j'))
  {la':Addr→Str→Option Addr} (hla1:∀y z w,F.la y z=some w→la' y z=some w) (hla2:∀y z w,la' y z=some w→F.la y z=some w∨F.me=some y) (hla3:∀z,a≠z→la' x z=F.la x z) (hla4:∀w,la' x a=some w→∃l,sl = .lst l)
  (hq:QR ⟨(F.set d (.own (.fld x none) (dictOf (putL a hsh (.str a tk) r es) j'))).H,la',F.me⟩ x a sl r) :
  ∃F',Ext 2 Φ.d F F'∧Rel W Φ F' (st.setF (Mine.Internal.put a sl st.flds)) {s with heap:=h',toks:=t}:=by
 have nf:∀o,F.H d ≠ .frz o:=fun o q=>by rw[g.dict] at q;cases q
 have ph:=h.ph.step (t:=t) (c:=.own (.fld x none) (dictOf (putL a hsh (.str a tk) r es) j')) (fun b ob hb _ e=>(hs.2 b hb).trans e) ⟨hg,(h.ph.own g.dict).2⟩ nf;have x1:Ext 2 Φ.d F (F.set d (.own (.fld x none) (dictOf (putL a hsh (.str a tk) r es) j'))):=.set (by rw[g.dict];exact fun k=>k.2 g.me);refine⟨⟨(F.set d (.own (.fld x none) (dictOf (putL a hsh (.str a tk) r es) j'))).H,la',F.me⟩,⟨x1.keep,hla1,fun _=>rfl⟩,h.field (F':=⟨_,la',F.me⟩) ⟨ph.z,ph.base,ph.gens,ph.os⟩ (fun b _ hb=>F.set_ne _ fun z=>hb x none (dictOf es j) g.me (by rw[z];exact g.dict)) rfl hla2 (.inr ⟨x,d,putL a hsh (.str a tk) r es,j',?_⟩)⟩;refine g.put rfl (fun b o e=>x1.le b o e) (F.set_self _ _) (fun y b ob _ e=>(F.set_ne _ fun (z:b=d)=>by rw[z,g.dict] at e;cases e).trans e) hla3 (fun y=>Kw) hq ?_ hla4
 cases e:look a st.flds with
 | none=>rw[xL.2 e];exact aJ (kS ..).1 (Nat.succ_le_succ g.len)
 | some sl0=>
  refine aB (g.has e) fun r0 e1 _=>?_;rw[(kS ..).2 r0 e1];exact aJ g.len xL.1
theorem iC{sc:Scope}{x a:Str}{ok:Option Slot→Bool}{sl:Slot}{k:Fl→St→Θ.T}{ke:V→St→Θ.T}(hk:Θ.m (gU O sc x a ok sl st Θ.T k ke Θ.z)):(cB sc x=true∧look x st.loc=some .self)∧eM O O.scan a=true∧ok (look a st.flds)=true∧st.flds.length≤90∧Θ.m (k .next (st.setF (put a sl st.flds))):=by
 refine bc fun hG=>?_;refine aE (aS hk) fun q hk=>?_;refine aE (aA q) fun q1 q=>?_;refine aE (aA q) fun q2 q=>?_;refine aE (aA q) fun q3 q4=>?_;refine hG ?_;clear hG;exact⟨nE q1,q2,q3,eQ q4,hk⟩
theorem eX.isSome{fl:aL}{x d:Addr}{es:List DictEntry}{j:Nat}(g:eX W F fl x d es j)(a:Str):(getL a es).isSome=true:=by
 have:=g.fld a;revert this
 cases look a fl with
 | none=>exact fun q=>by rw[show getL a es=_ from q];rfl
 | some sl=>exact fun ⟨r,q,_⟩=>by rw[q];rfl
section
variable{b:Nat}{k:Fl→St→Θ.T}{ke:V→St→Θ.T}{Q:Flow→Shared→Prop}
theorem zO(T:cM W O){sc:Scope}{x a:Str}{ok:Option Slot→Bool}{sl:Slot}{r:Value}{y:Addr}(hy:F.me=some y)(hk:Θ.m (gU O sc x a ok sl st Θ.T k ke Θ.z))(h:Rel W Φ F st s)(P:bJ b dR W Φ F k ke Q X)
  (hq:∀{y d:Addr} {es:List DictEntry} {j:Nat},ok (look a st.flds)=true→eX W F st.flds y d es j→∃la':Addr→Str→Option Addr,(∀y z w,F.la y z=some w→la' y z=some w)∧(∀y z w,la' y z=some w→F.la y z=some w∨F.me=some y)∧(∀z,a≠z→la' y z=F.la y z)∧(∀w,la' y a=some w→∃l,sl = .lst l)∧
   ∀c,QR ⟨(F.set d c).H,la',F.me⟩ y a sl r):wpAny W.M A (setAttr (.ref y) a r) (fun _ s₂=>Q .next s₂) X s:=by
 refine e0a4 (iC hk) fun _ ha hok hn hk=>?_;refine jS (h.focAt hy) fun d es j g=>?_;refine Fj h.ph.inK (h.ph.frz g.inst) (h.ph.own g.dict).1 (T.set a ha) (g.isSome a) (aJ g.len (aJ hn (by decide))) fun h' hsh t hs hg=>?_;refine e1a4 (hq hok g) fun la' l1 l2 l3 l4 l5=>?_;refine aB (h.setFld g (t:=s.toks+2) hs hg l1 l2 l3 l4 (l5 _)) fun F' x' R'=>?_;exact P.ok x'.of_true R' .next hk
theorem nA(T:cM W O){x a:Str}{xp:Pos}{ok:Option Slot→Bool}{sl:Slot}{r:Value}(hk:Θ.m (gU O env.scope x a ok sl st Θ.T k ke Θ.z))(C:Ctx n A env Φ)(h:Rel W Φ F st s)(P:bJ b dR W Φ F k ke Q X)
  (hq:∀{y d:Addr} {es:List DictEntry} {j:Nat},ok (look a st.flds)=true→eX W F st.flds y d es j→∃la':Addr→Str→Option Addr,(∀y z w,F.la y z=some w→la' y z=some w)∧(∀y z w,la' y z=some w→F.la y z=some w∨F.me=some y)∧(∀z,a≠z→la' y z=F.la y z)∧(∀w,la' y a=some w→∃l,sl = .lst l)∧
   ∀c,QR ⟨(F.set d c).H,la',F.me⟩ y a sl r):wpAny W.M A (eval (.Name x xp) env) (fun o s₁=>wpAny W.M A (setAttr o a r) (fun _ s₂=>Q .next s₂) X s₁) X s:=
 nV C h (iC hk).1.1 (iC hk).1.2 fun y hy=>zO T hy hk h P fun h g=>hq h g
theorem Ma{a:Str}{v:V}{r:Value}(hv:VR F v r){y d:Addr}{es:List DictEntry}{j:Nat}(hok:Am (look a st.flds)=true)(g:eX W F st.flds y d es j):∃la':Addr→Str→Option Addr,(∀y z w,F.la y z=some w→la' y z=some w)∧(∀y z w,la' y z=some w→F.la y z=some w∨F.me=some y)∧(∀z,a≠z→la' y z=F.la y z)∧(∀w,la' y a=some w→∃l,Slot.val v = .lst l)∧
   ∀c,QR ⟨(F.set d c).H,la',F.me⟩ y a (.val v) r:=
 ⟨F.la,fun _ _ _ e=>e,fun _ _ _ e=>.inl e,fun _ _=>rfl,fun w e=>by
  refine bG (g.lav a w e) fun l e2=>?_;rw[e2] at hok
  exact Bool.noConfusion hok,fun c=>.val (hv.mono fun b o e=>(Fz.set_ne _ c fun (z:b=d)=>by rw[z,g.dict] at e;cases e).trans e)⟩
theorem xG(T:cM W O)(HE:aR W n E.eval){x a:Str}{xp ap p:Pos}{v:PySem.Expr}(hk:Θ.m ((R.bind (E.eval env.scope v st) fun v st=>gU O env.scope x a Am (.val v) st) Θ.T k ke Θ.z))(C:Ctx n A env Φ)(h:Rel W Φ F st s)(P:bJ b dR W Φ F k ke Q X)(hs:fQ v=true) :
  wpAny W.M A (exec (.Assign [.Attribute (.Name x xp) a ap] v p) env) Q X s:=
 plainObj_wpAny_Assign_Attribute (HE hk C h ⟨fun x1 h1 v1 k1=>nA T k1 C h1 (P.ext x1.of_true) fun hok g=>Ma v1 hok g,P.err⟩) (dZ hs rfl)
end
end
end
section
variable{Θ:Mn}
section
variable{W:Wd}{n:Nat}{O:Orc}{E:Ev}{st:St}{A A':Around}{env:Env}{Φ:Fm}{F F':Fz}{s:Shared}{X:Value→Shared→Prop}{b:Nat}{k:Fl→St→Θ.T}{ke:V→St→Θ.T}{Q:Flow→Shared→Prop}
theorem Rel.above(h:Rel W Φ F st s):W.base.objs.size≤s.heap.objs.size:=by
 refine fA h.frm fun m _ _ f=>?_;exact aJ f.above (bA f.ns.lt)
theorem Rel.meAt(h:Rel W Φ F st s){x:Str}(hl:look x st.loc=some .self):∃y,F.me=some y:=by
 refine aB h.loc fun m _ l=>?_;refine aB (l x _ hl) fun y _ e=>?_;exact⟨y,e⟩
theorem Rel.addOwn(h:Rel W Φ F st s)(t:Tag){o:Obj}(hf:o.isFreed=false):Rel W Φ (F.set s.heap.objs.size (.own t o)) st {s with heap:=s.heap.push o}∧Ext 2 Φ.d F (F.set s.heap.objs.size (.own t o)):=
 have fr:=h.ph.new (aK _)
 ⟨h.add (t:=s.toks) (c:=.own t o) fr (fun _ _ _ e=>Heap.get?_push_of_some _ e) ⟨Heap.get?_push_size _ hf,h.above⟩,.add fr⟩
theorem eX.ne{fl:aL}{x d:Addr}{es:List DictEntry}{j:Nat}(g:eX W F fl x d es j){a:Addr}{t:Str}{o:Obj}(e:F.H a = .own (.fld x (some t)) o):a≠d:=fun q=>by
 rw[q,g.dict] at e;cases e
theorem zT(T:cM W O){x a:Str}{xp ap lp p:Pos}(hk:Θ.m (gU O env.scope x a yD (.lst []) st Θ.T k ke Θ.z))(C:Ctx n A env Φ)(h:Rel W Φ F st s)(P:bJ b dR W Φ F k ke Q X):wpAny W.M A (exec (.Assign [.Attribute (.Name x xp) a ap] (.List [] lp) p) env) Q X s:=by
 refine bG (h.meAt (iC hk).1.2) fun y hy=>?_;refine aE (h.addOwn (.fld y (some a)) (o:=listOf #[] 0) rfl) fun h1 x1=>?_;refine plainObj_wpAny_Assign_Attribute (PyProof.Rows.List_ (Calls.spliced_nil (wpAny_newObj_type ?_))) (dZ (t:=some _) rfl rfl);refine nA T hk C h1 (P.ext x1.of_true) fun {y' d es j} hok g=>?_;have e:y'=y:=Option.some.inj (g.me.symm.trans hy);clear C P T h h1 hk hy x1;subst e;have own:=F.set_self s.heap.objs.size (.own (.fld y' (some a)) (listOf #[] 0));refine⟨fun p z=>if p=y'∧z=a then some s.heap.objs.size else F.la p z,fun p z w e=>?_,fun p z w e=>?_,fun z q=>if_neg fun q2=>q q2.2.symm,fun _ _=>⟨[],rfl⟩,fun c=>.lst (vs:=[]) (n:=0) (if_pos ⟨rfl,rfl⟩) ((Fz.set_ne _ c (g.ne own)).trans own) .nil (Nat.zero_le _)⟩
 ·by_cases q:p=y'∧z=a
  ·clear own
   refine aE q fun e0 e1=>?_;clear q;subst e0 e1;refine bG (g.lav z w e) fun l e2=>?_;rw[e2] at hok;exact Bool.noConfusion hok
  ·exact (if_neg q).trans e
 ·by_cases q:p=y'∧z=a
  ·exact .inr (q.1▸g.me)
  ·exact .inl ((if_neg q).symm.trans e)
theorem zU(T:cM W O){x a:Str}{xp ap lp p:Pos}(hk:Θ.m (gU O env.scope x a Di (.dct []) st Θ.T k ke Θ.z))(C:Ctx n A env Φ)(h:Rel W Φ F st s)(P:bJ b dR W Φ F k ke Q X):wpAny W.M A (exec (.Assign [.Attribute (.Name x xp) a ap] (.Dict [] [] lp) p) env) Q X s:=by
 refine bG (h.meAt (iC hk).1.2) fun y hy=>?_;refine aE (h.addOwn (.fld y (some a)) (o:=dictOf [] 0) rfl) fun h1 x1=>?_;refine plainObj_wpAny_Assign_Attribute (wpAny_Dict_empty ?_) (dZ (t:=some _) rfl rfl);refine nA T hk C h1 (P.ext x1.of_true) fun {y' d es j} hok g=>?_;have e:y'=y:=Option.some.inj (g.me.symm.trans hy);clear C P T h h1 hk hy x1;subst e;have own:=F.set_self s.heap.objs.size (.own (.fld y' (some a)) (dictOf [] 0));refine⟨_,fun _ _ _ e=>e,fun _ _ _ e=>.inl e,fun _ _=>rfl,fun w e=>?_,fun c=>.dct (es:=[]) (n:=0) ((Fz.set_ne _ c (g.ne own)).trans own) .nil (Nat.zero_le _) List.nodup_nil⟩;refine bG (g.lav a w e) fun l e2=>?_;rw[e2] at hok;exact Bool.noConfusion hok
theorem DV.map_same{i:Int}{r:Value}{l:List (Int×V)}{ks:List (Int×Value)}(h:DV F l ks)(hi:i ∉ ks.map (·.1)):ks.map (fun kv=>if kv.1=i then (kv.1,r) else kv)=ks:=by
 induction h with
 | nil=>rfl
 | @cons j v r' l ks h h' ih=>
  rw[List.map_cons,List.mem_cons,not_or] at hi;rw[List.map_cons,if_neg (Ne.symm hi.1),ih hi.2]
theorem DV.put{i:Int}{v:V}{r:Value}(hv:VR F v r){l:List (Int×V)}{ks:List (Int×Value)}(h:DV F l ks):(ks.map (·.1)).Nodup→DV F (sW i v l) (stored ks i r):=by
 induction h with
 | nil=>exact fun _=>.cons hv .nil
 | @cons j w r' l ks h h' ih=>
  intro nd;rw[List.map_cons,List.nodup_cons] at nd;show DV F (if j=i then (j,v)::l else (j,w)::sW i v l) _;unfold stored at ih ⊢;rw[List.any_cons]
  by_cases q:j=i
  ·subst q
   rw[if_pos rfl,bN rfl,Bool.true_or,if_pos rfl,List.map_cons,if_pos rfl,h'.map_same nd.1];exact .cons hv h'
  ·rw[if_neg q,cE q,Bool.false_or]
   have ih:=ih nd.2;clear h' hv nd
   cases z:ks.any (fun kv=>decide (kv.1=i)) with
   | true=>
    rw[z,if_pos rfl] at ih;rw[if_pos rfl,List.map_cons,if_neg q];exact .cons h ih
   | false=>
    rw[z,if_neg Bool.false_ne_true] at ih;rw[if_neg Bool.false_ne_true];exact .cons h ih
theorem DV.del{i:Int}{l:List (Int×V)}{ks:List (Int×Value)}(h:DV F l ks):(ks.map (·.1)).Nodup→DV F (nO i l) (without ks i):=by
 induction h with
 | nil=>exact fun _=>.nil
 | @cons j w r' l ks h h' ih=>
  intro nd;rw[List.map_cons,List.nodup_cons] at nd;show DV F (if j=i then l else (j,w)::nO i l) _
  have e:without ((j,r')::ks) i=if j=i then without ks i else (j,r')::without ks i:=by
   unfold without;rw[List.filter_cons]
   by_cases q:j=i
   ·rw[if_neg (by simpa using q),if_pos q]
   ·rw[if_pos (by simpa using q),if_neg q]
  rw[e]
  by_cases q:j=i
  ·clear e
   subst q;rw[if_pos rfl,if_pos rfl,without_of_not_mem _ _ nd.1];exact h'
  ·rw[if_neg q,if_neg q]
   exact .cons h (ih nd.2)
theorem Oa{i:Int}{v:V}{l:List (Int×V)}:(sW i v l).length≤l.length+1:=by
 induction l with
 | nil=>exact aK _
 | cons p l ih=>
  show (if p.1=i then (p.1,v)::l else p::sW i v l).length≤_
  by_cases q:p.1=i
  ·rw[if_pos q];exact Nat.le_succ _
  ·rw[if_neg q];exact Nat.succ_le_succ ih
theorem Ru{i:Int}{l:List (Int×V)}:(nO i l).length≤l.length:=by
 induction l with
 | nil=>exact aK _
 | cons p l ih=>
  show (if p.1=i then l else p::nO i l).length≤_
  by_cases q:p.1=i
  ·rw[if_pos q];exact Nat.le_succ _
  ·rw[if_neg q];exact Nat.succ_le_succ ih
theorem vC(T:cM W O)(C:Ctx n A env Φ)(h:Rel W Φ F st s){e:PySem.Expr}{q:Str×Slot}{l:List (Int×V)}{Z:Value→Shared→Prop}(ho:bH O env.scope e st=some q)(hv:q.2 = .dct l)
  (hp:∀a ks j,(a==sysModules)=false→DV F l ks→s.heap.DictAt (intKind W.prog W.w) a ks j→l.length≤aO∧ks.length≤sizeLine→(ks.map (·.1)).Nodup→
   (∀{l':List (Int×V)} {ks':List (Int×Value)} {h':Heap} {t:Nat},DV F l' ks'→h'.DictOf (intKind W.prog W.w) a ks'→Heap.SameBut a s.heap h'→l'.length≤aO→∃F',Ext 2 Φ.d F F'∧Rel W Φ F' (st.setF (Mine.Internal.put q.1 (.dct l') st.flds)) {s with heap:=h',toks:=t})→
   Z (.ref a) {s with toks:=s.toks+1}):wpAny W.M A (eval e env) Z X s:=by
 refine Bz (gQ ho) fun _ _ _ _ _ _ _ hf=>?_;refine fD T C h ho fun r x d es j g g1 z=>?_;rw[hv] at z;clear C T;refine Bz z.ofDct fun a ds i e3 z2 z3 z4 z5=>?_;subst e3;refine aE (h.ph.own z2) fun ho hb=>?_;refine aB (z3.dictOf (prog:=W.prog) (w:=W.w) z5 ho) fun ks k1 k2=>?_;refine hp a ks i (W.notSys hb) k1 k2 ⟨z4,by rw[k1.length,sizeLine_eq];exact aJ z4 (by decide)⟩ (by rw[k1.keys];exact z5) fun {l' ks' h' t} d1 d2 hs hz=>?_;refine gX (d1.dictOf d2) fun ds' i' y1 y2 y3=>?_;refine⟨_,h.setOwn g (o':=dictOf ds' i') g1 z2 hs y1 (.dct (F.set_self _ _) (y2.mono (Fz.le_set fun o q=>by rw[z2] at q;cases q)) hz y3) fun w e=>?_⟩;refine bG (g.lav q.1 w e) fun l2 e2=>?_;rw[hf,hv] at e2;clear d1 d2 e g g1 h hb hf ho hp hs hv hz k1 k2 ks ks' t w y1 y2 y3 z z2 z3 z4 z5
 cases e2
theorem Da(T:cM W O)(HE:aR W n E.eval){bs i v:PySem.Expr}{tp p:Pos}(hk:Θ.m (Ph O E env.scope bs i v st Θ.T k ke Θ.z))(C:Ctx n A env Φ)(h:Rel W Φ F st s)(P:bJ b dR W Φ F k ke Q X):wpAny W.M A (exec (.Assign [.Subscript bs i tp] v p) env) Q X s:=by
 refine aE (aS hk) fun hs hk=>?_;refine wpAny_Assign_Subscript (HE hk C h ⟨fun {v1 st1 _ _ _} x1 h1 hv k1=>?_,P.err⟩) (dZ (t:=some _) hs rfl);refine aB (aC k1) fun q hq k2=>?_;refine aB (aC k2) fun iv ei k3=>?_;obtain⟨a,sl⟩:=q;clear HE h hk k1 k2 p tp
 cases sl with
 | dct l=>
  refine aE (aS k3) fun hl k4=>?_;refine vC T C h1 hq rfl fun a ks j hsys d1 d2 d3 d4 turn=>jO T C (h1.toks _) ei fun t t'=>?_;refine wpAny_setItem_pairs (intKind_is _ _ iv t) d2.dictOf (fun h' hd hs=>?_) d3.2;obtain⟨F',x',R'⟩:=turn (t:=_) (d1.put hv d4) hd hs (aJ Oa (eQ hl));exact P.ok ((x1.trans x').of_true) R' .next k4
 | _=>exact (Θ.nz k3).elim
theorem Ui(T:cM W O){t:PySem.Expr}{p:Pos}(hk:Θ.m (IH O env.scope t st Θ.T k ke Θ.z))(C:Ctx n A env Φ)(h:Rel W Φ F st s)(P:bJ b dR W Φ F k ke Q X):wpAny W.M A (exec (.Delete [t] p) env) Q X s:=by
 cases t with
 | Subscript bs i tp=>
  refine aB (aC hk) fun q hq k2=>?_;refine aB (aC k2) fun iv ei k3=>?_;obtain⟨a,sl⟩:=q;clear k2
  cases sl with
  | dct l=>
   refine aE (aS k3) fun hin k4=>?_;refine wpAny_Delete (wpAny_deleteEach_cons (PyProof.Rows.delete_Subscript (vC T C h hq rfl fun a ks j hsys d1 d2 d3 d4 turn=>jO T C (h.toks _) ei fun t t'=>?_)));refine wpAny_delItem_slot d2.dictOf.typeIs (by decide) PySem.F.slot_dict_delitem (call_meetsIn PySem.F.slot_dict_delitem d2.dictOf.typeIs PySem.F.entry_dict_delitem (PySem.F.args_dict_delitem_2 _ _) (meets_dict_delitem_pairs (intKind W.prog W.w) a (intKind_is _ _ iv t)) ⟨ks,d2.dictOf,d3.2,by rw[d1.isSome];exact hin,fun h' hd hs=>?_⟩);obtain⟨F',x',R'⟩:=turn (t:=_) (d1.del (i:=iv) d4) hd hs (aJ Ru d3.1);exact wpAny_deleteEach_nil (P.ok x'.of_true R' .next k4)
  | _=>exact (Θ.nz k3).elim
 | _=>exact (Θ.nz hk).elim
end
end
section
variable{Θ:Mn}
section
variable{W:Wd}{n:Nat}{O:Orc}{E:Ev}{st:St}{A A':Around}{env:Env}{Φ:Fm}{F F':Fz}{s:Shared}{X:Value→Shared→Prop}{b:Nat}{k:Fl→St→Θ.T}{ke:V→St→Θ.T}{Q:Flow→Shared→Prop}
theorem wV(hb:b<2){x:Str}{Q:Unit→Shared→Prop}(C:Ctx n A env Φ)(h:Rel W Φ F st s)(hx:cB env.scope x=true)(hq:∀{s' F'},Ext b Φ.d F F'→Rel W Φ F' (st.setL x (.lst [])) s'→Q () s') :
  wpAny W.M A' (storeName env x (.ref s.heap.objs.size)) Q X {s with heap:=s.heap.push (listOf #[] 0)}:=by
 refine aE (h.addOwn (.loc Φ.d x) (o:=listOf #[] 0) rfl) fun h1 x1=>?_;refine aB h1.loc fun m e0 l=>?_;refine wpAny_storeName_local (cH hx) (by rw[C.locals];exact (h1.ph.frame e0).1) (fun h' hn hs=>?_) (by rw[C.kind];rfl);rw[C.locals] at hn hs;refine hq (x1.of_true.trans (Rel.bind_ext hb e0)) (h1.bind (t:=s.toks+1) e0 hn hs fun y sl e=>?_)
 by_cases q:y=x
 ·clear C e0 h h1 hb hn hq hs hx x1
  subst q;rw[eV] at e;obtain rfl:=so e;rw[if_pos rfl];exact⟨s.heap.objs.size,[],0,rfl,F.set_self _ _,.nil,Nat.zero_le _⟩
 ·rw[iN (Ne.symm q)] at e
  rw[if_neg q];exact l y sl e
theorem uV(hb:b<2){x:Str}{xp lp p:Pos}(hk:Θ.m (setLoc env.scope x (mO O p) st Θ.T k ke Θ.z))(C:Ctx n A env Φ)(h:Rel W Φ F st s)(P:bJ b dR W Φ F k ke Q X):wpAny W.M A (exec (.Assign [.Name x xp] (.List [] lp) p) env) Q X s:=by
 refine aE (aS hk) fun hx hk=>?_;refine wpAny_Assign_Name (PyProof.Rows.List_ (Calls.spliced_nil (wpAny_newObj_type ?_))) (dZ (t:=some _) rfl rfl);unfold mO at hk;clear lp xp
 cases hf:O.frz p.line with
 | true=>
  rw[hf] at hk;refine aE (h.alloc (b:=2) (d:=Φ.d) (o:=listOf #[] 0) rfl) fun h2 x2=>?_;exact fC C h2 hx (v:=.lst []) (.lst (n:=0) (vs:=[]) (F.set_self _ _) .nil (by decide)) fun x' h'=>P.ok (x2.of_true.trans (x' hb)) h' .next hk
 | false=>
  rw[hf] at hk;exact wV hb C h hx fun x' h'=>P.ok x' h' .next hk
theorem Zx(HT:jU W n E.test)(HX:cZ W n b E.execs){t:PySem.Expr}{a o:List PySem.Stmt}{p:Pos}(hk:Θ.m (Gw O E env.scope (.If t a o p) st Θ.T k ke Θ.z))(C:Ctx n A env Φ)(h:Rel W Φ F st s)(P:bJ b dR W Φ F k ke Q X):wpAny W.M A (exec (.If t a o p) env) Q X s:=
 wpAny_If (HT hk C h ⟨fun {c _ _ _ _} x1 h1 e1 k1=>by
  clear HT h hk p t
  cases e1
  cases c with
  | true=>rw[if_pos rfl];exact HX k1 C h1 (P.ext x1.of_true)
  | false=>rw[if_neg Bool.false_ne_true];exact HX k1 C h1 (P.ext x1.of_true),P.err⟩)
theorem Cv(HE:aR W n E.eval){o:Option PySem.Expr}{p:Pos}(hk:Θ.m (Gw O E env.scope (.Return o p) st Θ.T k ke Θ.z))(C:Ctx n A env Φ)(h:Rel W Φ F st s)(P:bJ b dR W Φ F k ke Q X):wpAny W.M A (exec (.Return o p) env) Q X s:=by
 cases o with
 | none=>exact wpAny_Return_none (P.here h (.ret .none) hk)
 | some e=>exact wpAny_Return_some (HE hk C h ⟨fun x1 h1 v1 k1=>P.ok x1.of_true h1 (.ret v1) k1,P.err⟩)
theorem Ir(HX:zC W n b E.exec):cZ W n b (fun sc l st=>yJ (E.exec sc) l st):=by
 intro Θ l st k ke A env Φ F s Q X hk C h P
 induction l generalizing st F s with
 | nil=>exact wpAny_execs_nil (P.here h .next hk)
 | cons e r ih=>
  refine wpAny_execs_cons (HX hk C h ⟨fun x1 h1 f1 k1=>?_,P.err⟩)
  cases f1 with
  | next=>exact ih k1 h1 (P.ext x1)
  | cont=>exact P.ok x1 h1 .cont k1
  | brk=>exact P.ok x1 h1 .brk k1
  | ret hv=>exact P.ok x1 h1 (.ret hv) k1
theorem vG{op:Operator}{a c d:V}{ra rc:Value}{Q:Value→Shared→Prop}(h:Rel W Φ F st s)(e:EA op a c=some d)(ha:VR F a ra)(hc:VR F c rc)(hp:gY W Φ F st d Q):wpAny W.M A (inplaceOp op ra rc) Q X s:=by
 cases op with
 | Add=>
  have e:iX a c=some d:=e;unfold iX at e
  cases q:asInt a with
  | some x=>
   rw[q] at e;obtain⟨rfl,t,rfl⟩:=ha.asInt q;refine aB (aM e) fun y ey e2=>?_;subst e2;obtain⟨rfl,u,rfl⟩:=hc.asInt ey;exact P.iadd_int (hp.tok h (.int _ _) _)
  | none=>
   rw[q] at e;refine aB (aD e) fun x ex e=>?_;refine aB (aD e) fun y ey e=>?_;clear q;refine aE (bX e) fun hl e1=>?_;subst e1;obtain⟨rfl,_,t,rfl⟩:=ha.asStr ex;obtain⟨rfl,_,u,rfl⟩:=hc.asStr ey;exact P.iadd_str (Hh h (eQ hl) hp)
 | Sub=>
  refine aB (aD e) fun x ex e=>?_;refine aB (aM e) fun y ey e2=>?_;subst e2;obtain⟨rfl,t,rfl⟩:=ha.asInt ex;clear ex ha;obtain⟨rfl,u,rfl⟩:=hc.asInt ey;exact P.isub_int (hp.tok h (.int _ _) _)
 | _=>exact ox e
theorem iY{o:Option Slot}{v:V}(h:mU o=some v):o=some (.val v):=by
 cases o with
 | none=>exact ox h
 | some sl=>
  cases sl with
  | val l=>obtain rfl:=so h;rfl
  | _=>exact ox h
theorem Uk(hb:b<2)(T:cM W O)(HE:aR W n E.eval){t v:PySem.Expr}{op:Operator}{p:Pos}(hk:Θ.m (JA O E env.scope t op v st Θ.T k ke Θ.z))(C:Ctx n A env Φ)(h:Rel W Φ F st s)(P:bJ b dR W Φ F k ke Q X):wpAny W.M A (exec (.AugAssign t op v p) env) Q X s:=by
 cases t with
 | Name x xp=>
  refine bc fun hG=>?_;refine aE (aS hk) fun hx hk=>?_;refine aB (aC hk) fun a ea hk=>?_;refine aB h.loc fun m e0 l=>?_;refine aB (l x _ (iY ea)) fun ra hm va=>?_;refine hG ?_;clear hG;refine wpAny_AugAssign_Name (wpAny_loadName_local C.kind (cH hx) (by rw[C.locals];exact (h.ph.frame e0).1) hm ?_);refine HE hk C h ⟨fun x1 h1 v1 k1=>?_,P.err⟩;refine aB (aC k1) fun c ec k2=>?_;exact vG h1 ec (va.mono x1.le) v1 fun x2 h2 v2=>fC C h2 hx v2 fun x3 h3=>P.ok ((x1.trans x2).of_true.trans (x3 hb)) h3 .next k2
 | Attribute bs a ap=>
  refine bc fun hG=>?_;refine aB (aC hk) fun x ex hk=>?_;clear hb;refine bG (bM ex) fun xp e1=>?_;subst e1;refine aE (aS hk) fun q hk=>?_;refine aE (aA q) fun q1 q2=>?_;refine aB (aC hk) fun old eo hk=>?_;refine aE (nE q1) fun d1 d2=>?_;refine hG ?_;clear hG;refine wpAny_AugAssign_AttributeAny (nV C h d1 d2 fun y hy=>?_);refine bc fun hG=>?_;refine jS (h.focAt hy) fun d es j g=>?_;refine aB (g.has (iY eo)) fun r g1 g2=>?_;refine hG ?_;clear hG;refine pZ h (g.instAt h) (T.attr _ _ (T.scan▸q2)) g1 g2.handed ?_;refine HE hk C (h.toks _) ⟨fun x1 h1 v1 k1=>?_,P.err⟩;refine aB (aC k1) fun c ec k2=>?_;exact vG h1 ec (g2.ofVal.mono x1.le) v1 fun x2 h2 v2=>zO T ((x2.me (Nat.le_succ 1)).trans ((x1.me (Nat.le_succ 1)).trans hy)) k2 h2 (P.ext (x1.trans x2).of_true) fun hok g=>Ma v2 hok g
 | _=>exact (Θ.nz hk).elim
end
end
end
section
open PySem.Calls PyProof.Rows
section
variable{Θ:Mn}
noncomputable def JF(S P:List Addr)(h h':Heap):Prop:=
 ∀b o,h.get? b=some o→b ∉ P→(b ∉ S→h'.get? b=some o)∧∃sl,h'.get? b=some {o with slots:=sl}
noncomputable def Fa(W:Wd)(F:Fz)(c:Nat)(fs:List (Str×V))(ea:Addr)(fl:Value→Prop)(s:Shared):Prop:=∃oe vs,oZ W F c fs ea oe vs s∧uY W F ea fl vs s
section
variable{W:Wd}{n:Nat}{st:St}{A:Around}{env:Env}{Φ:Fm}{F:Fz}{s:Shared}{X:Value→Shared→Prop}{Q:Unit→Shared→Prop}{ea:Addr}{c:Nat}{fs:List (Str×V)}{oe:Obj}{vs:Array Value}
theorem Rel.calm(h:Rel W Φ F st s){S P:List Addr}{h':Heap}{t:Nat}(hc:JF S P s.heap h')(hS:∀a∈S,∃d m,F.H a = .frame d m)(hP:∀a∈P,F.H a = .free):Rel W Φ F st {s with heap:=h',toks:=t}:=by
 refine h.grow ⟨fun b=>?_,h.ph.base,h.ph.gens,h.ph.os⟩ (fun _ _ _=>rfl) rfl rfl;have z:=h.ph.z b;have nP:F.H b ≠ .free→b ∉ P:=fun q m=>q (hP b m)
 have nS:(∀d m,F.H b ≠ .frame d m)→b ∉ S:=fun q m=>by
  refine yM (hS b m) fun d m e=>?_;exact q d m e
 show jX W h' b (F.H b);revert z nP nS;generalize F.H b=cl;intro z nP nS;clear h hP hS
 cases cl with
 | free=>trivial
 | frz o=>exact (hc b o z (nP fun q=>bK.noConfusion q)).1 (nS fun _ _ q=>bK.noConfusion q)
 | own t o=>exact⟨(hc b o z.1 (nP fun q=>bK.noConfusion q)).1 (nS fun _ _ q=>bK.noConfusion q),z.2⟩
 | frame d m=>
  obtain⟨⟨o,es,ep,e1,e2⟩,z2⟩:=z;obtain⟨_,sl,e3⟩:=hc b o e1 (nP fun q=>bK.noConfusion q);exact⟨⟨_,es,ep,e3,e2⟩,z2⟩
theorem qZ.fun{h:Heap}{l:List Env}{r:List Addr}(x:qZ l r):(∀q∈r,∃m,h.Ns q m∧W.base.get? q=none)→h.FunFrames W.base l∧l.filterMap (·.frame)=r:=by
 induction x with
 | nil=>exact fun _=>⟨trivial,rfl⟩
 | @cons env q l r e1 e2 _ ih=>
  intro hr;refine aE (ih fun p hp=>hr p (.tail _ hp)) fun a b=>?_;refine aB (hr q (.head _)) fun m n z=>?_;refine⟨Heap.FunFrames.cons (by rw[e2];decide) e1 n z a,?_⟩;rw[List.filterMap_cons,e1,b]
theorem Rel.isFrame(h:Rel W Φ F st s):∀a∈Φ.L::Φ.frs,∃d m,F.H a = .frame d m:=fun a ha=>by
 rcases al_mc ha with rfl|ha
 ·refine aB h.loc fun m e _=>?_
  exact⟨_,m,e⟩
 ·refine iJ (h.frs a ha) fun d m e _=>?_
  exact⟨d,m,e⟩
theorem Ctx.funFrames(C:Ctx n A env Φ)(h:Rel W Φ F st s):∃outer,A.frames=some (env::outer)∧s.heap.FunFrames W.base (env::outer)∧(env::outer).filterMap (·.frame)=Φ.L::Φ.frs:=by
 refine aB C.frames fun outer e f=>?_;refine⟨outer,e,qZ.fun (qZ.cons C.frame C.kind f) fun q hq=>?_⟩;refine yM (h.isFrame q hq) fun d m e=>?_;refine⟨m,(h.ph.frame e).1,?_⟩;clear C f hq
 cases z:W.base.get? q with
 | none=>rfl
 | some o=>rw[h.ph.base q o z] at e;cases e
theorem An(C:Ctx n A env Φ)(h:Rel W Φ F st s)(x:oZ W F c fs ea oe vs s){head:Value}{hadNext:Bool}(hq:∀s',Rel W Φ F st s'→Fa W F c fs ea (fun v=>v=rawInt Φ.L) s'→Q () s') :
  wpAny W.M A (do let a ←frameOf env;let pl ←entryPlaceOf Φ.L hadNext;let b ←EntryCells.newEntry head a .none (rawInt Φ.L) .none pl;setField (.ref ea) 1 b) Q X s:=by
 refine fA (C.funFrames h) fun outer f1 f2 f3=>?_;obtain⟨e1,e2,e4,e5,e3,e8,e10⟩:=x;refine aF (wpAny_frameOf_fun f1 f2 C.frame fun h₁ hs₁=>?_);rw[f3] at hs₁;refine aF (wpAny_entryPlaceOf fun pl hpl=>?_);unfold EntryCells.newEntry newFields
 have eaS:ea ∉ Φ.L::Φ.frs:=fun q=>by
  refine yM (h.isFrame ea q) fun d m e=>?_;rw[e8] at e;cases e
 have he₁:h₁.get? ea=some oe:=(hs₁.2.1 ea eaS).trans e1
 have hT0:s.heap.get? h₁.objs.size=none:=by
  clear C e1 eaS f1 f2 f3 hadNext outer
  cases q:s.heap.get? h₁.objs.size with
  | none=>rfl
  | some o=>obtain⟨sl,q'⟩:=hs₁.2.2 _ o q;exact absurd (Heap.lt_size q') (Nat.lt_irrefl _)
 have frT:=h.ph.fresh hT0
 have z1:3<([head,.ref Φ.L,.none,rawInt Φ.L,.none]++(if pl.isEmpty then List.replicate 6 Value.none else pl)).toArray.size:=by
  simp only[List.size_toArray,aU,List.length_cons,List.length_nil];lia
 have w1:([head,.ref Φ.L,.none,rawInt Φ.L,.none]++(if pl.isEmpty then List.replicate 6 Value.none else pl)).toArray[3]? = some (rawInt Φ.L):=by
  clear C e1 eaS f1 f2 f3 hT0 hadNext outer
  rcases hpl with rfl|⟨_,_,_,_,_,_,_,rfl⟩<;>simp
 refine aF (wpAny_newObj_type ?_ (hpl.sizeOk5 _ _ _ _ _));revert z1 w1;generalize ([head,.ref Φ.L,.none,rawInt Φ.L,.none]++(if pl.isEmpty then List.replicate 6 Value.none else pl)).toArray=ent;intro z1 w1;have he₂:=Heap.get?_push_of_some (h:=h₁) {cls:=.type "traceback", dict:=none,data:=.fields ent} he₁;refine wpAny_setField he₂ e4 e5 ?_;have hTe:h₁.objs.size≠ea:=Nat.ne_of_gt (Heap.lt_size he₁);have hd₃:=Obj.data_mapFields e4 (·.setIfInBounds 1 (Value.ref h₁.objs.size));have he₃:=Heap.get?_update_self (Obj.mapFields (·.setIfInBounds 1 (Value.ref h₁.objs.size))) he₂ (Obj.isFreed_of_fields hd₃);have hT₃:=(Heap.get?_update_other (h₁.push {cls:=.type "traceback", dict:=none,data:=.fields ent}) (Obj.mapFields (·.setIfInBounds 1 (Value.ref h₁.objs.size))) (Ne.symm hTe)).trans (Heap.get?_push_size h₁ rfl)
 have calm:JF (Φ.L::Φ.frs) [ea] s.heap ((h₁.push {cls:=.type "traceback", dict:=none,data:=.fields ent}).update ea (Obj.mapFields (·.setIfInBounds 1 (Value.ref h₁.objs.size)))):=by
  intro b o hb hP;have hne:ea≠b:=fun q=>hP (by rw[q];exact .head _);refine⟨fun hS=>?_,?_⟩
  ·rw[Heap.get?_update_other _ _ hne]
   exact Heap.get?_push_of_some _ ((hs₁.2.1 b hS).trans hb)
  ·refine bG (hs₁.2.2 b o hb) fun sl q=>?_
   exact⟨sl,by rw[Heap.get?_update_other _ _ hne];exact Heap.get?_push_of_some _ q⟩
 have R':=h.calm (t:=s.toks) calm h.isFrame fun a ha=>by rw[cG ha];exact e8
 have k1:(Obj.mapFields (·.setIfInBounds 1 (Value.ref h₁.objs.size)) oe).dict=oe.dict:=by
  clear C calm e1 e4 eaS f1 f2 f3 h hT0 hadNext head he₂ hpl hs₁ outer pl
  obtain⟨_,_,dt,_⟩:=oe;cases dt<;>rfl
 have v1:(vs.setIfInBounds 1 (Value.ref h₁.objs.size))[1]? = some (.ref h₁.objs.size):=by
  rw[Array.getElem?_setIfInBounds_self_of_lt e5]
 exact hq _ R' ⟨_,_,⟨he₃,by rw[Obj.cls_mapFields];exact e2,hd₃,by rw[Array.size_setIfInBounds];exact e5,by rw[k1];exact e3,e8,e10⟩,_,_,_,v1,hTe,hT₃,rfl,z1,⟨_,w1,rfl⟩,frT,aJ e10 (bA (Heap.lt_size he₁))⟩
theorem tZ(h:Rel W Φ F st s)(x:oZ W F c fs ea oe vs s){P:Value→Prop}(t:uY W F ea P vs s)(fl':Value) :
  ∃T oT ts v,vs[1]? = some (.ref T)∧s.heap.get? T=some oT∧oT.data = .fields ts∧3<ts.size∧ts[3]? = some v∧P v∧Rel W Φ F st {s with heap:=s.heap.update T (Obj.mapFields (·.setIfInBounds 3 fl'))}∧
   oZ W F c fs ea oe vs {s with heap:=s.heap.update T (Obj.mapFields (·.setIfInBounds 3 fl'))}∧uY W F ea (fun v=>v=fl') vs {s with heap:=s.heap.update T (Obj.mapFields (·.setIfInBounds 3 fl'))}:=by
 refine bc fun hG=>?_;obtain⟨T,oT,ts,q3,q4,q5,q6,q7,⟨v,q8,q8'⟩,q9,q11⟩:=t;obtain⟨e1,e2,e4,e5,e3,e8,e10⟩:=x;refine hG ?_;clear hG;have hd:=Obj.data_mapFields q6 (·.setIfInBounds 3 fl');have hT:=Heap.get?_update_self (Obj.mapFields (·.setIfInBounds 3 fl')) q5 (Obj.isFreed_of_fields hd);have ho:∀b,b≠T→(s.heap.update T (Obj.mapFields (·.setIfInBounds 3 fl'))).get? b=s.heap.get? b:=fun b hb=>Heap.get?_update_other _ _ (Ne.symm hb)
 have R':=h.calm (S:=[]) (P:=[T]) (t:=s.toks) (h':=s.heap.update T (Obj.mapFields (·.setIfInBounds 3 fl'))) (fun b o hb hP=>by
  have e:=(ho b fun q=>hP (by rw[q];exact .head _)).trans hb
  exact⟨fun _=>e,o.slots,e⟩) (fun _ q=>nomatch q) fun a ha=>by rw[cG ha];exact q9
 exact⟨T,oT,ts,v,q3,q5,q6,q7,q8,q8',R',⟨(ho ea (Ne.symm q4)).trans e1,e2,e4,e5,e3,e8,e10⟩,T,_,_,q3,q4,hT,hd,by rw[Array.size_setIfInBounds];exact q7,⟨fl',Array.getElem?_setIfInBounds_self_of_lt q7,rfl⟩,q9,q11⟩
theorem sI(C:Ctx n A env Φ)(h:Rel W Φ F st s)(x:oZ W F c fs ea oe vs s)(t:vs[1]? = some .none∨uY W F ea (fun v=>v = .none∨v=rawInt Φ.L) vs s)(hq:∀s',Rel W Φ F st s'→Fa W F c fs ea (fun v=>v=rawInt Φ.L) s'→Q () s') :
  wpAny W.M A (noteFrame (.ref ea) env) Q X s:=by
 unfold noteFrame;simp only[C.frame]
 rcases t with e|t
 ·refine aF (wpAny_field x.at_ x.data e ?_)
  rw[if_neg (by decide)];exact An C h x hq
 ·have t0:=t
  refine e4a8 (tZ h x t .none) fun T oT ts v q1 q2 q3 q4 q5 q6 h' x' t'=>?_;refine aF (wpAny_field x.at_ x.data q1 ?_);rw[if_pos (show (Value.ref T != Value.none)=true from rfl)];refine aF (wpAny_field q2 q3 q5 ?_);clear t t'
  rcases q6 with rfl|rfl
  ·rw[if_neg (show ¬((Value.none==rawInt Φ.L)=true) from by simp [rawInt])]
   exact aF (wpAny_setField q2 q3 q4 (An C h' x' hq))
  ·rw[if_pos (show (rawInt Φ.L==rawInt Φ.L)=true from beq_self_eq_true _)]
   obtain⟨T',oT',ts',p1,p2,p3,p4,p5,⟨v',p6,_⟩,p8,p9⟩:=t0
   have e:T=T':=by rw[q1] at p1;cases p1;rfl
   clear C h' p1 p5 p6 x';subst e;rw[q2] at p3;obtain rfl:=so p3;rw[q3] at p4
   cases p4
   exact aP (hq s h ⟨oe,vs,x,T,oT,ts,q1,p2,q2,q3,q4,⟨_,q5,rfl⟩,p8,p9⟩)
theorem jP(h:Rel W Φ F st s){P:Value→Prop}(x:Fa W F c fs ea P s)(fr:Option Addr)(hq:∀s',Rel W Φ F st s'→Fa W F c fs ea (fun v=>v=fr.elim .none fun f=>rawInt f) s'→Q () s'):wpAny W.M A (setFlight (.ref ea) fr) Q X s:=by
 refine bc fun hG=>?_;obtain⟨oe,vs,x,t⟩:=x;obtain⟨T,oT,ts,v,q1,q2,q3,q4,q5,q6,h',x',t'⟩:=tZ h x t (fr.elim .none fun f=>rawInt f);refine hG ?_;clear hG;unfold setFlight;refine aF (wpAny_field x.at_ x.data q1 ?_);rw[if_pos (show (Value.ref T != Value.none)=true from rfl)];exact wpAny_setField q2 q3 q4 (hq _ h' ⟨_,_,x',t'⟩)
theorem Ik(C:Ctx n A env Φ)(h:Rel W Φ F st s)(x:oZ W F c fs ea oe vs s)(t:vs[1]? = some .none∨uY W F ea (fun v=>v = .none∨v=rawInt Φ.L) vs s)(hq:∀s',Rel W Φ F st s'→Fa W F c fs ea (fun v=>v=rawInt Φ.L) s'→X (.ref ea) s'):notedBy W.M A env X (.ref ea) s:=by
 unfold notedBy;exact sI C h x t hq
theorem xD(C:Ctx n A env Φ)(h:Rel W Φ F st s){P:Value→Prop}(x:Fa W F c fs ea P s)(hq:∀s',Rel W Φ F st s'→Fa W F c fs ea (fun v=>v=rawInt Φ.L) s'→X (.ref ea) s'):cameBackBy W.M A env X (.ref ea) s:=by
 unfold cameBackBy;have x0:=x;obtain⟨oe,vs,x,T,oT,ts,q1,_⟩:=x;refine aF (wpAny_field x.at_ x.data q1 ?_);rw[if_neg (show ¬((Value.ref T==Value.none)=true) from fun q=>Bool.noConfusion q),C.frame];exact jP h x0 (some Φ.L) hq
theorem pS:Tj W n:=by
 intro A env Φ F st s e ea Q X C hx hq;obtain⟨h,hm,c,fs,oe,vs,rfl,x,t⟩:=hx;unfold leaving;refine aF (sI C h x t fun s1 h1 x1=>jP h1 x1 none fun s2 h2 x2=>?_);obtain⟨oe',vs',x2,t2⟩:=x2;exact hq s2 h2 hm ⟨c,fs,oe',vs',rfl,x2,t2⟩
theorem Ax(C:Ctx n A env Φ){e:V}(hx:qI W Φ F e ea st s)(hq:∀s',qI W Φ F e ea st s'→X (.ref ea) s'):notedBy W.M A env (fun e s'=>cameBackBy W.M A env X e s') (.ref ea) s:=by
 obtain⟨h,hm,c,fs,oe,vs,rfl,x,t⟩:=hx
 exact Ik C h x t fun s1 h1 x1=>xD C h1 x1 fun s2 h2 x2=>by
  obtain⟨oe',vs',x2,t2⟩:=x2;exact hq s2 ⟨h2,hm,c,fs,oe',vs',rfl,x2,.inr (t2.mono fun v q=>.inr q)⟩
end
end
section
variable{Θ:Mn}
section
variable{W:Wd}{n:Nat}{O:Orc}{E:Ev}{st:St}{A A':Around}{env:Env}{Φ:Fm}{F F':Fz}{s:Shared}{X:Value→Shared→Prop}{b:Nat}{k:Fl→St→Θ.T}{ke:V→St→Θ.T}{Q:Flow→Shared→Prop}
theorem Rel.keepL(h:Rel W Φ F st s)(l:List Str):Rel W Φ F (st.keep l) s:=by
 refine aB h.loc fun m e lr=>?_;exact⟨h.ph,⟨m,e,fun x sl e=>lr x sl (jE e).1⟩,h.frs,h.foc,h.lax,h.ro⟩
theorem qI.keepL{e:V}{ea:Addr}(h:qI W Φ F e ea st s)(l:List Str):qI W Φ F e ea (st.keep l) s:=⟨h.1.keepL l,h.2⟩
theorem Ic(HT:jU W n E.test)(HX:cZ W n b E.execs){t:PySem.Expr}{bd:List PySem.Stmt}{ks:List Str}{j:Nat}{p:Pos}(hk:Θ.m (tJ j (E.test env.scope t) (fun s=>R.keep ks (E.execs env.scope bd s)) st Θ.T k ke Θ.z))(C:Ctx n A env Φ)(h:Rel W Φ F st s)(P:bJ b dR W Φ F k ke Q X) :
  wpAny W.M A (exec (.While t bd [] p) env) Q X s:=by
 refine wpAny_While (codeAny_whileLoop (fun m s=>∃F1 st1,Ext b Φ.d F F1∧Rel W Φ F1 st1 s∧Θ.m (tJ m (E.test env.scope t) (fun s=>R.keep ks (E.execs env.scope bd s)) st1 Θ.T k ke Θ.z)) ?_ j ⟨F,st,.refl _ _ _,h,hk⟩)
 rintro m s1 ⟨F1,st1,x1,h1,k1⟩
 cases m with
 | zero=>exact (Θ.nz k1).elim
 | succ m=>
  have er:∀{e:V} {ea:Addr} {st:St} {s:Shared} {F':Fz},Ext 0 Φ.d F F'→qI W Φ F' e ea st s→Θ.m (ke e st)→notedBy W.M A env (fun e s'=>cameBackBy W.M A env X e s') (.ref ea) s:=fun x hx k=>Ax C hx fun s' hx'=>P.err x hx' k;refine HT k1 C h1 ⟨fun {c _ _ _ _} x2 h2 e2 k2=>?_,fun x hx k=>er (x1.weak.trans x) hx k⟩
  cases e2
  have x12:=x1.trans x2.of_true
  cases c with
  | false=>exact wpAny_execs_nil (P.ok x12 h2 .next k2)
  | true=>
   refine HX k2 C h2 ⟨fun x3 h3 f3 k3=>?_,fun x hx k=>er (x12.weak.trans x) (hx.keepL ks) k⟩;have h3:=h3.keepL ks;have x13:=x12.trans x3
   cases f3 with
   | next=>exact⟨m,Nat.lt_succ_self m,_,_,x13,h3,k3⟩
   | cont=>exact⟨m,Nat.lt_succ_self m,_,_,x13,h3,k3⟩
   | brk=>exact P.ok x13 h3 .next k3
   | ret hv=>exact P.ok x13 h3 (.ret hv) k3
theorem sH{k:Bool→St→Θ.T}{Q:Bool→Shared→Prop}(T:cM W O)(HE:aR W n E.eval){e:PySem.Expr}(hw:isTrue e env (eval e env)=(do let v ←eval e env;standAt e.pos;holding [v] (truthy v)))(hk:Θ.m (xM O E env.scope e st Θ.T k ke Θ.z))(C:Ctx n A env Φ)(h:Rel W Φ F st s)(P:bJ 2 Jn W Φ F k ke Q X) :
  wpAny W.M A (isTrue e env (eval e env)) Q X s:=by
 rw[hw];refine aF ?_;unfold xM at hk
 cases ho:bH O env.scope e st with
 | some q=>
  rw[ho] at hk;exact wpAny_mono (vD T C h ho hk (Q:=Q) fun b t hk=>P.here (h.toks t) rfl hk) (fun _ _ z=>aF (wpAny_standAt (wpAny_holding z))) fun _ _ z=>z
 | none=>
  rw[ho] at hk;refine HE hk C h ⟨fun x h1 hv hk=>?_,P.err⟩;refine aB (aC hk) fun b hb hk=>?_;exact aF (wpAny_standAt (wpAny_holding (lX h1 hb hv fun t=>P.ok x (h1.toks t) rfl hk)))
theorem Ig(T:cM W O)(HE:aR W (n+1) E.eval)(HT:jU W (n+1) E.test):jU W (n+1) (Xy O E):=by
 intro Θ e st k ke A env Φ F s Q X hk C h P
 cases e with
 | UnaryOp op x p=>
  cases op with
  | Not=>exact wpAny_isTrue_Not (HT hk C h ⟨fun x1 h1 e1 k1=>by cases e1;exact P.ok x1 h1 rfl k1,P.err⟩)
  | _=>exact sH T HE rfl hk C h P
 | BoolOp op vs p=>exact Iy HT C hk h P
 | Compare l ops rs p=>exact xA T HE hk C h P
 | IfExp a b c p=>exact (Θ.nz hk).elim
 | _=>exact sH T HE rfl hk C h P
end
end
end
section
open PySem.Calls PyProof.Rows PySem.AutoSeq1 PySem.MeetsSeq
section
variable{Θ:Mn}
noncomputable def FM:PySem.Stmt→Option (Str×Str×Str)
 | .Assign ts v _=>(one ts).bind fun t=>(wF t).bind fun q=>(cR q.1).bind fun s=>(cR v).map fun y=>(s,q.2,y)
 | _=>none
noncomputable def Yp(x:Str)(b:PySem.Stmt):Bool:=decide (FM b=some (("self" : Str),x,x))
noncomputable def tU:List Str→List PySem.Stmt→Bool
 | [],[]=>true
 | x::xs,b::bs=>Yp x b&&tU xs bs
 | _,_=>false
theorem vW{x:Str}{b:PySem.Stmt}(h:Yp x b=true):∃p q r u,b = .Assign [.Attribute (.Name ("self" : Str) p) x q] (.Name x r) u:=by
 have h:=aI h
 cases b with
 | Assign ts v u=>
  refine aB (aD h) fun t e1 h=>?_;obtain⟨⟨o,a⟩,e2,h⟩:=aD h;refine aB (aD h) fun s e3 h=>?_;refine aB (aM h) fun y e4 h=>?_
  cases h
  obtain rfl:=bZ e1;refine bG (mP e2) fun q e1=>?_;subst e1;refine bG (bM e3) fun p e1=>?_;subst e1;refine bG (bM e4) fun r e1=>?_;subst e1;exact⟨p,q,r,u,rfl⟩
 | _=>exact ox h
section
variable{F:Fz}
theorem FRv.put_new{x:Str}{v:V}{r:Value}(hv:VR F v r)(hsh:Int)(t:Tok){fs:List (Str×V)}:∀{es:List DictEntry},FRv F fs es→look x fs=none→FRv F (fs++[(x,v)]) (putL x hsh (.str x t) r es):=by
 induction fs with
 | nil=>intro es h _;cases h;exact .cons hv .nil
 | cons p fs ih=>
  intro es h e
  cases h with
  | @cons y hh t' w r' _ es h h'=>
   have e:(if y=x then some w else look x fs)=none:=e
   by_cases q:y=x
   ·rw[if_pos q] at e;exact sx e
   ·rw[if_neg q] at e
    unfold putL;rw[if_neg (by show ¬(Value.str y t').isStr x=true;rw[tT q];exact Bool.false_ne_true)];exact .cons h (ih h' e)
theorem Kg{x y:Str}{v:V}{fs:List (Str×V)}:look x fs=none→y≠x→look x (fs++[(y,v)])=none:=by
 induction fs with
 | nil=>exact fun _ q=>if_neg q
 | cons p fs ih=>
  intro e q;have e:(if p.1=x then some p.2 else look x fs)=none:=e;show (if p.1=x then some p.2 else look x (fs++[(y,v)]))=none
  by_cases z:p.1=x
  ·rw[if_pos z] at e;exact sx e
  ·rw[if_neg z] at e ⊢;exact ih e q
end
section
variable{W:Wd}{n:Nat}{O:Orc}{E:Ev}{st:St}{A A':Around}{env:Env}{Φ:Fm}{F F':Fz}{s:Shared}{X:Value→Shared→Prop}
theorem uE(nodbg:env.scope.names.lookup ("__debug__" : Str)=none){y:Str}(hy:env.scope.names.lookup y=some .local):(y==("__debug__" : Str))=false:=by
 cases q:y==("__debug__" : Str) with
 | false=>rfl
 | true=>rw[beq_iff_eq.mp q,nodbg] at hy;exact ox hy
structure Hm(W:Wd)(L x d:Addr)(ox:Obj)(m:Str→Option Value)(h:Heap):Prop where
 ns:h.Ns L m
 base:∀a o,W.base.get? a=some o→h.get? a=some o
 x:h.get? x=some ox
theorem Hm.same{L x d:Addr}{ox:Obj}{m:Str→Option Value}{h h':Heap}(a:Hm W L x d ox m h)(hs:Heap.SameBut d h h')(dL:d≠L)(dx:d≠x)(dB:W.base.get? d=none):Hm W L x d ox m h':=
 ⟨a.ns.sameBut hs (Ne.symm dL),fun b o e=>(hs.2 b fun q=>by rw[q,dB] at e;cases e).trans (a.base b o e),(hs.2 x (Ne.symm dx)).trans a.x⟩
theorem zQ{x d:Addr}{ox:Obj}{ok:Str→Bool}(hset:∀{s:Shared} {es:List DictEntry} {j:Nat} {name:Str} {v:Value} {Q:Unit→Shared→Prop},W.K.In s.heap→s.heap.get? x=some ox→s.heap.get? d=some (dictOf es j)→ok name=true→(getL name es).isSome=true→es.length≤200→
   (∀h' hsh t,Heap.SameBut d s.heap h'→h'.get? d=some (dictOf (putL name hsh (.str name t) v es) (putN name es j))→Q () {s with heap:=h',toks:=s.toks+2})→wpAny W.M A (setAttr (.ref x) name v) Q X s)
  {m:Str→Option Value} (hk:env.scope.kind = .function) (nodbg:env.scope.names.lookup ("__debug__" : Str)=none) (hs:env.scope.names.lookup ("self" : Str)=some .local) (hself:m ("self" : Str)=some (.ref x)) (dL:d≠env.locals) (dx:d≠x) (dB:W.base.get? d=none) {Q:Flow→Shared→Prop} (l:List (Str×V)) :
  ∀(body:List PySem.Stmt) (fs:List (Str×V)) (es:List DictEntry) (j:Nat) (s:Shared),tU (l.map (·.1)) body=true→(∀p∈l,env.scope.names.lookup p.1=some .local∧ok p.1=true∧look p.1 fs=none∧∃r,m p.1=some r∧VR F p.2 r)→(l.map (·.1)).Nodup→
   Hm W env.locals x d ox m s.heap→s.heap.get? d=some (dictOf es j)→FRv F fs es→es.length+l.length≤100→
   (∀h' t es' j',Heap.SameBut d s.heap h'→h'.get? d=some (dictOf es' j')→FRv F (fs++l) es'→Q .next {s with heap:=h',toks:=t})→wpAny W.M A (execs body env) Q X s:=by
 induction l with
 | nil=>
  intro body fs es j s h1 _ _ _ hd hf _ hq
  cases body with
  | nil=>exact wpAny_execs_nil (hq s.heap s.toks es j (Heap.SameBut.refl _ _) hd (by rw[cA];exact hf))
  | cons b r=>exact bx h1
 | cons p l ih=>
  intro body fs es j s h1 hl nd hn hd hf hz hq
  cases body with
  | nil=>exact bx h1
  | cons b body=>
   refine bc fun hG=>?_;obtain⟨p,v⟩:=p;refine aE (aA h1) fun h1 h2=>?_;refine IG (vW h1) fun p1 p2 p3 p4 e4=>?_;subst e4;obtain⟨l1,l2,l3,r,l4,l5⟩:=hl _ (.head _);refine hG ?_;clear hG;rw[List.map_cons,List.nodup_cons] at nd;refine wpAny_execs_cons (plainObj_wpAny_Assign_Attribute (wpAny_Name (wpAny_loadName_local hk l1 hn.ns l4 ?_) (uE nodbg l1)) (dZ (t:=some _) rfl rfl));refine wpAny_Name (wpAny_loadName_local hk hs hn.ns hself ?_) (uE nodbg hs);have hg:=hf.getL (a:=p);rw[show look p fs=none from l3] at hg;have hz:es.length+(l.length+1)≤100:=hz;refine hset (W.X.keeps hn.base) hn.x hd l2 (by rw[show getL p es=_ from hg];rfl) (by lia) fun h' hsh t hsb hd'=>?_;refine ih body (fs++[(p,v)]) (putL p hsh (.str p t) r es) (putN p es j) _ h2 (fun y hy=>?_) nd.2 (hn.same hsb dL dx dB) hd' (hf.put_new l5 hsh t l3) (by have:=(kS p hsh (.str p t) r es).1;lia) fun h'' t' es' j' hsb' hd'' hf'=>?_
   ·refine oQ (hl y (.tail _ hy)) fun y1 y2 y3 y4=>?_
    exact⟨y1,y2,Kg y3 fun (q:p=y.1)=>nd.1 (List.mem_map.mpr ⟨y,hy,q.symm⟩),y4⟩
   ·rw[fY] at hf'
    exact hq h'' t' es' j' (hsb.trans hsb') hd'' hf'
theorem Ci{ps:List Str}:∀{args:List V} {kw df l:List (Str×V)},lT ps args kw df=some l→l.map (·.1)=ps:=by
 induction ps with
 | nil=>
  intro args kw df l e
  cases args with
  | nil=>obtain rfl:=so e;rfl
  | cons=>exact ox e
 | cons p ps ih=>
  intro args kw df l e
  cases args with
  | cons v vs=>
   refine aB (aM e) fun l' e' e2=>?_;subst e2;exact congrArg (p :: ·) (ih e')
  | nil=>
   unfold lT at e
   cases q:look p kw with
   | some v=>
    rw[q] at e;refine aB (aM e) fun l' e' e2=>?_;subst e2;exact congrArg (p :: ·) (ih e')
   | none=>
    rw[q] at e;refine aB (aD e) fun v _ e=>?_;refine aB (aM e) fun l' e' e2=>?_;subst e2;exact congrArg (p :: ·) (ih e')
theorem wL{ps:List Str}{args:List V}{kw df l:List (Str×V)}(e:kB ps args kw df=some l):GS (ps.drop args.length) kw=true∧lT ps args kw df=some l:=by
 refine aB (aD e) fun _ e1 e2=>?_;exact⟨(bX e1).1,e2⟩
theorem lU{ps:List Str}{args:List V}{kw df l:List (Str×V)}(e:kB ps args kw df=some l):l.map (·.1)=ps:=Ci (wL e).2
theorem Ow{l:List (Str×V)}{p:Str×V}:(l.map (·.1)).Nodup→p∈l→look p.1 l=some p.2:=by
 induction l with
 | nil=>exact fun _ h=>nomatch h
 | cons q l ih=>
  intro nd h;rw[List.map_cons,List.nodup_cons] at nd;show (if q.1=p.1 then some q.2 else look p.1 l)=_
  rcases al_mc h with rfl|h
  ·rw[if_pos rfl]
  ·rw[if_neg fun e=>nd.1 (by rw[e];exact List.mem_map_of_mem h)];exact ih nd.2 h
structure iA(W:Wd)(ok:Str→Bool)(c:Addr)(ps:fM)(fI:Addr)(fd:FuncData)(body:List PySem.Stmt):Prop where
 keep:keepIn W.K (.ref c)=true
 init:findIn W.K (.ref c) "__init__" = some (some (.ref fI))
 fn:typeIn W.K (.ref fI)=some (.type "function")
 ff:hO W fI fd body
 rows:tU ps.1 body=true
 self:fd.scope.names.lookup ("self" : Str)=some .local
 locs:∀p∈ps.1,fd.scope.names.lookup p=some .local∧ok p=true
 nd:ps.1.Nodup
 few:ps.1.length≤20
 bind:pA W fd true ps
theorem Ctx.under{a:Args}(C:Ctx (n+1) A env Φ):Ctx n (A.under (.builtin "type.__call__" a)) env Φ where
 kind:=C.kind
 locals:=C.locals
 frame:=C.frame
 globals:=C.globals
 builtins:=C.builtins
 nodbg:=C.nodbg
 frames:=by
  refine aB C.frames fun outer o1 o2=>?_;refine⟨outer,?_,o2⟩;show pushEnvs (Code.builtin "type.__call__" a).envs A.frames=_;rw[show (Code.builtin "type.__call__" a).envs=[] from by kernel_rfl,o1];rfl
 handled:=C.handled
 depth:=by
  show A.depth+(Code.builtin "type.__call__" a).weight+8*n<recursionLimit
  have:(Code.builtin "type.__call__" a).weight≤1:=by
   unfold Code.weight;rw[show (Code.builtin "type.__call__" a).frames=0 from by kernel_rfl,show (Code.builtin "type.__call__" a).isGuard=false from by kernel_rfl,show (Code.builtin "type.__call__" a).isCaller=false from by kernel_rfl]
   split<;>simp
  exact zk C.depth (aJ this (by decide))
 units:=by
  show A.units+(Code.builtin "type.__call__" a).cUnits+20*n<cLine
  have:(Code.builtin "type.__call__" a).cUnits=1:=by kernel_rfl
  exact zk C.units (aJ (Nat.le_of_eq this) (by decide))
end
end
section
variable{Θ:Mn}
section
variable{W:Wd}{n:Nat}{O:Orc}{E:Ev}{st:St}{A A':Around}{env:Env}{Φ:Fm}{F F':Fz}{s:Shared}{X:Value→Shared→Prop}
theorem sS{ok:Str→Bool}{c fI:Addr}{fd:FuncData}{body:List PySem.Stmt}{ps:fM}(MF:iA W ok c ps fI fd body){vs:List V}{ks l:List (Str×V)}{rs:List Value}{rks:List (Str×Value)}(e:kB ps.1 vs ks ps.2=some l)(XK:W.K.In s.heap)(hB:∀a o,W.base.get? a=some o→F.H a = .frz o)(x:Addr)(hvs:VRs F vs rs)(hks:KRs F ks rks) :
  tU (l.map (·.1)) body=true∧(l.map (·.1)).Nodup∧l.length≤20∧∃binds,BindsTo s fd ⟨.ref x::rs,rks⟩ binds∧(∀y∈binds,fd.scope.names.lookup y.1=some .local)∧binds.reverse.lookup ("self" : Str)=some (.ref x)∧(∀p∈l,fd.scope.names.lookup p.1=some .local∧ok p.1=true∧∃r,binds.reverse.lookup p.1=some r∧VR F p.2 r):=by
 have en:=lU e
 have nd:(l.map (·.1)).Nodup:=by rw[en];exact MF.nd
 have le:F.le ⟨F.H,F.la,some x⟩:=fun _ _ e=>e;refine bc fun hG=>?_;refine Ca (MF.bind (F:=⟨F.H,F.la,some x⟩) (first:=[.ref x]) e XK hB ⟨x,rfl,rfl⟩ (hvs.mono le) (hks.mono le)) fun binds b1 b2 b3 b4=>?_;refine aB (b4 rfl) fun x' e1 e2=>?_;obtain rfl:=so e2;refine hG ?_;clear hG;refine⟨by rw[en];exact MF.rows,nd,by rw[←List.length_map (f:=(·.1)),en];exact MF.few,binds,b1,b2,e1,fun p hp=>?_⟩
 have hm:p.1∈ps.1:=by rw[←en];exact List.mem_map.mpr ⟨p,hp,rfl⟩
 refine aB (b3 p.1 p.2 (Ow nd hp)) fun r r1 r2=>?_;exact⟨(MF.locs p.1 hm).1,(MF.locs p.1 hm).2,r,r1,VR.mono (F:=⟨F.H,F.la,some x⟩) (F':=F) (fun _ _ e=>e) r2⟩
theorem Mv{c fI:Addr}{fd:FuncData}{body:List PySem.Stmt}{ps:fM}(mk:makesIn W.K c=true)(MF:iA W (qO W.K c) c ps fI fd body){vs:List V}{ks fs:List (Str×V)}{rs:List Value}{rks:List (Str×Value)}{Q:Value→Shared→Prop}
  (C:Ctx (n+2) A env Φ) (h:Rel W Φ F st s) (hvs:VRs F vs rs) (hks:KRs F ks rks) (e:kB ps.1 vs ks ps.2=some fs) (hp:gY W Φ F st (.obj c fs) Q):wpAny W.M A (call (.ref c) rs rks) Q X s:=by
 have big:=h.above;obtain⟨hh,g,dr,t,os⟩:=s;have XK:=h.ph.inK;have big:W.base.objs.size≤hh.objs.size:=big;refine wpAny_call (make_core (makes_of XK mk) (looks_findIn XK MF.init) (fun self=>bind_fn XK self MF.fn) (.inl rfl) ?_);have C1:=C.under (a:=⟨.ref c::rs,rks⟩);have k2:∀b o,hh.get? b=some o→((hh.push emptyDict).push (instObj c hh.objs.size)).get? b=some o:=fun b o e=>Heap.get?_push_of_some _ (Heap.get?_push_of_some _ e)
 have hx2:((hh.push emptyDict).push (instObj c hh.objs.size)).get? (hh.objs.size+1)=some (instObj c hh.objs.size):=by
  have:=Heap.get?_push_size (hh.push emptyDict) (o:=instObj c hh.objs.size) rfl
  rwa [Heap.size_push] at this
 have hd2:((hh.push emptyDict).push (instObj c hh.objs.size)).get? hh.objs.size=some (dictOf [] 0):=Heap.get?_push_of_some _ (Heap.get?_push_size hh (o:=emptyDict) rfl)
 have sz2:((hh.push emptyDict).push (instObj c hh.objs.size)).objs.size=hh.objs.size+2:=by rw[Heap.size_push,Heap.size_push]
 revert k2 hx2 hd2 sz2;generalize (hh.push emptyDict).push (instObj c hh.objs.size)=h2;intro k2 hx2 hd2 sz2;have XK2:W.K.In h2:=XK.keeps k2;refine bc fun hG=>?_;obtain⟨r1,r2,r3,binds,b1,b2,b3,b4⟩:=sS (s:=⟨h2,g,dr,t,os⟩) MF e XK2 h.ph.base (hh.objs.size+1) hvs hks;refine jS MF.ff.at_ fun oc od sl ho=>?_;refine hG ?_;clear hG;have FF:=MF.ff;refine codeAny_call_def (fd:=fd) (body:=body) (binds:=binds) (by have:=C1.depth;exact zd ‹_›) (XK2 _ _ ho) rfl (W.nolimit.keeps fun a o e=>k2 _ _ (h.ph.old a o e)) (codeRec_of XK2 FF.code) FF.body b1 FF.cell b2 (fun h₁ hns hk=>?_) FF.co FF.gen FF.kind;have dB:W.base.get? hh.objs.size=none:=oL big
 refine zQ (ok:=qO W.K c) (ox:=instObj c hh.objs.size) (fun a b c d e f g=>Fj a b c d e f g) (x:=hh.objs.size+1) (d:=hh.objs.size) (m:=fun y=>binds.reverse.lookup y) FF.kind FF.nodbg MF.self b3 (by
   show hh.objs.size≠h2.objs.size
   rw[sz2];lia) (Nat.ne_of_lt (Nat.lt_succ_self _)) dB fs body [] [] 0 _ r1 (fun p hp=>⟨(b4 p hp).1,(b4 p hp).2.1,rfl,(b4 p hp).2.2⟩) r2 ⟨hns,fun a o e=>hk _ _ (k2 _ _ (h.ph.old a o e)),hk _ _ hx2⟩ (hk _ _ hd2) .nil (by show 0+fs.length≤100;lia) fun h' t' es' j' hsb hd' hf=>?_
 refine⟨rfl,?_⟩;have kp:∀b o,hh.get? b=some o→h'.get? b=some o:=fun b o e=>(hsb.2 b (Nat.ne_of_lt (Heap.lt_size e))).trans (hk _ _ (k2 _ _ e));have f1:F.H hh.objs.size = .free:=h.ph.new (aK _);have f2:F.H (hh.objs.size+1) = .free:=h.ph.new (Nat.le_succ _);have h3:Rel W Φ (F.set hh.objs.size (.frz (dictOf es' j'))) st ⟨h',g,dr,t',os⟩:=h.add (h':=h') (t:=t') (c:=.frz (dictOf es' j')) f1 (fun b o _=>kp b o) hd';have f3:(F.set hh.objs.size (.frz (dictOf es' j'))).H (hh.objs.size+1) = .free:=(F.set_ne _ (Nat.succ_ne_self _)).trans f2;have h4:=h3.add (t:=t') (c:=.frz (instObj c hh.objs.size)) f3 (fun _ _ _ e=>e) ((hsb.2 (hh.objs.size+1) (Nat.succ_ne_self _)).trans (hk _ _ hx2));have x1:Ext 2 Φ.d F (F.set hh.objs.size (.frz (dictOf es' j'))):=.add f1;have x2:Ext 2 Φ.d (F.set hh.objs.size (.frz (dictOf es' j'))) _:=.add (c:=.frz (instObj c hh.objs.size)) f3;exact hp (x1.trans x2) h4 (.obj (Fz.set_self _ _ _) (x2.le _ _ (Fz.set_self _ _ _)) (hf.mono (x1.trans x2).le))
end
end
section
variable{Θ:Mn}
section
variable{W:Wd}{n:Nat}{O:Orc}{E:Ev}{st:St}{A A':Around}{env:Env}{Φ:Fm}{F F':Fz}{s:Shared}{X:Value→Shared→Prop}
structure jJ(W:Wd)(n:Nat)(sp:aY)(fI:Addr):Prop where
 keep:keepIn W.K (.ref W.scan)=true
 makes:makesIn W.K W.scan=true
 init:findIn W.K (.ref W.scan) "__init__" = some (some (.ref fI))
 fn:typeIn W.K (.ref fI)=some (.type "function")
 snd:aW W n fI true sp
theorem Ctx.less(C:Ctx (n+1) A env Φ):Ctx n A env Φ:={C with depth:=by have:=C.depth;exact zn ‹_›,units:=by have:=C.units;exact zn ‹_›}
theorem Rel.newMe(h:Rel W Φ F st s)(hm:F.me=none){h':Heap}{t:Nat}(hx:h'.get? (s.heap.objs.size+1)=some (instObj W.scan s.heap.objs.size))(hd:h'.get? s.heap.objs.size=some (dictOf [] 0))(hk:∀b o,s.heap.get? b=some o→h'.get? b=some o) :
  ∃F',Ext 0 Φ.d F F'∧F'.me=some (s.heap.objs.size+1)∧Rel W Φ F' ⟨st.loc,[],true⟩ {s with heap:=h',toks:=t}:=by
 have f1:F.H s.heap.objs.size = .free:=h.ph.new (aK _);have f2:F.H (s.heap.objs.size+1) = .free:=h.ph.new (Nat.le_succ _);have h1:=h.add (t:=t) (h':=h') (c:=.own (.fld (s.heap.objs.size+1) none) (dictOf [] 0)) f1 (fun b o _=>hk b o) ⟨hd,h.above⟩;have f3:(F.set s.heap.objs.size (.own (.fld (s.heap.objs.size+1) none) (dictOf [] 0))).H (s.heap.objs.size+1) = .free:=(F.set_ne _ (Nat.succ_ne_self _)).trans f2;have h2:=h1.add (t:=t) (h':=h') (c:=.frz (instObj W.scan s.heap.objs.size)) f3 (fun _ _ _ e=>e) hx;have x1:Ext 0 Φ.d F (F.set s.heap.objs.size (.own (.fld (s.heap.objs.size+1) none) (dictOf [] 0))):=.add f1;have x2:Ext 0 Φ.d (F.set s.heap.objs.size (.own (.fld (s.heap.objs.size+1) none) (dictOf [] 0))) _:=.add (c:=.frz (instObj W.scan s.heap.objs.size)) f3;revert h2 x2;have e1:((F.set s.heap.objs.size (.own (.fld (s.heap.objs.size+1) none) (dictOf [] 0))).set (s.heap.objs.size+1) (.frz (instObj W.scan s.heap.objs.size))).H s.heap.objs.size = .own (.fld (s.heap.objs.size+1) none) (dictOf [] 0):=(Fz.set_ne _ _ (Nat.ne_of_lt (Nat.lt_succ_self _))).trans (F.set_self _ _);have e2:=Fz.set_self (F.set s.heap.objs.size (.own (.fld (s.heap.objs.size+1) none) (dictOf [] 0))) (s.heap.objs.size+1) (.frz (instObj W.scan s.heap.objs.size));have e3:((F.set s.heap.objs.size (.own (.fld (s.heap.objs.size+1) none) (dictOf [] 0))).set (s.heap.objs.size+1) (.frz (instObj W.scan s.heap.objs.size))).la=F.la:=rfl;have e4:((F.set s.heap.objs.size (.own (.fld (s.heap.objs.size+1) none) (dictOf [] 0))).set (s.heap.objs.size+1) (.frz (instObj W.scan s.heap.objs.size))).me=F.me:=rfl;revert e1 e2 e3 e4;generalize (F.set s.heap.objs.size (.own (.fld (s.heap.objs.size+1) none) (dictOf [] 0))).set (s.heap.objs.size+1) (.frz (instObj W.scan s.heap.objs.size))=F2;intro e1 e2 e3 e4 h2 x2;refine aB h2.loc fun m e lr=>?_;refine⟨⟨F2.H,F2.la,some (s.heap.objs.size+1)⟩,(x1.trans x2).trans ⟨fun _ _=>rfl,fun _ _ _ e=>e,fun q=>absurd q (Nat.not_succ_le_zero _)⟩,rfl,⟨h2.ph.z,h2.ph.base,h2.ph.gens,h2.ph.os⟩,⟨m,e,fun x sl q=>?_⟩,h2.frs,.inr ⟨_,_,[],0,rfl,e2,e1,fun a=>rfl,aK _,fun y a q=>?_⟩,h2.lax,fun q=>Bool.noConfusion q⟩
 ·have z:=lr x sl q
  have k:F2.le ⟨F2.H,F2.la,some (s.heap.objs.size+1)⟩:=fun _ _ e=>e;clear e1 e2 f1 f3 h1 h2 hd hk hx lr t x1 x2
  cases sl with
  | val v=>obtain⟨r,e,hv⟩:=z;exact⟨r,e,hv.mono k⟩
  | lst l=>obtain⟨a,vs,n,e,h,hv,hl⟩:=z;exact⟨a,vs,n,e,h,hv.mono k,hl⟩
  | dct l=>exact z
  | gone=>exact z
  | self=>
   refine aB z fun a _ q=>?_;clear z;rw[e4,hm] at q;exact ox q
 ·have q:F2.la (s.heap.objs.size+1) y=some a:=q
  rw[e3] at q;refine bG (h.lax _ _ _ q) fun o q2=>?_;rw[f2] at q2;cases q2
theorem Mq{sp:aY}{fI:Addr}(SF:jJ W n sp fI){vs:List V}{rs:List Value}{k:V→aL→Θ.T}{Q:Value→Shared→Prop}(hk:Θ.m (sp vs [] [] Θ.T k (fun _=>Θ.z) Θ.z))(C:Ctx (n+1) A env Φ)(h:Rel W Φ F st s)(hvs:VRs F vs rs)
  (hp:∀{v fl x s' F'},Ext 0 Φ.d F F'→Rel W Φ F' ⟨lD st.loc,fl,true⟩ s'→F'.me=some x→Θ.m (k v fl)→isNone v=true∧Q (.ref x) s'):wpAny W.M A (call (.ref W.scan) rs []) Q X s:=by
 have hd:=h.dead;obtain⟨hh,g,dr,t,os⟩:=s;have XK:=h.ph.inK;refine wpAny_call (make_core (makes_of XK SF.makes) (looks_findIn XK SF.init) (fun self=>bind_fn XK self SF.fn) (.inl rfl) ?_)
 have hx2:((hh.push emptyDict).push (instObj W.scan hh.objs.size)).get? (hh.objs.size+1)=some (instObj W.scan hh.objs.size):=by
  have:=Heap.get?_push_size (hh.push emptyDict) (o:=instObj W.scan hh.objs.size) rfl
  rwa [Heap.size_push] at this
 clear XK h;refine fA (hd.newMe (t:=t) rfl hx2 (Heap.get?_push_of_some _ (Heap.get?_push_size hh (o:=emptyDict) rfl)) fun b o e=>Heap.get?_push_of_some _ (Heap.get?_push_of_some _ e)) fun F1 x1 m1 R1=>?_;have x01:=(Ext.dead Φ.d).trans x1;refine SF.snd (first:=[.ref (hh.objs.size+1)]) (kw:=[]) (rks:=[]) hk (C.under (a:=⟨.ref W.scan::rs,[]⟩)) R1 ⟨_,rfl,m1⟩ (hvs.mono x01.le) .nil (fun {v fl rv s' F'} x h' hv k1=>?_) fun _ _ q=>(Θ.nz q).elim;refine aE (hp (x01.trans x.weak) h' ((x.me (Nat.le_succ 1)).trans m1) k1) fun z hq=>?_;refine⟨?_,hq⟩;have hv:=hv.view;clear C R1 SF h' hd hk hp hq hvs hx2 k1 m1 rs s' t x x01 x1 Φ
 cases v with
 | none=>exact hv
 | _=>exact Bool.noConfusion z
theorem Ii{b:Nat}{k:Fl→St→Θ.T}{ke:V→St→Θ.T}{Q:Flow→Shared→Prop}(hb:b=0)(T:cM W O)(NS:dU E)(HE:aR W (n+1) E.eval)(SFs:∀sp,look ("__init__" : Str) O.meth=some sp→∃fI,jJ W n sp fI){x g:Str}{xp gp cp p:Pos}{args:List PySem.Expr}
  (hg:cL env.scope g=true) (hc:look g O.glob=some (.cls W.scan)) (hk:Θ.m (Fn O E env.scope x args st Θ.T k ke Θ.z)) (C:Ctx (n+1) A env Φ) (h:Rel W Φ F st s) (P:bJ b dR W Φ F k ke Q X):wpAny W.M A (exec (.Assign [.Name x xp] (.Call (.Name g gp) args [] cp) p) env) Q X s:=by
 subst hb;unfold Fn at hk
 cases hs:look ("__init__" : Str) O.meth with
 | none=>rw[hs] at hk;exact (Θ.nz hk).elim
 | some sp=>
  rw[hs] at hk;refine aE (aS hk) fun ok hk=>?_;refine aE (aA ok) fun o1 o2=>?_;refine bG (SFs sp hs) fun fI SF=>?_;refine wpAny_Assign_Name (Call_Name rfl (jB T.glob C h hg hc fun r hr=>?_)) (dZ (t:=some _) rfl rfl);have hc:=(hr F h.ph.base).view;rw[show r=_ from hc]
  refine kP NS HE (mH o1) SF.keep (first:=[]) (kws:=[]) (ke:=ke) (g:=fun vs _ st P' k' _ b'=>sp vs [] [] P' (fun v fl=>match isNone v with
   | true=>k' .none ⟨put x .self (lD st.loc),fl,true⟩
   | false=>b') (fun _=>b') b') (k:=fun _ st=>k .next st) hk C h P.err fun {vs ks st1 rs rks s1 F1} x1 h1 v1 k1 l1 hk1=>?_
  clear HE NS SFs T h hc hg hk hr k1 ks o1 r;obtain rfl:=l1.2 rfl;refine Mq SF hk1 C h1 v1 fun {v fl y s' F'} x2 h2 m2 k2=>?_;clear SF h1 hk1 l1 v1
  cases z:isNone v with
  | false=>rw[z] at k2;exact (Θ.nz k2).elim
  | true=>
   rw[z] at k2;refine aB h2.loc fun m e0 l=>?_;refine⟨rfl,wpAny_storeName_local (cH o2) (by rw[C.locals];exact (h2.ph.frame e0).1) (fun h' hn hs=>?_) (by rw[C.kind];rfl)⟩;rw[C.locals] at hn hs;refine P.ok ((x1.weak.trans x2).trans (Rel.bind_ext (b:=0) (by decide) e0)) (h2.bind (t:=s'.toks+1) (loc:=put x .self (lD st1.loc)) e0 hn hs fun y' sl e=>?_) .next k2
   by_cases q:y'=x
   ·clear C P e0 h2 hn hs k2 o2 ok s' x1 x2 z
    subst q;rw[eV] at e;obtain rfl:=so e;rw[if_pos rfl];exact⟨y,rfl,m2⟩
   ·rw[iN (Ne.symm q)] at e
    rw[if_neg q];exact l y' sl e
end
end
section
variable{Θ:Mn}
set_option backward.match.sparseCases true in
noncomputable def iI(K:Frag)(C:Addr):Bool:=match K.lookup C with
 | some ⟨_,_,.cls cd,sl⟩=>!cd.hasDel&&((sl.toList[4]?).join==some (.builtin "Exception.__new__")&&(!cd.mro.isEmpty&&(cd.mro.contains (.ref C)&&(cd.mro.contains (.type "Exception")&&(cd.mro.contains (.type "BaseException") &&
   (!cd.mro.contains (.type "AttributeError")&&(!cd.mro.contains (.type "NameError")&&(specialIn K (.ref C) "__call__" == some (some (.builtin "type.__call__"))&&instIn K (.ref C) (.type "type")==some true))))))))
 | _=>false
structure Ey(M:Model)(h:Heap)(C:Addr):Prop where
 obj:∃oc od cd sl,h.get? C=some ⟨oc,od,.cls cd,sl⟩∧cd.hasDel=false∧cd.mro.isEmpty=false∧Looks M h (mroOf (.ref C)) cd.mro
 made:Looks M h (Bind.madeBy (.ref C)) (some "Exception.__new__")
 base:Looks M h (Bind.staticBase (.ref C)) (.ref C)
 self:Looks M h (isSubtype (.ref C) (.ref C)) true
 exc:Looks M h (isSubtype (.ref C) (.type "Exception")) true
 bexc:Looks M h (isSubtype (.ref C) (.type "BaseException")) true
 noA:Looks M h (isSubtype (.ref C) (.type "AttributeError")) false
 noN:Looks M h (isSubtype (.ref C) (.type "NameError")) false
 call:Looks M h (specialOf (.ref C) "__call__") (some (.builtin "type.__call__"))
 typ:Looks M h (isInstance (.ref C) (.type "type")) true
set_option tactic.hygienic true in
theorem pQ{M:Model}{h:Heap}{K:Frag}(X:K.In h){C:Addr}(e:iI K C=true):Ey M h C:=by
 unfold iI at e
 split at e
 ·rename_i oc od cd sl ho
  obtain⟨e2,e⟩:=aA e;obtain⟨e3,e⟩:=aA e;obtain⟨e4,e⟩:=aA e;obtain⟨e5,e⟩:=aA e;obtain⟨e6,e⟩:=aA e;obtain⟨e6',e⟩:=aA e;obtain⟨e6a,e⟩:=aA e;obtain⟨e6n,e⟩:=aA e;obtain⟨e7,e8⟩:=aA e;rw[Bool.not_eq_true'] at e2 e4 e6a e6n
  replace e3:=eq_of_beq e3
  replace e7:=eq_of_beq e7
  replace e8:=eq_of_beq e8
  have hc:clsIn K C=some cd:=by unfold clsIn;rw[ho]
  have hm:Looks M h (mroOf (.ref C)) cd.mro:=(looks_clsIn X hc).andThen .now
  obtain⟨c,l,hl⟩:∃c l,cd.mro=c::l:=by cases q:cd.mro with|nil=>rw[q] at e4;exact tz e4|cons c l=>exact⟨c,l,rfl⟩
  have made:Looks M h (Bind.madeBy (.ref C)) (some "Exception.__new__"):=by
   intro A Q E s k q;unfold Bind.madeBy;refine aF (hm A _ E s k ?_);rw[hl,List.forIn_cons];refine aF (aF (aF (aF (wpAny_loadPart (k _ _ (X _ _ ho)) (aP ?_)))));dsimp only;rw[←Array.getElem?_toList,e3];exact aP (aP (aP q))
  have mi:∀{b:Value} {r:Bool},cd.mro.contains b=r→Looks M h (isSubtype (.ref C) b) r:=fun {b r} hb=>looks_mroIn X (by unfold mroIn;rw[hc,Option.bind_some,if_neg (by rw[e4];decide),hb]);refine⟨⟨oc,od,cd,sl,X _ _ ho,e2,e4,hm⟩,made,?_,mi e5,mi e6,mi e6',mi e6a,mi e6n,looks_specialIn X e7,looks_instIn X e8⟩;intro A Q E s k q;unfold Bind.staticBase;refine aF (hm A _ E s k ?_);rw[hl,List.forIn_cons];exact aF (aF (aF (made A _ E s k (aP (aP (aP q))))))
 ·exact bx e
noncomputable abbrev eH(C t:Addr):Obj:={cls:=.ref C,data:=.fields #[.ref t,.none,.none,.none,.bool false,.none]}
section
variable{prog:Program}{w:World}{A:Around}{C:Addr}{R:Result→Shared→Prop}{h:Heap}{g:Array GenState}{d:Drawn}{t:Nat}{os:OsState}
theorem FW{rest:List Value}(Y:Ey (model prog w) h C)(hr:rest.length≤100)
  (hq:R (.ok (.ret (.ref (h.objs.size+1)))) ⟨(h.push {cls:=.type "tuple", data:=.seq rest.toArray}).push (eH C h.objs.size),g,d,t,os⟩) :
  codeAny (model prog w) A (.call (.builtin "Exception.__new__") ⟨.ref C::rest,[]⟩) R ⟨h,g,d,t,os⟩:=by
 obtain⟨⟨oc,od,cd,sl,hC,e2,e4,hm⟩,made,base,self,exc,bexc,noA,noN,call,typ⟩:=Y;have F:=PySem.F.excBase_Exception;have hstar:=F.noStar;refine codeAny_call_builtin_code (Code.quiet_builtin _ F.quiet) ?_;simp only[checkBuiltinCall,F.newKind,F.newSplit,F.newRow];have here:Looks (model prog w) h (Bind.madeHere "BaseException.__new__" (.ref C)) ():=base.andThen (made.andThen (Looks.of_pure (by simp only[Option.map_some,F.canon,bne_self_eq_false,Bool.false_eq_true,if_false])))
 have args:Bind.checkArgs "Exception.__new__" ⟨.any, "Exception", "Exception", .cls,[⟨"args", .varPos,false⟩,⟨"kwargs", .varKw,false⟩]⟩ ⟨.ref C::rest,[]⟩=pure ():=by kernel_rfl
 rw[args]
 repeat (first|simp only[bne_self_eq_false,Bool.false_eq_true,if_false]|lk)
 refine PyProof.Rows.codeAny_builtin_at F.entry ?_;unfold Builtin.«BaseException.__new__»;refine PyProof.Rows.wpAt_bind (wpAt_owner rfl F.ends (wpAt_of_any ?_));rw[F.owner];dsimp only;refine aF (Looks.at (r:=true) ((Looks.ld hC).andThen .now) ?_);simp only[Bool.not_true,Bool.false_eq_true,if_false];refine aF (exc.at ?_);simp only[Bool.not_true,Bool.false_eq_true,if_false];refine aF (here.at (aF ?_));refine Looks.at (r:=0) (noA.andThen ?_) ?_
 ·simp only[Bool.false_eq_true,if_false]
  refine Looks.andThen noN ?_;simp only[Bool.false_eq_true,if_false];exact .now
 dsimp only[List.replicate];unfold newTuple;refine aF (wpAny_newObj_type ?_ (by show rest.toArray.size≤sizeLine;rw[List.size_toArray,sizeLine_eq];exact aJ ‹_› (by decide)));have hC':=Heap.get?_push_of_some (eH C h.objs.size) (Heap.get?_push_of_some {cls:=.type "tuple", data:=.seq rest.toArray} hC);show wpAny _ _ (do let x ←newObj (.ref C) (.fields #[.ref h.objs.size,.none,.none,.none,.bool false,.none]);ret x) _ _ ⟨h.push {cls:=.type "tuple", data:=.seq rest.toArray},g,d,t,os⟩;refine aF ?_;unfold newObj;dsimp only;rw[if_neg (by rw[sizeLine_eq];simp)];unfold newObjAsIs classHasDel;refine aF (wpAny_alloc (aF (aF (wpAny_load hC' (aP ?_)))));rw[e2];refine aP (aP ?_);show R _ _;rw[Heap.size_push];exact hq
theorem Ot{rest:List Value}{init:Value}(Y:Ey (model prog w) h C)(hi:Looks (model prog w) h (typeLookup (.ref C) "__init__") (some init))
  (hb:∀self,Looks (model prog w) h (bindSpecial init self) (init,[self])) (hr:rest.length≤100)
  (hq:codeAny (model prog w) (A.under (.builtin "type.__call__" ⟨.ref C::rest,[]⟩)) (.call init ⟨.ref (h.objs.size+1)::rest,[]⟩) (InitBack (h.objs.size+1) R) ⟨(h.push {cls:=.type "tuple", data:=.seq rest.toArray}).push (eH C h.objs.size),g,d,t,os⟩) :
  codeAny (model prog w) A (.call (.ref C) ⟨rest,[]⟩) R ⟨h,g,d,t,os⟩:=by
 have Y':=Y;obtain⟨⟨oc,od,cd,sl,hC,e2,e4,hm⟩,made,base,self,exc,bexc,noA,noN,call,typ⟩:=Y;refine codeAny_of_tree ?_;show wpAny _ _ (callAny (.ref C) _) _ _ _;refine nd_load hC ?_;show wpAny _ _ (callAny.viaDunder (.ref C) _) _ _ _;unfold callAny.viaDunder;refine aF (call.at ?_);dsimp only;rw[tc_bind];refine aF (aP (aF (aP ?_)));refine aP (a:=Fin.again (.call (.builtin "type.__call__") ⟨.ref C::rest,[]⟩)) (And.intro rfl ?_);refine codeAny_call_builtin_at (Code.quiet_builtin _ (by decide +kernel)) entry_typeCall (check_slot tc_kind tc_split typ (tc_args _ _ _) ?_);unfold Builtin.«type.__call__»
 repeat (first|simp only[e4,Bool.false_eq_true,if_false]|with_reducible refine wpAny_call ?_|lk)
 refine FW Y' hr ?_;have k:∀b o,h.get? b=some o→((h.push {cls:=.type "tuple", data:=.seq rest.toArray}).push (eH C h.objs.size)).get? b=some o:=fun b o e=>Heap.get?_push_of_some _ (Heap.get?_push_of_some _ e)
 have hx:((h.push {cls:=.type "tuple", data:=.seq rest.toArray}).push (eH C h.objs.size)).get? (h.objs.size+1)=some (eH C h.objs.size):=by
  have:=Heap.get?_push_size (h.push {cls:=.type "tuple", data:=.seq rest.toArray}) (o:=eH C h.objs.size) rfl
  rwa [Heap.size_push] at this
 have t1:Looks (model prog w) ((h.push {cls:=.type "tuple", data:=.seq rest.toArray}).push (eH C h.objs.size)) (typeOf (.ref (h.objs.size+1))) (.ref C):=(Looks.ld hx).andThen .now;have s1:=self.keeps k;have i1:=hi.keeps k;have b1:=(hb (.ref (h.objs.size+1))).keeps k;unfold isInstance callSpecial? specialOf
 repeat (first|with_reducible refine wpAny_call ?_|lk)
 refine codeAny_mono hq fun r s' z=>?_
 rcases r with e|(v|_|_|_)<;>first|exact z|exact z.elim|skip
 obtain⟨rfl,z⟩:=z;exact aP (aP z)
end
end
end
section
open PySem.Calls PyProof.Rows PySem.AutoSeq1 PySem.MeetsSeq Builtin Builtin.ObjectAttr Builtin.Getset_descriptor
section
variable{Θ:Mn}
noncomputable def xN:List Value→Bool
 | .ref _::r=>xN r
 | l=>l==[.type "Exception", .type "BaseException", .type "object"]
noncomputable def yK(K:Frag)(C:Addr):Bool:=(clsIn K C).any fun cd=>xN cd.mro
theorem nG(self:Value):∀{l:List Value},xN l=true→refuseLoop self "__setattr__" l=pure ()∧l.contains (.type "object")=true∧l.isEmpty=false
 | .ref c::r,e=>by
  refine kG (nG self (l:=r) e) fun a b _=>?_;exact⟨by rw[refuseLoop_ref];exact a,by rw[List.contains_cons,b,Bool.or_true],rfl⟩
 | [],e=>by exact bx e
 | .none::r,e=>by exact bx e
 | .bool _::r,e=>by exact bx e
 | .type n::r,e=>by
  have:(Value.type n::r)=[.type "Exception", .type "BaseException", .type "object"]:=beq_iff_eq.mp e;rw[this];exact⟨PySem.F.store_Exception.passes self,PySem.F.store_Exception.hasOwner,rfl⟩
 | v::r,e=>by
  cases v with
  | ref c=>
   refine kG (nG self (l:=r) e) fun a b _=>?_;exact⟨by rw[refuseLoop_ref];exact a,by rw[List.contains_cons,b,Bool.or_true],rfl⟩
  | type n=>
   have:(Value.type n::r)=[.type "Exception", .type "BaseException", .type "object"]:=beq_iff_eq.mp e;rw[this];exact⟨PySem.F.store_Exception.passes self,PySem.F.store_Exception.hasOwner,rfl⟩
  | _=>
   have e':=beq_iff_eq.mp e
   cases e'
noncomputable def pG(K:Frag)(C:Addr)(name:Str):Bool:=findIn K (.ref C) "__setattr__" == some (some (.builtin "object.__setattr__"))&&(yK K C&&(takerIn K C name==some none&&hasDictIn K C))
section
variable{W:Wd}{n:Nat}{O:Orc}{E:Ev}{st:St}{A:Around}{env:Env}{s:Shared}{X:Value→Shared→Prop}
theorem Ft{C x:Addr}{ox:Obj}{name:Str}{tk:Tok}{v:Value}{R:Result→Shared→Prop}(XK:W.K.In s.heap)(hx:s.heap.get? x=some ox)(hc:ox.cls = .ref C)(hp:yK W.K C=true)(ht:takerIn W.K C name=some none)
  (h:∀b,wpAny W.M A.in1 (Builtin.ObjectAttr.storeInOwnDict (.ref x) (.ref C) (.str name tk) name v b)
   (fun fin s'=>match fin with | .done f=>R (.ok f) s' | .again c'=>c'.quiet=true∧codeAny W.M A c' R s') (fun e s'=>R (.error e) s') s) :
  codeAny W.M A (.call (.builtin "object.__setattr__") ⟨[.ref x,.str name tk,v],[]⟩) R s:=by
 have SF:=PySem.F.store_object;refine aB (any_some hp) fun cd hcd ho=>?_;refine kG (nG (.ref x) ho) fun r1 r2 r3=>?_;have ty:Looks W.M s.heap (typeOf (.ref x)) (.ref C):=hc▸(Looks.ld hx).andThen .now;have sub:Looks W.M s.heap (isInstance (.ref x) (.type "object")) true:=ty.andThen (looks_mroIn XK (by unfold mroIn;rw[hcd,Option.bind_some,if_neg (by rw[r3];decide),r2]));refine codeAny_call_builtin SF.slot.plain SF.entry (@check_slot W.M _ _ s "object.__setattr__" "object" "__setattr__" (.ref x) [.str name tk,v] [] _ SF.kind SF.split sub (SF.args (.ref x) (.str name tk) v) ?_);refine aB (Option.bind_eq_some_iff.mp ht) fun attr ha hr=>?_;have hm:Looks W.M s.heap (mroOf (.ref C)) cd.mro:=(looks_clsIn XK hcd).andThen .now
 have L3:Looks W.M s.heap (storeTaker? attr) none:=by
  cases attr with
  | none=>exact .now
  | some a=>
   refine aB (Option.map_eq_some_iff.mp hr) fun b hb e=>?_;refine (looks_takesIn XK hb).andThen ?_
   cases b with
   | true=>exact sx e
   | false=>exact .now
 rw[osa_eq,refuse_eq];refine aF (aF (ty.here (aF (hm.here ?_))));rw[r1];refine aP (aF (ty.here (aF ((looks_findIn XK ha).here (aF (L3.here ?_))))));exact h _
theorem sP{C x:Addr}{ox:Obj}{name:Str}{v:Value}{Q:Unit→Shared→Prop}(XK:W.K.In s.heap)(hx:s.heap.get? x=some ox)(hc:ox.cls = .ref C)(hs:findIn W.K (.ref C) "__setattr__" = some (some (.builtin "object.__setattr__")))
  (h:codeAny W.M A (.call (.builtin "object.__setattr__") ⟨[.ref x,.str name s.toks,v],[]⟩) (fun r s'=>match r with | .ok (.ret _)=>Q () s' | .ok _=>False | .error e=>X e s') {s with toks:=s.toks+1}) :
  wpAny W.M A (setAttr (.ref x) name v) Q X s:=by
 have ty:Looks W.M s.heap (typeOf (.ref x)) (.ref C):=hc▸(Looks.ld hx).andThen .now;refine aF (wpAny_mkText (aF (aF (aF (ty _ _ _ _ (fun _ _ e=>e) (looks_findIn XK hs _ _ _ _ (fun _ _ e=>e) (wpAny_holding ?_)))))));rw[PySem.F.store_object.slot.bind];refine aF (aP (aF (wpAny_call (codeAny_mono h fun r s' z=>?_))))
 rcases r with e|(v|_|_|_)<;>first|exact z|exact aP (aP z)
set_option tactic.hygienic true in
theorem sB{d:Addr}{es:List DictEntry}{j:Nat}{name:Str}{tk:Tok}{v:Value}{Q:PySem.Fin→Shared→Prop}(hd:s.heap.get? d=some (dictOf es j))(hl:(getL name es).isSome=true)(hz:es.length≤200)
  (h:∀h' hsh t,Heap.SameBut d s.heap h'→h'.get? d=some (dictOf (putL name hsh (.str name t) v es) (putN name es j))→Q (.done (.ret .none)) {s with heap:=h',toks:=s.toks+1}):wpAny W.M A (Builtin.ObjectAttr.storeInDict d (.str name tk) name v) Q X s:=by
 have hu:=Heap.get?_update_self (Obj.putName name (PyData.keyHash W.w.params name) (.str name s.toks) v) hd (by rw[putName_dict];rfl);rw[putName_dict] at hu;unfold Builtin.ObjectAttr.storeInDict Builtin.ObjectAttr.newKeyGuard;refine aF (aP (aF ?_));unfold nsSet;refine aF (aF (wpAny_askSetting (aP (aF (wpAny_mkText (aF (wpAny_loadPart hd ?_)))))))
 have c:(!es.toArray.any (·.key.isStr name)&&es.toArray.any (·.refKey))=false:=by
  rw[List.any_toArray,List.any_toArray];unfold getL at hl
  split at hl
  ·rename_i en he
   rw[List.any_eq_true.mpr ⟨en,List.mem_of_find?_eq_some he,List.find?_some he⟩];rfl
  ·split at hl
   ·exact bx hl
   ·rename_i z;rw[Bool.not_eq_true] at z;rw[z,Bool.and_false]
 dsimp only;rw[aRefKeyMayBeTheName_at,c];refine wpAny_updatePart hd ?_;have pl:=(kS name (PyData.keyHash W.w.params name) (.str name s.toks) v es).1;refine aF (wpAny_lookBehind hu (pastItsLine_dict (by rw[List.size_toArray,sizeLine_eq];lia)) ?_);exact aP (h _ _ _ (Heap.SameBut.update ..) hu)
theorem vH{K:Frag}{C:Addr}{name:Str}(ok:pG K C name=true):findIn K (.ref C) "__setattr__" = some (some (.builtin "object.__setattr__"))∧yK K C=true∧takerIn K C name=some none∧hasDictIn K C=true:=by
 refine aE (aA ok) fun o1 ok=>?_;refine aE (aA ok) fun o2 ok=>?_;refine aE (aA ok) fun o3 o4=>?_;exact⟨eq_of_beq o1,o2,eq_of_beq o3,o4⟩
theorem Nk{C x d:Addr}{vs:Array Value}{es:List DictEntry}{j:Nat}{name:Str}{v:Value}{Q:Unit→Shared→Prop}(XK:W.K.In s.heap)(hx:s.heap.get? x=some {cls:=.ref C,dict:=some d,data:=.fields vs})(hd:s.heap.get? d=some (dictOf es j))(ok:pG W.K C name=true)
  (hl:(getL name es).isSome=true) (hz:es.length≤200) (h:∀h' hsh t,Heap.SameBut d s.heap h'→h'.get? d=some (dictOf (putL name hsh (.str name t) v es) (putN name es j))→Q () {s with heap:=h',toks:=s.toks+2}) :
  wpAny W.M A (setAttr (.ref x) name v) Q X s:=by
 refine oQ (vH ok) fun o1 o2 o3 o4=>?_;refine sP XK hx rfl o1 (Ft (s:={s with toks:=s.toks+1}) (C:=C) (x:=x) XK hx rfl o2 o3 fun b=>?_);refine aB (any_some o4) fun cd hc hd'=>?_;refine aF (aP (aF (aF (wpAny_loadPart hx (aF (Looks.here (s:={s with toks:=s.toks+1}) (looks_clsIn XK hc) ?_))))));rw[hd'];exact aP (a:=some d) (sB (s:={s with toks:=s.toks+1}) hd hl hz h)
theorem Dc{C x:Addr}{vs:Array Value}{name:Str}{v:Value}{Q:Unit→Shared→Prop}(XK:W.K.In s.heap)(hx:s.heap.get? x=some {cls:=.ref C,data:=.fields vs})(ok:pG W.K C name=true)
  (h:∀h' hsh t,(∀b o,b≠x→s.heap.get? b=some o→h'.get? b=some o)→h'.get? x=some {cls:=.ref C,dict:=some s.heap.objs.size,data:=.fields vs}→h'.get? s.heap.objs.size=some (dictOf [⟨hsh,.str name t,v⟩] 1)→Q () {s with heap:=h',toks:=s.toks+2}) :
  wpAny W.M A (setAttr (.ref x) name v) Q X s:=by
 refine oQ (vH ok) fun o1 o2 o3 o4=>?_;refine sP XK hx rfl o1 (Ft (s:={s with toks:=s.toks+1}) (C:=C) (x:=x) XK hx rfl o2 o3 fun b=>?_);refine aB (any_some o4) fun cd hc hd'=>?_;refine aF (aP (aF (aF (wpAny_loadPart hx (aF (Looks.here (s:={s with toks:=s.toks+1}) (looks_clsIn XK hc) ?_))))));rw[hd'];have hx₁:=Heap.get?_push_of_some {cls:=.type "dict", data:=.dict #[]} hx;have hxs:x≠s.heap.objs.size:=Nat.ne_of_lt (Heap.lt_size hx);have hu:=Heap.get?_update_self (h:=s.heap.push {cls:=.type "dict", data:=.dict #[]}) (fun o=>({cls:=o.cls,dict:=some s.heap.objs.size,data:=o.data,slots:=o.slots}:Obj)) hx₁ rfl;have hod:∀b,b≠x→((s.heap.push {cls:=.type "dict", data:=.dict #[]}).update x fun o=>{cls:=o.cls,dict:=some s.heap.objs.size,data:=o.data,slots:=o.slots}).get? b=(s.heap.push {cls:=.type "dict", data:=.dict #[]}).get? b:=fun b hb=>Heap.get?_update_other _ _ (Ne.symm hb);have hdd:((s.heap.push {cls:=.type "dict", data:=.dict #[]}).update x fun o=>{cls:=o.cls,dict:=some s.heap.objs.size,data:=o.data,slots:=o.slots}).get? s.heap.objs.size=some (dictOf [] 0):=(hod _ (Ne.symm hxs)).trans (Heap.get?_push_size _ rfl);rw[if_neg (by simp)];dsimp only;rw[if_neg (by simp [typeHasDict])];refine aF (wpAny_alloc (aF (wpAny_update hx₁ (aP ?_))));refine sB (s:=⟨_,s.gens,s.drawn,s.toks+1,s.os⟩) hdd rfl (Nat.zero_le _) fun h' hsh t hs hg=>?_;exact h h' hsh t (fun b o hb e=>(hs.2 b (Nat.ne_of_lt (Heap.lt_size e))).trans ((hod b hb).trans (Heap.get?_push_of_some _ e))) ((hs.2 x hxs).trans hu) hg
end
end
end
section
open PySem.Calls PyProof.Rows PySem.AutoSeq1 PySem.MeetsSeq
section
variable{Θ:Mn}
structure uS(W:Wd)(c:Addr)(ps:fM):Prop where
 makes:iI W.K c=true
 mcl:typeIn W.K (.ref c)=some (.type "type")
 ne:ps.1≠[]
 made:∃fI fd body,iA W (pG W.K c) c ps fI fd body
noncomputable abbrev Qy(c d t:Addr):Obj:={cls:=.ref c,dict:=some d,data:=.fields #[.ref t,.none,.none,.none,.bool false,.none]}
section
variable{W:Wd}{n:Nat}{O:Orc}{E:Ev}{st:St}{A A':Around}{env:Env}{Φ:Fm}{F F':Fz}{s:Shared}{X:Value→Shared→Prop}
theorem Il{c:Addr}{ps:fM}(EF:uS W c ps){vs:List V}{fs:List (Str×V)}{rs:List Value}{Q:Value→Shared→Prop}(C:Ctx (n+2) A env Φ)(h:Rel W Φ F st s)(hvs:VRs F vs rs)(e:kB ps.1 vs [] ps.2=some fs)(hrs:rs.length≤100)
  (hp:∀{x d t s' F'},Ext 2 Φ.d F F'→Rel W Φ F' st s'→oZ W F' c fs x (Qy c d t) #[.ref t,.none,.none,.none,.bool false,.none] s'→Q (.ref x) s'):wpAny W.M A (call (.ref c) rs []) Q X s:=by
 refine bc fun hG=>?_;refine jS EF.made fun fI fd body MF=>?_;have big:=h.above;obtain⟨hh,g,dr,t,os⟩:=s;refine hG ?_;clear hG;have XK:=h.ph.inK;have big:W.base.objs.size≤hh.objs.size:=big;refine wpAny_call (Ot (pQ XK EF.makes) (looks_findIn XK MF.init) (fun self=>bind_fn XK self MF.fn) hrs ?_);have C1:=C.under (a:=⟨.ref c::rs,[]⟩)
 let tup:Obj:={cls:=.type "tuple", data:=.seq rs.toArray}
 have k2:∀b o,hh.get? b=some o→((hh.push tup).push (eH c hh.objs.size)).get? b=some o:=fun b o e=>Heap.get?_push_of_some _ (Heap.get?_push_of_some _ e)
 have hx2:((hh.push tup).push (eH c hh.objs.size)).get? (hh.objs.size+1)=some (eH c hh.objs.size):=by
  have:=Heap.get?_push_size (hh.push tup) (o:=eH c hh.objs.size) rfl
  rwa [Heap.size_push] at this
 have sz2:((hh.push tup).push (eH c hh.objs.size)).objs.size=hh.objs.size+2:=by rw[Heap.size_push,Heap.size_push]
 revert k2 hx2 sz2;show (∀b o,hh.get? b=some o→((hh.push tup).push (eH c hh.objs.size)).get? b=some o)→_→_→codeAny W.M _ _ _ ⟨(hh.push tup).push (eH c hh.objs.size),g,dr,t,os⟩;generalize (hh.push tup).push (eH c hh.objs.size)=h2;intro k2 hx2 sz2;have XK2:W.K.In h2:=XK.keeps k2;refine bc fun hG=>?_;obtain⟨r1,r2,r3,binds,b1,b2,b3,b4⟩:=sS (s:=⟨h2,g,dr,t,os⟩) MF e XK2 h.ph.base (hh.objs.size+1) hvs .nil;have FF:=MF.ff;refine jS FF.at_ fun oc od sl ho=>?_;refine hG ?_;clear hG;refine codeAny_call_def (fd:=fd) (body:=body) (binds:=binds) (by have:=C1.depth;exact zd ‹_›) (XK2 _ _ ho) rfl (W.nolimit.keeps fun a o e=>k2 _ _ (h.ph.old a o e)) (codeRec_of XK2 FF.code) FF.body b1 FF.cell b2 (fun h₁ hns hk=>?_) FF.co FF.gen FF.kind
 cases fs with
 | nil=>exact absurd (lU e).symm EF.ne
 | cons pv fs=>
 obtain⟨p,v⟩:=pv
 cases body with
 | nil=>exact bx r1
 | cons b body=>
 refine bc fun hG=>?_;refine aE (aA r1) fun r1 r1'=>?_;refine IG (vW r1) fun p1 p2 p3 p4 e4=>?_;subst e4;obtain⟨l1,l2,val,l4,l5⟩:=b4 _ (.head _);refine hG ?_;clear hG;rw[List.map_cons,List.nodup_cons] at r2;have hx1:h₁.get? (hh.objs.size+1)=some (eH c hh.objs.size):=hk _ _ hx2;have kb:∀a o,W.base.get? a=some o→h₁.get? a=some o:=fun a o e=>hk _ _ (k2 _ _ (h.ph.old a o e));refine wpAny_execs_cons (plainObj_wpAny_Assign_Attribute (wpAny_Name (wpAny_loadName_local FF.kind l1 hns l4 ?_) (uE (env:=callEnv fd h2.objs.size fI) FF.nodbg l1)) (dZ (t:=some _) rfl rfl));refine wpAny_Name (wpAny_loadName_local FF.kind MF.self hns b3 ?_) (uE (env:=callEnv fd h2.objs.size fI) FF.nodbg MF.self);refine Dc (C:=c) (W.X.keeps kb) hx1 l2 fun h3 hsh t2 hs2 hx3 hd3=>?_
 have hxL:hh.objs.size+1≠h2.objs.size:=by rw[sz2];lia
 have sz1:hh.objs.size+2<h₁.objs.size:=by
  have:=hns.lt;rw[sz2] at this;exact this
 have dB:W.base.get? h₁.objs.size=none:=oL (aJ big (by lia));have xB:W.base.get? (hh.objs.size+1)=none:=oL (Nat.le_succ_of_le big)
 have ns3:h3.Ns h2.objs.size (fun x=>binds.reverse.lookup x):=by
  refine Lg hns fun o es ep e1 e2 e3=>?_;clear hns;exact⟨o,es,ep,hs2 _ _ (Ne.symm hxL) e1,e2,e3⟩
 refine zQ (ok:=pG W.K c) (ox:=Qy c h₁.objs.size hh.objs.size) (fun a b c d e f g=>Nk a b c d e f g) (x:=hh.objs.size+1) (d:=h₁.objs.size) (m:=fun y=>binds.reverse.lookup y) FF.kind FF.nodbg MF.self b3 (by
   show h₁.objs.size≠h2.objs.size
   rw[sz2];lia) (Nat.ne_of_gt (Nat.lt_of_succ_lt sz1)) dB fs body [(p,v)] [⟨hsh,.str p t2,val⟩] 1 _ r1' (fun y hy=>⟨(b4 y (.tail _ hy)).1,(b4 y (.tail _ hy)).2.1,if_neg fun (q:p=y.1)=>r2.1 (List.mem_map.mpr ⟨y,hy,q.symm⟩),(b4 y (.tail _ hy)).2.2⟩) r2.2 ⟨ns3,fun a o e=>hs2 a o (fun q=>by rw[q,xB] at e;exact ox e) (kb a o e),hx3⟩ hd3 (.cons l5 .nil) (by show 1+fs.length≤100;have:fs.length+1≤20:=r3;lia) fun h' t' es' j' hsb hd' hf=>?_
 refine⟨rfl,?_⟩;have kp:∀b o,hh.get? b=some o→h'.get? b=some o:=fun b o e=>(hsb.2 b (Nat.ne_of_lt (Nat.lt_trans (Heap.lt_size e) (by exact zd ‹_›)))).trans (hs2 b o (Nat.ne_of_lt (Nat.lt_succ_of_lt (Heap.lt_size e))) (hk _ _ (k2 _ _ e)));have f1:F.H h₁.objs.size = .free:=h.ph.new (bA (Nat.lt_of_succ_lt (Nat.lt_of_succ_lt sz1)));have f2:F.H (hh.objs.size+1) = .free:=h.ph.new (Nat.le_succ _);have R:=h.add (h':=h') (t:=t') (c:=.frz (dictOf es' j')) f1 (fun b o _=>kp b o) hd';have x1:Ext 2 Φ.d F (F.set h₁.objs.size (.frz (dictOf es' j'))):=.add f1;exact hp x1 R ⟨(hsb.2 (hh.objs.size+1) (Nat.ne_of_lt (Nat.lt_of_succ_lt sz1))).trans hx3,rfl,rfl,Nat.succ_lt_succ (Nat.succ_pos _),⟨_,_,_,rfl,F.set_self _ _,hf.mono x1.le⟩,(F.set_ne _ (Nat.ne_of_lt (Nat.lt_of_succ_lt sz1))).trans f2,Nat.le_succ_of_le big⟩
noncomputable def Ez(W:Wd)(O:Orc):Prop:=∀c ps,fF c O.excs=some ps→uS W c ps
theorem Ij{b:Nat}{k:Fl→St→Θ.T}{ke:V→St→Θ.T}{Q:Flow→Shared→Prop}(T:cM W O)(XO:Ez W O)(NS:dU E)(HE:aR W (n+2) E.eval){e:PySem.Expr}{p:Pos}(hk:Θ.m (Nx O E env.scope e st Θ.T k ke Θ.z))(C:Ctx (n+2) A env Φ)(h:Rel W Φ F st s)(P:bJ b dR W Φ F k ke Q X):wpAny W.M A (exec (.Raise (some e) none p) env) Q X s:=by
 cases e with
 | Call f args kws pc=>
  refine aB (aC hk) fun g eg hk1=>?_;refine bG (bM eg) fun gp e1=>?_;subst e1;refine aE (aS hk1) fun q hk2=>?_;refine aE (aA q) fun q1 q=>?_;refine aE (aA q) fun q2 q3=>?_;obtain rfl:=bL q2;refine aB (aC hk2) fun c ec hk3=>?_;refine aB (aD ec) fun gv eg2 ec=>?_;refine aB (aC hk3) fun ps eps hk4=>?_;have EF:=XO c ps eps;refine jS EF.made fun fI fd body MF=>?_;show wpAny W.M A (do standAt p;raiseStmt env (some (do let v ←eval (.Call (.Name g gp) args [] pc) env;standAt p;pure v)) none) Q X s;refine aF (wpAny_standAt ?_);unfold raiseStmt;dsimp only;refine aF (aF (Call_Name rfl (jB T.glob C h q1 eg2 fun r hr=>?_)));rw[(hr F h.ph.base).asCls ec];refine kP NS HE (mH q3) MF.keep (first:=[]) (kws:=[]) (k:=fun _ _=>Θ.z) (ke:=ke) (g:=fun vs _ st P' k' ke' b'=>R.bind (R.ofOpt (kB ps.1 vs [] ps.2) st) (fun fs st=>(R.err (.exc c fs) st.dead:R V)) P' k' ke' b') hk4 C h P.err fun {vs ks st1 rs rks s1 F1} x1 h1 v1 k1 l1 hk1=>?_;obtain rfl:=l1.2 rfl;refine aB (aC hk1) fun fs efs k2=>?_;have few:=(mH q3).few;refine Il EF C h1 v1 efs (by show rs.length≤100;rw[l1.1];exact aJ (aJ (bY _ _) few) (by decide)) fun {x d t s2 F2} x2 h2 ea=>?_;have XK:=h2.ph.inK;have hx:=ea.at_;have Y:=pQ (M:=W.M) XK EF.makes;have ty:Looks W.M s2.heap (typeOf (.ref x)) (.ref c):=(Looks.ld hx).andThen .now;have nty:Looks W.M s2.heap (isType (.ref x)) false:=(Looks.ld hx).andThen .now;refine aF (wpAny_standAt (aP ?_));refine aF (aP (aF (wpAny_holding ?_)));unfold excFromValue isExcClass;refine aF (aF (nty.here ?_));rw[if_neg Bool.false_ne_true];refine aP ?_;rw[if_neg Bool.false_ne_true];unfold isInstance;refine aF (aF (ty.here (Y.bexc.here ?_)));rw[if_pos rfl];refine aP ?_;dsimp only;refine aF (nty.here ?_);rw[if_neg Bool.false_ne_true];unfold raisedInstance;refine aF (aF (ty.here (aF ((looks_typeIn XK EF.mcl).here ?_))));rw[if_pos (by rfl)];refine aP (aF ?_);unfold setFlight;refine aF (wpAny_field hx rfl (x:=.none) rfl ?_);rw[if_neg (by decide)];refine aP ?_;unfold raiseNew;refine aF (wpAny_handled ?_);rw[C.handled];refine aF (aP (wpAny_throw ?_));obtain⟨e1,e2,e3,e4,e5,e6,e7⟩:=ea
  exact P.err ((x1.trans x2).weak.trans (Ext.dead Φ.d)) ⟨h2.dead,rfl,c,fs,_,_,rfl,⟨e1,e2,e3,e4,by
   refine Lg e5 fun d es j a1 a2 a3=>?_;clear e5
   exact⟨d,es,j,a1,a2,FRv.mono (F:=F2) (F':=F2.dead) (fun _ _ e=>e) a3⟩,e6,e7⟩,.inl rfl⟩ k2
 | _=>exact (Θ.nz hk).elim
end
end
section
variable{Θ:Mn}
noncomputable def Fz.repark(F:Fz)(wr:List Addr)(h:Heap):Fz:=⟨fun a=>match wr.contains a with
 | true=>match h.get? a with
  | some o=>.own .park o
  | none=>F.H a
 | false=>F.H a,F.la,F.me⟩
noncomputable def dD(F:Fz)(a:Addr):Prop:=∃o,F.H a = .own .park o
section
variable{W:Wd}{n:Nat}{O:Orc}{E:Ev}{st:St}{A A':Around}{env:Env}{Φ:Fm}{F F':Fz}{s:Shared}{X:Value→Shared→Prop}
theorem Fz.repark_ne{wr:List Addr}{h:Heap}{a:Addr}(q:a ∉ wr):(F.repark wr h).H a=F.H a:=by
 have e:wr.contains a=false:=Bool.eq_false_iff.mpr fun z=>q (List.contains_iff_mem.mp z);show (match wr.contains a with|true=>(match h.get? a with|some o=>bK.own .park o|none=>F.H a)|false=>F.H a)=_;rw[e]
theorem Fz.repark_at{wr:List Addr}{h:Heap}{a:Addr}{o:Obj}(q:a∈wr)(e:h.get? a=some o):(F.repark wr h).H a = .own .park o:=by
 show (match wr.contains a with|true=>(match h.get? a with|some o=>bK.own .park o|none=>F.H a)|false=>F.H a)=_;rw[List.contains_iff_mem.mpr q,e]
theorem Rel.turn(h:Rel W Φ F st s){wr:List Addr}(hw:∀a∈wr,F.H a = .free∨dD F a)(hb:∀a∈wr,W.base.objs.size≤a){h':Heap}{t:Nat}(hk:∀b o,b ∉ wr→s.heap.get? b=some o→h'.get? b=some o)(hl:∀a∈wr,∃o,h'.get? a=some o) :
  Rel W Φ (F.repark wr h') st {s with heap:=h',toks:=t}:=by
 have nf:∀a o,F.H a = .frz o→a ∉ wr:=fun a o e q=>by
  rcases hw a q with z|⟨_,z⟩<;>rw[e] at z<;>cases z
 refine h.grow ⟨fun b=>?_,fun b o e=>(Fz.repark_ne (nf b o (h.ph.base b o e))).trans (h.ph.base b o e),h.ph.gens,h.ph.os⟩ (fun b h1 h2=>Fz.repark_ne fun q=>?_) rfl rfl
 ·by_cases q:b∈wr
  ·refine bG (hl b q) fun o e=>?_
   rw[Fz.repark_at q e];exact⟨e,hb b q⟩
  ·rw[Fz.repark_ne q]
   exact (h.ph.z b).keep fun _ o=>hk b o q
 ·rcases hw b q with z|⟨o,z⟩
  ·exact h1 z
  ·exact h2 o z
theorem Ext.turn{b d:Nat}{F0:Fz}(x:Ext b d F0 F){wr:List Addr}(hw:∀a∈wr,F0.H a = .free)(h':Heap):Ext b d F0 (F.repark wr h'):=
 ⟨fun a k=>(Fz.repark_ne fun q=>by rw[hw a q] at k;exact k).trans (x.keep a k),x.la,x.me⟩
noncomputable def Fz.unpark(F:Fz)(wr:List Addr):Fz:=⟨fun a=>match wr.contains a with
 | true=>.free
 | false=>F.H a,F.la,F.me⟩
theorem Fz.unpark_ne{wr:List Addr}{a:Addr}(q:a ∉ wr):(F.unpark wr).H a=F.H a:=by
 have e:wr.contains a=false:=Bool.eq_false_iff.mpr fun z=>q (List.contains_iff_mem.mp z);show (match wr.contains a with|true=>bK.free|false=>F.H a)=_;rw[e]
theorem Fz.unpark_at{wr:List Addr}{a:Addr}(q:a∈wr):(F.unpark wr).H a = .free:=by
 show (match wr.contains a with|true=>bK.free|false=>F.H a)=_;rw[List.contains_iff_mem.mpr q]
theorem Rel.unpark(h:Rel W Φ F st s){wr:List Addr}(hw:∀a∈wr,dD F a){h':Heap}{t:Nat}(hk:∀b o,b ∉ wr→s.heap.get? b=some o→h'.get? b=some o):Rel W Φ (F.unpark wr) st {s with heap:=h',toks:=t}:=by
 have nf:∀a o,F.H a = .frz o→a ∉ wr:=fun a o e q=>by
  refine bG (hw a q) fun _ z=>?_;rw[e] at z;cases z
 refine h.grow ⟨fun b=>?_,fun b o e=>(Fz.unpark_ne (nf b o (h.ph.base b o e))).trans (h.ph.base b o e),h.ph.gens,h.ph.os⟩ (fun b _ h2=>Fz.unpark_ne fun q=>?_) rfl rfl
 ·by_cases q:b∈wr
  ·rw[Fz.unpark_at q];trivial
  ·rw[Fz.unpark_ne q]
   exact (h.ph.z b).keep fun _ o=>hk b o q
 ·refine bG (hw b q) fun o z=>?_
  exact h2 o z
theorem Ext.unpark{b d:Nat}{F0:Fz}(x:Ext b d F0 F){wr:List Addr}(hw:∀a∈wr,F0.H a = .free):Ext b d F0 (F.unpark wr):=
 ⟨fun a k=>(Fz.unpark_ne fun q=>by rw[hw a q] at k;exact k).trans (x.keep a k),x.la,x.me⟩
structure Cl(W:Wd)(n:Nat)(A:Around)(env:Env)(Φ:Fm)(t:PySem.Expr)(I:Addr)(wr:List Addr)(F0:Fz)(items:List V)(St':Nat→Heap→Prop)(PF:St→Prop):Prop where
 free:∀a∈wr,F0.H a = .free
 frame:∀{i:Nat} {F F':Fz} {s s':Shared} {b:Nat} {st st':St},St' i s.heap→F0.le F→(∀a∈wr,dD F a)→Rel W Φ F st s→PF st→Ext b Φ.d F F'→Rel W Φ F' st' s'→PF st'→St' i s'.heap
 item:∀{Θ:Mn} {i:Nat} {v:V} {st:St} {F:Fz} {s:Shared} {k:Fl→St→Θ.T} {ke:V→St→Θ.T} {Q:Shared→Prop} {N:Value→Shared→Prop},items[i]? = some v→Ctx n A env Φ→F0.le F→(∀a∈wr,dD F a)→Rel W Φ F st s→PF st→St' i s.heap→Θ.m (Cg env.scope t v st Θ.T k ke Θ.z)→
  (∀{st' s' F'},(∀{b},b<2→Ext b Φ.d F0 F→Ext b Φ.d F0 F')→(∀a∈wr,dD F' a)→Rel W Φ F' st' s'→PF st'→St' (i+1) s'.heap→Θ.m (k .next st')→Q s')→
  wpAny W.M A (pyNext (.ref I)) (fun r s₁=>∃rv,r=some rv∧wpAny W.M A (letOwnedTupleGo t (.ref I) rv) (fun _ s₂=>wpAny W.M A (assign t env rv) (fun _ s₃=>Q s₃) N s₂) N s₁) N s
 done:∀{st:St} {F:Fz} {s:Shared} {Q:Option Value→Shared→Prop} {N:Value→Shared→Prop},(∀a∈wr,dD F a)→Rel W Φ F st s→St' items.length s.heap→(∀s' F',(∀{b},Ext b Φ.d F0 F→Ext b Φ.d F0 F')→Rel W Φ F' st s'→Q none s')→wpAny W.M A (pyNext (.ref I)) Q N s
theorem dD.ext{b d:Nat}{a:Addr}(x:Ext b d F F')(h:dD F a):dD F' a:=by
 refine bG h fun o e=>?_;clear h;exact⟨o,(x.keep a (by rw[e];trivial)).trans e⟩
theorem zV{b:Nat}{k:Fl→St→Θ.T}{ke:V→St→Θ.T}(hb:b<2)(HX:cZ W n b E.execs){t:PySem.Expr}{bd:List PySem.Stmt}{ks:List Str}{I:Addr}{wr:List Addr}{F0:Fz}{items:List V}{St':Nat→Heap→Prop}{PF:St→Prop}{f:V→St→R Fl}{Rz:Result→Shared→Prop}(C:Ctx n A env Φ)(Y:Cl W n A env Φ t I wr F0 items St' PF)
  (hf:∀{v st k},Θ.m (f v st Θ.T k ke Θ.z)→∃kk,Θ.m (iR E env.scope t bd ks v st Θ.T kk ke Θ.z)∧∀fl st,Θ.m (kk fl st)→PF st∧Θ.m (k fl st))
  (x:Ext b Φ.d F0 F) (hw:∀a∈wr,dD F a) (h:Rel W Φ F st s) (hpf:PF st) (hst:St' 0 s.heap) (hk:Θ.m (eU f items st Θ.T k ke Θ.z))
  (ok:∀{fl st' s' F' fl'},Ext b Φ.d F0 F'→Rel W Φ F' st' s'→dR F' fl fl'→Θ.m (k fl st')→Rz (.ok fl') s')
  (er:∀{e ea st' s' F'},Ext 0 Φ.d F0 F'→qI W Φ F' e ea st' s'→Θ.m (ke e st')→notedBy W.M A env (fun e s'=>Rz (.error e) s') (.ref ea) s') :
  codeAny W.M A (.forLoop t (.ref I) bd [] env) Rz s:=by
 refine codeAny_forLoop_any (fun m s=>∃i st1 F1,m=items.length+1-i∧i≤items.length∧Ext b Φ.d F0 F1∧(∀a∈wr,dD F1 a)∧Rel W Φ F1 st1 s∧PF st1∧St' i s.heap∧Θ.m (eU f (items.drop i) st1 Θ.T k ke Θ.z)) ?_ (items.length+1)
  ⟨0,st,F,rfl,Nat.zero_le _,x,hw,h,hpf,hst,hk⟩
 rintro m s1 ⟨i,st1,F1,rfl,hi,x1,hw1,h1,pf1,hst1,k1⟩
 by_cases hlt:i<items.length
 ·rw[List.drop_eq_getElem_cons hlt] at k1
  refine aB (hf k1) fun kk k1 hkk=>?_
  refine wpAny_mono (Y.item (i:=i) (v:=items[i]) (Q:=fun s₂=>wpAny W.M A (execs bd env) (fun fl s₃=>match fl with
      | .next | .cont=>∃m,m<items.length+1-i∧∃i st1 F1,m=items.length+1-i∧i≤items.length∧Ext b Φ.d F0 F1∧(∀a∈wr,dD F1 a)∧Rel W Φ F1 st1 s₃∧PF st1∧St' i s₃.heap∧Θ.m (eU f (items.drop i) st1 Θ.T k ke Θ.z)
      | .brk=>Rz (.ok .next) s₃
      | .ret v=>Rz (.ok (.ret v)) s₃) (notedBy W.M A env fun e s'=>Rz (.error e) s') s₂) (N:=notedBy W.M A env fun e s'=>Rz (.error e) s') (List.getElem?_eq_getElem hlt) C x1.le hw1 h1 pf1 hst1 k1 fun {st2 s2 F2} x2 hw2 h2 pf2 hst2 k2=>?_) (fun r s' z=>?_) fun _ _ z=>z
  ·have x2:=x2 hb x1
   refine HX k2 C h2 ⟨fun {fl st3 fl' s3 F3} x3 h3 f3 k3=>?_,fun x3 hx k3=>er (x2.weak.trans x3) (hx.keepL ks) k3⟩;refine aE (hkk _ _ k3) fun pf k3=>?_;have x23:=x2.trans x3;have h3k:=h3.keepL ks;have hst3:=Y.frame hst2 x2.le hw2 h2 pf2 x3 h3k pf;have hw3:∀a∈wr,dD F3 a:=fun a ha=>(hw2 a ha).ext x3
   cases f3 with
   | next=>exact⟨items.length+1-(i+1),Nat.sub_lt_sub_left (Nat.lt_succ_of_lt hlt) (Nat.lt_succ_self i),i+1,_,F3,rfl,hlt,x23,hw3,h3k,pf,hst3,k3⟩
   | cont=>exact⟨items.length+1-(i+1),Nat.sub_lt_sub_left (Nat.lt_succ_of_lt hlt) (Nat.lt_succ_self i),i+1,_,F3,rfl,hlt,x23,hw3,h3k,pf,hst3,k3⟩
   | brk=>exact ok x23 h3k .next k3
   | ret hv=>exact ok x23 h3k (.ret hv) k3
  ·obtain⟨rv,rfl,z⟩:=z
   exact z
 ·have hil:i=items.length:=Nat.le_antisymm hi (Nat.le_of_not_lt hlt)
  subst hil;rw[List.drop_length] at k1;exact Y.done hw1 h1 hst1 fun s' F' x2 h2=>wpAny_execs_nil (ok (x2 x1) h2 .next k1)
set_option tactic.hygienic true in
set_option backward.match.sparseCases true in
theorem Qj{t:PySem.Expr}{I:Addr}{r:Value}{ob:Obj}{T:String}{Q:Unit→Shared→Prop}(hI:s.heap.get? I=some ob)(hc:ob.cls = .type T)(hT:["enumerate", "zip", "dict_itemiterator", "dict_reverseitemiterator", "odict_iterator", "itertools.zip_longest", "itertools.pairwise"].contains T=false)(hq:Q () s):wpAny W.M A (letOwnedTupleGo t (.ref I) r) Q X s:=by
 cases t with
 | Tuple|List=>
  unfold letOwnedTupleGo
  cases r with
  | ref a=>
   dsimp only;refine aF (wpAny_load hI ?_);rw[hc]
   split
   ·rename_i n vs e1 e2
    cases e1
    rw[hT,Bool.false_and,if_neg Bool.false_ne_true];exact aP hq
   ·exact aP hq
  | _=>exact aP hq
 | _=>exact aP hq
theorem dD.at(h:Rel W Φ F st s){a:Addr}(p:dD F a):∃o,F.H a = .own .park o∧s.heap.get? a=some o∧W.base.objs.size≤a:=by
 refine bG p fun o e=>?_;clear p;exact⟨o,e,h.ph.own e⟩
noncomputable def PM:Mn:=⟨Prop,fun p=>p,False,id⟩
theorem zI{PF:St→Prop}(hp:∀st y sl,PF st→PF (St.setL y sl st)){sc:Scope}{xs:List PySem.Expr}{k:Fl→St→Θ.T}{ke:V→St→Θ.T}:∀{vs:List V} {st:St},PF st→Θ.m (lV sc xs vs st Θ.T k ke Θ.z)→lV sc xs vs st Prop (fun fl st=>PF st∧Θ.m (k fl st)) (fun _ _=>False) False:=by
 induction xs with
 | nil=>intro vs st ht h;cases vs with
  | nil=>exact⟨ht,h⟩
  | cons=>exact (Θ.nz h).elim
 | cons e xs ih=>intro vs st ht h;cases vs with
  | nil=>exact (Θ.nz h).elim
  | cons v vs=>
   refine aB (aC h) fun y ey h1=>?_;refine aE (aS h1) fun hy h2=>?_;show onO (cR e) _ False;rw[ey];show onB (cB sc y) _ False;rw[hy];exact ih (hp _ _ _ ht) h2
theorem Lo{PF:St→Prop}(hp:∀st y sl,PF st→PF (St.setL y sl st)){sc:Scope}{t:PySem.Expr}{v:V}{k:Fl→St→Θ.T}{ke:V→St→Θ.T}(ht:PF st)(h:Θ.m (Cg sc t v st Θ.T k ke Θ.z)):Cg sc t v st Prop (fun fl st=>PF st∧Θ.m (k fl st)) (fun _ _=>False) False:=by
 cases t with
 | Name y p=>
  refine aE (aS h) fun hy h1=>?_;show onB (cB sc y) _ False;rw[hy];exact⟨hp _ _ _ ht,h1⟩
 | Tuple xs i p=>
  refine aB (aC h) fun vs ev h1=>?_;refine aE (aS h1) fun hl h2=>?_;show onO (asTup v) _ False;rw[ev];show onB (Nat.beq xs.length vs.length) _ False;rw[hl];exact zI hp ht h2
 | _=>exact (Θ.nz h).elim
theorem zL{t:PySem.Expr}{I:Addr}{F0:Fz}{items:List V}{fp:List Addr}{P:Nat→Value→Prop}{St':Nat→Heap→Prop}{T:String}{PF:St→Prop}(Wk:Walks W.prog W.w A I fp [I] items.length P St')(hI:F0.H I = .free)
  (hfp:∀b∈fp,b=I∨∃o,∀{F:Fz} {st:St} {s:Shared},F0.le F→Rel W Φ F st s→PF st→s.heap.get? b=some o)
  (hp:∀st y sl,PF st→PF (St.setL y sl st))
  (live:∀i h,St' i h→∃ob,h.get? I=some ob∧ob.cls = .type T) (hT:["enumerate", "zip", "dict_itemiterator", "dict_reverseitemiterator", "odict_iterator", "itertools.zip_longest", "itertools.pairwise"].contains T=false)
  (hP:∀i v r,items[i]? = some v→P i r→VR F0 v r):Cl W n A env Φ t I [I] F0 items St' PF:=by
 have kp:∀{F F':Fz} {s s':Shared} {b:Nat} {st st':St},F0.le F→(∀a∈[I],dD F a)→Rel W Φ F st s→PF st→Ext b Φ.d F F'→Rel W Φ F' st' s'→PF st'→∀b∈fp,∀o,s.heap.get? b=some o→s'.heap.get? b=some o:=fun {F F' s s' c st st'} le hw h pf x h' pf' b hb o e=>by
  rcases hfp b hb with rfl|⟨o',ho⟩
  ·refine bG (hw b (.head _)) fun o1 e1=>?_
   have e2:=(x.keep b (by rw[e1];trivial)).trans e1;rw[(h.ph.own e1).1] at e;obtain rfl:=so e;exact (h'.ph.own e2).1
  ·rw[ho le h pf] at e
   obtain rfl:=so e;exact ho (fun a o q=>x.le a o (le a o q)) h' pf'
 refine⟨fun a ha=>by rw[cG ha];exact hI,fun hs le hw h pf x h' pf'=>Wk.frame _ _ _ hs (kp le hw h pf x h' pf'),fun {Θ i v st F s k ke Q N} hi C le hw h pf hs hk hq=>?_,fun {st F s Q N} hw h hs hq=>?_⟩
 ·have hlt:i<items.length:=(List.getElem?_eq_some_iff.mp hi).1
  refine Wk.item i s _ _ hlt hs fun r h' tk hr hs' hk'=>⟨r,rfl,?_⟩;refine aB (live _ _ hs') fun ob l1 l2=>?_
  have hb1:∀a∈[I],W.base.objs.size≤a:=fun a ha=>by
   refine fA ((hw a ha).at h) fun _ _ _ z=>?_;exact z
  have R2:=h.turn (wr:=[I]) (t:=tk) (fun a ha=>.inr (hw a ha)) hb1 hk' fun a ha=>by rw[cG ha];exact⟨ob,l1⟩
  have P2:∀a∈[I],dD (F.repark [I] h') a:=fun a ha=>by
   rw[cG ha];exact⟨ob,Fz.repark_at (.head _) l1⟩
  have le2:F.le (F.repark [I] h'):=fun a o e=>(Fz.repark_ne fun q=>by
   refine bG (hw a q) fun _ z=>?_
   rw[z] at e;cases e).trans e
  refine Qj (s:={s with heap:=h',toks:=tk}) l1 l2 hT (Ja C R2 ((hP i v r hi hr).mono fun a o q=>le2 a o (le a o q)) (Θ:=PM) (Lo hp pf hk) fun {st' s' F'} x h3 k3=>?_);refine hq (fun hb x0=>(x0.turn (fun a ha=>by rw[cG ha];exact hI) h').trans (x hb)) (fun a ha=>(P2 a ha).ext (x (b:=0) (by decide))) h3 k3.1 (Wk.frame _ _ _ hs' (kp (fun a o q=>le2 a o (le a o q)) P2 R2 pf (x (b:=0) (by decide)) h3 k3.1)) k3.2
 ·refine Wk.done s _ _ hs fun h' tk hk'=>?_
  exact hq _ (F.unpark [I]) (fun x0=>x0.unpark fun a ha=>by rw[cG ha];exact hI) (h.unpark hw hk')
end
end
section
variable{Θ:Mn}
section
variable{W:Wd}{n:Nat}{O:Orc}{E:Ev}{st:St}{A A':Around}{env:Env}{Φ:Fm}{F F':Fz}{s:Shared}{X:Value→Shared→Prop}
theorem Rel.parkNew(h:Rel W Φ F st s){o0:Obj}(hf:o0.isFreed=false):Rel W Φ (F.repark [s.heap.objs.size] (s.heap.push o0)) st {s with heap:=s.heap.push o0}∧(∀a∈[s.heap.objs.size],dD (F.repark [s.heap.objs.size] (s.heap.push o0)) a)∧∀{b},Ext b Φ.d F (F.repark [s.heap.objs.size] (s.heap.push o0)):=by
 have fr:=h.ph.new (aK s.heap.objs.size);have hs:=Heap.get?_push_size s.heap hf;have one:∀a∈[s.heap.objs.size],a=s.heap.objs.size:=fun a ha=>cG ha;exact⟨h.turn (t:=s.toks) (fun a ha=>.inl (by rw[one a ha];exact fr)) (fun a ha=>by rw[one a ha];exact h.above) (fun b o _ e=>Heap.get?_push_of_some _ e) (fun a ha=>⟨o0,by rw[one a ha];exact hs⟩),fun a ha=>by rw[one a ha];exact⟨o0,Fz.repark_at (.head _) hs⟩,(Ext.refl _ _ _).turn (fun a ha=>by rw[one a ha];exact fr) _⟩
noncomputable def Ho(W:Wd)(n:Nat)(A:Around)(env:Env)(Φ:Fm)(t:PySem.Expr)(F:Fz)(st:St)(s:Shared)(l:List V)(Q:Value→Shared→Prop):Prop:=
 ∀{I:Addr} {wr:List Addr} {St':Nat→Heap→Prop} {F':Fz} {s':Shared},(∀{b},Ext b Φ.d F F')→(∀a∈wr,dD F' a)→Rel W Φ F' st s'→St' 0 s'.heap→Cl W n A env Φ t I wr F l St' (fun _=>True)→Q (.ref I) s'
theorem oG{t:PySem.Expr}{l:List V}{o0:Obj}{fp:List Addr}{P:Nat→Value→Prop}{St':Nat→Heap→Prop}{T:String}{Q:Value→Shared→Prop}(h:Rel W Φ F st s)(hf:o0.isFreed=false)(Wk:Walks W.prog W.w A s.heap.objs.size fp [s.heap.objs.size] l.length P St')
  (hfp:∀b∈fp,b=s.heap.objs.size∨∃o,F.H b = .frz o) (live:∀i h,St' i h→∃ob,h.get? s.heap.objs.size=some ob∧ob.cls = .type T) (hT:["enumerate", "zip", "dict_itemiterator", "dict_reverseitemiterator", "odict_iterator", "itertools.zip_longest", "itertools.pairwise"].contains T=false)
  (hP:∀i v r,l[i]? = some v→P i r→VR F v r) (h0:St' 0 (s.heap.push o0)) (hq:Ho W n A env Φ t F st s l Q):Q (.ref s.heap.objs.size) {s with heap:=s.heap.push o0}:=by
 refine kG (h.parkNew hf) fun R p x=>?_;refine hq x p R h0 (zL Wk (h.ph.new (aK _)) (fun b hb=>?_) (fun _ _ _ h=>h) live hT hP)
 rcases hfp b hb with q|⟨o,q⟩
 ·exact .inl q
 ·exact .inr ⟨o,fun le h' _=>h'.ph.frz (le _ _ q)⟩
theorem Pm{t:PySem.Expr}{v:V}{l:List V}{r:Value}{Q:Value→Shared→Prop}(hh:A.handled=none)(h:Rel W Φ F st s)(e:eY v=some l)(hv:VR F v r)(hq:Ho W n A env Φ t F st s l Q):wpAny W.M A (pyIter r) Q X s:=by
 have hv:=hv.view
 cases v with
 | str cs=>
  obtain rfl:=so e;obtain⟨hlen,tk,rfl⟩:=hv
  have hPa:∀i v r,(cs.map fun c=>V.str [c])[i]? = some v→SignAt ⟨cs.toArray⟩ i r→VR F v r:=fun i v r hi hr=>by
   refine iJ hr fun c u h1 e3=>?_;clear hr;subst e3;rw[List.getElem?_map] at hi;refine aB (aM hi) fun c' h2 e2=>?_;subst e2
   have h3:cs[i]? = some c:=by rw[←List.getElem?_toArray];exact h1
   rw[h2] at h3;obtain rfl:=so h3;exact .str _ u (by show 1≤100000;decide)
  have hsz:(⟨cs.toArray⟩:Str).cps.size=(cs.map fun c=>V.str [c]).length:=by rw[List.length_map];exact List.size_toArray
  cases ha:(⟨cs.toArray⟩:Str).cps.all (· < 128)
  ·have Wk:=Walks.strWide (prog:=W.prog) (w:=W.w) hh s.heap.objs.size ⟨cs.toArray⟩ tk
   rw[hsz] at Wk;exact wpAny_pyIter_wide ha (oG (T := "str_iterator") h rfl Wk (fun b hb=>.inl (cG hb)) (fun i h hs=>by obtain⟨o,a,b,_⟩:=hs;exact⟨o,a,b⟩) (by decide) hPa ⟨_,Heap.get?_push_size _ rfl,rfl,rfl⟩ hq)
  ·have Wk:=Walks.strAscii (prog:=W.prog) (w:=W.w) hh s.heap.objs.size ⟨cs.toArray⟩ tk
   rw[hsz] at Wk;exact wpAny_pyIter_ascii ha (oG (T := "str_ascii_iterator") h rfl Wk (fun b hb=>.inl (cG hb)) (fun i h hs=>by obtain⟨o,a,b,_⟩:=hs;exact⟨o,a,b⟩) (by decide) hPa ⟨_,Heap.get?_push_size _ rfl,rfl,rfl⟩ hq)
 | lst l=>
  obtain rfl:=so e;refine gL hv fun a vs nn e3 hz hvs hlen=>?_;clear hv;subst e3;have hg:=h.ph.frz hz;have ne:a≠s.heap.objs.size:=Nat.ne_of_lt (Heap.lt_size hg);have Wk:=Walks.list (prog:=W.prog) (w:=W.w) hh s.heap.objs.size a ne vs.toArray;rw[hvs.size] at Wk;refine wpAny_pyIter_list (bQ hg) (oG (T := "list_iterator") h rfl Wk (fun b hb=>?_) (fun i h hs=>by obtain⟨⟨o,a,b,_⟩,_⟩:=hs;exact⟨o,a,b⟩) (by decide) (fun i v r hi hr=>?_) ⟨⟨_,Heap.get?_push_size _ rfl,rfl,rfl⟩,bQ (Heap.get?_push_of_some _ hg)⟩ hq)
  ·rcases al_mc hb with q|q
   ·exact .inl q
   ·rw[cG q];exact .inr ⟨_,hz⟩
  ·refine aB (hvs.get hi) fun r' h1 h2=>?_
   have h3:vs[i]? = some r:=by rw[←List.getElem?_toArray];exact hr
   rw[h1] at h3;obtain rfl:=so h3;exact h2
 | _=>exact ox e
theorem Dx{t:PySem.Expr}{a:Addr}{k:Int}{u0 u1 u2:Tok}{Q:Value→Shared→Prop}(hh:A.handled=none)(h:Rel W Φ F st s)(hr:IsRange s.heap a 0 k 1 u0 u1 u2)(hk:0≤k∧k≤100000)(hq:Ho W n A env Φ t F st s ((List.range k.toNat).map fun i=>V.int (Int.ofNat i)) Q):wpAny W.M A (pyIter (.ref a)) Q X s:=by
 refine wpAny_pyIter_range hr (small_one (by decide) (by decide) (by lia) (by lia)) ?_
 have es:Builtin.Range.rangeSize 0 k 1=((k.toNat:Nat):Int):=by rw[rangeSize_one];split<;>lia
 have Wk:=Walks.range (prog:=W.prog) (w:=W.w) hh s.heap.objs.size 0 1 k.toNat;refine oG (T := "range_iterator") h rfl (by rw[List.length_map,List.length_range];exact Wk) (fun b hb=>.inl (cG hb)) (fun i h hs=>⟨_,hs,rfl⟩) (by decide) (fun i v r hi hr=>?_) ?_ hq
 ·refine bG hr fun t e1=>?_;clear hr;subst e1
  rw[List.getElem?_map] at hi;refine aB (aM hi) fun j h1 e2=>?_;subst e2
  have h2:i=j:=by
   rcases Nat.lt_or_ge i k.toNat with q|q
   ·rw[List.getElem?_range q] at h1;obtain rfl:=so h1;rfl
   ·rw[List.getElem?_eq_none (by rw[List.length_range];exact q)] at h1;exact ox h1
  subst h2
  have e3:(0:Int)+(i:Nat)*1=Int.ofNat i:=by simp
  rw[e3];exact .int _ _
 ·show IsRangeIter _ _ _ _ _
  rw[es];simp only[Int.natCast_zero,Int.sub_zero];exact Heap.get?_push_size _ rfl
end
end
section
variable{Θ:Mn}
section
variable{W:Wd}{n:Nat}{O:Orc}{E:Ev}{st:St}{A A':Around}{env:Env}{Φ:Fm}{F F':Fz}{s:Shared}{X:Value→Shared→Prop}
theorem Wm{cs:List Nat}{i:Nat}{v:V}(hi:(cs.zipIdx.map fun p=>V.tup [.int (Int.ofNat p.2),.str [p.1]])[i]? = some v):∃c,cs[i]? = some c∧v=V.tup [.int (Int.ofNat i),.str [c]]:=by
 rw[List.getElem?_map,List.getElem?_zipIdx] at hi
 cases e:cs[i]? with
 | none=>rw[e] at hi;exact ox hi
 | some c=>rw[e] at hi;obtain rfl:=so hi;exact⟨c,rfl,by rw[Nat.zero_add]⟩
theorem Cp{xs:List PySem.Expr}{k:Nat}{p:Pos}{e it:Addr}{F0:Fz}{cs:List Nat}{St0:Nat→Heap→Prop}(hh:A.handled=none)(hne:e≠it)(fe:F0.H e = .free)(fi:F0.H it = .free)
  (D:∀A':Around,A'.handled=none→Draws W.prog W.w A' it [it] (⟨cs.toArray⟩:Str).cps.size (fun i v=>∃c u,(⟨cs.toArray⟩:Str).cps[i]? = some c∧v = .str ⟨#[c]⟩ u) St0) (live:∀i h,St0 i h→∃ob,h.get? it=some ob) :
  Cl W n A env Φ (.Tuple xs k p) e [e,it] F0 (cs.zipIdx.map fun p=>V.tup [.int (Int.ofNat p.2),.str [p.1]]) (fun (i:Nat) h=>(∃old,IsEnum h e it i old)∧St0 i h) (fun _=>True):=by
 have hsz:(⟨cs.toArray⟩:Str).cps.size=(cs.zipIdx.map fun p=>V.tup [.int (Int.ofNat p.2),.str [p.1]]).length:=by
  rw[List.length_map,List.length_zipIdx];exact List.size_toArray
 have WT:=WalksT.enumerateD (D A.in1 hh) e hne (fun q=>hne (cG q)) (.head _);rw[hsz] at WT
 have two:∀(i:Nat) h,((∃old,IsEnum h e it i old)∧St0 i h)→∀a∈[e,it],∃o,h.get? a=some o:=fun i h hs a ha=>by
  obtain⟨⟨old,h1⟩,h2⟩:=hs
  rcases al_mc ha with q|q
  ·rw[q];exact⟨_,h1⟩
  ·rw[cG q];exact live _ _ h2
 have fr:∀a∈[e,it],F0.H a = .free:=fun a ha=>by
  rcases al_mc ha with q|q
  ·rw[q];exact fe
  ·rw[cG q];exact fi
 have kp:∀{F F':Fz} {s s':Shared} {b:Nat} {st st':St},(∀a∈[e,it],dD F a)→Rel W Φ F st s→Ext b Φ.d F F'→Rel W Φ F' st' s'→∀b∈[e,it],∀o,s.heap.get? b=some o→s'.heap.get? b=some o:=fun {F F' s s' c st st'} hw h x h' b hb o eb=>by
  refine bG (hw b hb) fun o1 e1=>?_;have e2:=(x.keep b (by rw[e1];trivial)).trans e1;rw[(h.ph.own e1).1] at eb;obtain rfl:=so eb;exact (h'.ph.own e2).1
 refine⟨fr,fun {i F F' s s' b st st'} hs _ hw h _ x h' _=>WT.frame _ _ _ hs (kp hw h x h'),fun {Θ i v st F s k' ke Q N} hi C le hw h pf hs hk hq=>?_,fun {st F s Q N} hw h hs hq=>?_⟩
 ·have hlt:=(List.getElem?_eq_some_iff.mp hi).1
  refine aB (Wm hi) fun c0 hc0 e2=>?_;subst e2;refine WT.item i s _ _ hlt hs fun T vals h' tk' hPt _ hT hMid hk1=>⟨.ref T,rfl,?_⟩;obtain⟨tt,x,⟨c,u,hc,rfl⟩,rfl⟩:=hPt
  have hc':c0=c:=by
   have:cs[i]? = some c:=by rw[←List.getElem?_toArray];exact hc
   rw[hc0] at this;exact Option.some.inj this
  subst hc';refine WT.go xs k p i T {s with heap:=h',toks:=tk'} _ _ hMid fun h2 hs2 hk2=>?_;have hTw:=WT.apart i T h' hMid
  have hb1:∀a∈[e,it],W.base.objs.size≤a:=fun a ha=>by
   refine fA ((hw a ha).at h) fun _ _ _ z=>?_;exact z
  have R2:=h.turn (wr:=[e,it]) (h':=h2) (t:=tk') (fun a ha=>.inr (hw a ha)) hb1 (fun b o hb eb=>hk2 b o hb (hk1 b o hb eb)) (two _ _ hs2)
  have P2:∀a∈[e,it],dD (F.repark [e,it] h2) a:=fun a ha=>by
   refine bG (two _ _ hs2 a ha) fun ob l1=>?_;exact⟨ob,Fz.repark_at ha l1⟩
  have hk:Θ.m (gF env.scope xs (V.tup [V.int (Int.ofNat i),V.str [c0]]) st Θ.T k' ke Θ.z):=hk;unfold gF at hk;refine bc fun hG=>?_;refine aB (aC hk) fun vs ev hk=>?_;obtain rfl:=so ev;refine aE (aS hk) fun hl hk=>?_;refine aE (qJ (env:=env) hk) fun e1 e2=>?_;refine hG ?_;clear hG
  have hT2:IsTup h2 T #[.int i tt,.str ⟨#[c0]⟩ u]:=by
   refine fA hT fun oT g1 g2 g3=>?_;clear hT;exact⟨oT,hk2 T oT hTw g1,g2,g3⟩
  refine assign_Tuple_tuple (s:={s with heap:=h2,toks:=tk'}) C.handled hT2 (e1.trans (Nat.eq_of_beq_eq_true hl)) e2 fun h3 he=>?_;have R3:Rel W Φ (F.repark [e,it] h2) st {s with heap:=h3,toks:=tk'}:=R2.keep fun a o e=>he a o (Nat.ne_of_lt (Heap.lt_size e)) e;refine qM C R3 (.cons (.int _ _) (.cons (.str [c0] u (by show 1≤100000;decide)) .nil)) hk fun {st' s' F'} x h4 k4=>?_;refine hq (fun hb x0=>(x0.turn fr h2).trans (x hb)) (fun a ha=>(P2 a ha).ext (x (b:=0) (by decide))) h4 trivial (WT.frame _ _ _ hs2 (kp P2 R2 (x (b:=0) (by decide)) h4)) k4
 ·refine WT.done s _ _ hs fun h' tk hk'=>?_
  exact hq _ (F.unpark [e,it]) (fun x0=>x0.unpark fr) (h.unpark hw hk')
end
end
section
variable{Θ:Mn}
theorem fE{it:PySem.Expr}{env:Env}(h:lE it=false)(x:Value):foldedSetIterable it env x=pure x:=by
 cases it<;>first|rfl|exact tz h
section
variable{W:Wd}{n:Nat}{O:Orc}{E:Ev}{st:St}{A A':Around}{env:Env}{Φ:Fm}{F F1 F':Fz}{s:Shared}{X:Value→Shared→Prop}{b:Nat}{k:Fl→St→Θ.T}{ke:V→St→Θ.T}{Q:Flow→Shared→Prop}
theorem nI(hb:b<2)(HX:cZ W n b E.execs){t:PySem.Expr}{bd:List PySem.Stmt}{ks:List Str}{l:List V}(C:Ctx n A env Φ)(x1:Ext b Φ.d F F1)(hk:Θ.m (eU (iR E env.scope t bd ks) l st Θ.T k ke Θ.z))(P:bJ b dR W Φ F k ke Q X) :
  Ho W n A env Φ t F1 st s l (fun it s₂=>codeAny W.M A (.forLoop t it bd [] env) (fun r s'=>match r with | .ok f=>Q f s' | .error e=>cameBackBy W.M A env X e s') s₂):=by
 intro I wr St' F2 s' x2 hw R h0 Y;refine zV hb HX (ks:=ks) (F0:=F1) (f:=iR E env.scope t bd ks) (PF:=fun _=>True) C Y (fun {v st k} hk=>⟨k,hk,fun _ _ h=>⟨trivial,h⟩⟩) x2 hw R trivial h0 hk (fun x h f k=>P.ok (x1.trans x) h f k) fun x hx k=>Ax C hx fun s' hx'=>P.err (x1.weak.trans x) hx' k
theorem Es{T:String}{e:PySem.Expr}{p:Pos}{Q:Value→Shared→Prop}(he:dA e=false)(h:wpAny W.M A (eval e env) (fun v s₁=>wpAny W.M A (call (.type T) [v]) Q X s₁) X s):wpAny W.M A (callWith p (.type T) [] (backTo p (starEach [e] env)) []) Q X s:=by
 refine PyProof.Rows.callWith_type1 ?_ (mW he []) rfl;rw[mW he];exact Calls.spliced_cons (wpAny_mono h (fun _ _ h₁=>Calls.spliced_nil h₁) fun _ _ z=>z)
theorem eE(T:cM W O)(C:Ctx n A env Φ)(h:Rel W Φ F st s){x:Str}{p:Pos}{v:Value}{Q:Value→Shared→Prop}(hx:cL env.scope x=true)(hb:x∈lR)(hv:bootBuiltins x=some v)(hq:Q v s):wpAny W.M A (eval (.Name x p) env) Q X s:=by
 have e:=cH hx
 have hn:x ≠ "__name__" := fun q=>by subst q;revert hb;decide
 exact Calls.Name_function_global C.kind e (Calls.loadGlobal_builtin (by rw[C.globals];exact W.g.keeps h.ph.old) (T.blt x hb) (by rw[C.builtins];exact W.b.keeps h.ph.old) ((W.blt x hn).trans hv) hq) (C.dbg e)
end
end
section
variable{Θ:Mn}
theorem Lm{e a:PySem.Expr}{g:Str}(h:Sl e=some (g,a)):∃gp p,e = .Call (.Name g gp) [a] [] p∧dA a=false:=by
 cases e with
 | Call f args kws p=>
  refine aB (aD h) fun g' e1 h1=>?_;refine aB (aD h1) fun a' e2 h2=>?_;refine bG (bM e1) fun gp e1=>?_;subst e1;have h3:(match bP kws && !dA a' with|true=>some (g',a')|false=>none)=some (g,a):=h2;clear h h1 h2
  cases c:bP kws && !dA a' with
  | false=>rw[c] at h3;exact ox h3
  | true=>
   rw[c] at h3;cases h3;refine aE (aA c) fun c1 c2=>?_;rw[bZ e2,bL c1];exact⟨gp,p,rfl,by revert c2;cases dA a<;>simp⟩
 | _=>exact ox h
section
variable{W:Wd}{n:Nat}{O:Orc}{E:Ev}{st:St}{A A':Around}{env:Env}{Φ:Fm}{F F1 F':Fz}{s:Shared}{X:Value→Shared→Prop}{b:Nat}{k:Fl→St→Θ.T}{ke:V→St→Θ.T}{Q:Flow→Shared→Prop}
theorem Nc(hb:b<2)(HE:aR W n E.eval)(HX:cZ W n b E.execs){t it:PySem.Expr}{bd:List PySem.Stmt}{ks:St→List Str}{p:Pos}(hs:lE it=false)
  (hk:Θ.m (((E.eval env.scope it st).bind fun v st=>(R.ofOpt (eY v) st).bind fun l st=>eU (iR E env.scope t bd (ks st)) l st) Θ.T k ke Θ.z)) (C:Ctx n A env Φ) (h:Rel W Φ F st s) (P:bJ b dR W Φ F k ke Q X):wpAny W.M A (exec (.For t it bd [] p) env) Q X s:=by
 refine wpAny_For ?_ (fE hs);refine HE hk C h ⟨fun {v st1 r s1 F1} x1 h1 v1 k1=>?_,P.err⟩;refine aB (aC k1) fun l e k1=>?_;exact Pm C.handled h1 e v1 (nI (s:=s1) hb HX C x1.of_true k1 P)
theorem Nb(T:cM W O)(hb:b<2)(HE:aR W n E.eval)(HX:cZ W n b E.execs){t a:PySem.Expr}{gp cp:Pos}{bd:List PySem.Stmt}{ks:St→List Str}{p:Pos}(hg:cL env.scope ("range" : Str)=true)(hs:dA a=false)
  (hk:Θ.m (((E.eval env.scope a st).bind fun v st=>(R.ofOpt (nH v) st).bind fun l st=>eU (iR E env.scope t bd (ks st)) l st) Θ.T k ke Θ.z)) (C:Ctx n A env Φ) (h:Rel W Φ F st s) (P:bJ b dR W Φ F k ke Q X):wpAny W.M A (exec (.For t (.Call (.Name "range" gp) [a] [] cp) bd [] p) env) Q X s:=by
 refine wpAny_For ?_ (fE rfl);refine Call_Name rfl (eE T C h hg (by decide) (v:=.type "range") (by kernel_rfl) (Es hs ?_));refine HE hk C h ⟨fun {v st1 r s1 F1} x1 h1 v1 k1=>?_,P.err⟩;refine bc fun hG=>?_;refine aB (aC k1) fun l e k2=>?_;refine aB (aD e) fun i e1 e3=>?_;refine aE (bX e3) fun c e1=>?_;subst e1;refine aE (aA c) fun c1 c2=>?_;obtain⟨rfl,u,rfl⟩:=v1.asInt e1;refine hG ?_;clear hG;refine call_range_1 ?_
 have h2:Rel W Φ F1 st1 {s1 with heap:=s1.heap.push {cls:=.type "range", data:=.fields #[.int 0 s1.toks,.int i u,.int 1 (s1.toks+1)]},toks:=s1.toks+1+1}:=
  (h1.toks (s1.toks+1+1)).keep fun a o e=>Heap.get?_push_of_some _ e
 exact Dx C.handled h2 (Heap.get?_push_size _ rfl) ⟨aI c1,aI c2⟩ (nI (s:={s1 with heap:=s1.heap.push {cls:=.type "range", data:=.fields #[.int 0 s1.toks,.int i u,.int 1 (s1.toks+1)]},toks:=s1.toks+1+1}) hb HX C x1.of_true k2 P)
end
end
section
variable{Θ:Mn}
section
variable{W:Wd}{n:Nat}{O:Orc}{E:Ev}{st:St}{A A':Around}{env:Env}{Φ:Fm}{F F1 F':Fz}{s:Shared}{X:Value→Shared→Prop}{b:Nat}{k:Fl→St→Θ.T}{ke:V→St→Θ.T}{Q:Flow→Shared→Prop}
theorem Na(T:cM W O)(hb:b<2)(HE:aR W n E.eval)(HX:cZ W n b E.execs){xs:List PySem.Expr}{i:Nat}{tp:Pos}{a:PySem.Expr}{gp cp:Pos}{bd:List PySem.Stmt}{ks:St→List Str}{p:Pos}(hg:cL env.scope ("enumerate" : Str)=true)(hs:dA a=false)
  (hk:Θ.m (((E.eval env.scope a st).bind fun v st=>(R.ofOpt (Yy v) st).bind fun l st=>eU (iR E env.scope (.Tuple xs i tp) bd (ks st)) l st) Θ.T k ke Θ.z)) (C:Ctx n A env Φ) (h:Rel W Φ F st s) (P:bJ b dR W Φ F k ke Q X):wpAny W.M A (exec (.For (.Tuple xs i tp) (.Call (.Name "enumerate" gp) [a] [] cp) bd [] p) env) Q X s:=by
 refine wpAny_For ?_ (fE rfl);refine Call_Name rfl (eE T C h hg (by decide) (v:=.type "enumerate") (by kernel_rfl) (Es hs ?_));refine HE hk C h ⟨fun {v st1 r s1 F1} x1 h1 v1 k1=>?_,P.err⟩;refine bc fun hG=>?_;refine aB (aC k1) fun l e k2=>?_;refine aB (aM e) fun cs e1 e2=>?_;subst e2;obtain⟨rfl,_,u,rfl⟩:=v1.asStr e1;refine hG ?_;clear hG;refine PySem.call_enumerate_str fun h' he hi hsz hkp=>?_;refine wpAny_pyIter_enum (s:={s1 with heap:=h'}) he ?_;have fe:F1.H (s1.heap.objs.size+1) = .free:=h1.ph.new (Nat.le_succ _);have fi:F1.H s1.heap.objs.size = .free:=h1.ph.new (aK _);refine aB (id hi) fun o2 l2 _=>?_
 have two:∀a∈[s1.heap.objs.size+1,s1.heap.objs.size],F1.H a = .free∧W.base.objs.size≤a∧∃o,h'.get? a=some o:=fun a ha=>by
  rcases al_mc ha with q|q
  ·rw[q];exact⟨fe,Nat.le_succ_of_le h1.above,_,he⟩
  ·rw[cG q];exact⟨fi,h1.above,_,l2⟩
 have R2:=h1.turn (wr:=[s1.heap.objs.size+1,s1.heap.objs.size]) (h':=h') (t:=s1.toks) (fun a ha=>.inl (two a ha).1) (fun a ha=>(two a ha).2.1) (fun b o _ e=>hkp b o e) (fun a ha=>(two a ha).2.2)
 have fin:∀{St0:Nat→Heap→Prop},(∀A':Around,A'.handled=none→Draws W.prog W.w A' s1.heap.objs.size [s1.heap.objs.size] (⟨cs.toArray⟩:Str).cps.size (fun i v=>∃c u,(⟨cs.toArray⟩:Str).cps[i]? = some c∧v = .str ⟨#[c]⟩ u) St0)→(∀i h,St0 i h→∃ob,h.get? s1.heap.objs.size=some ob)→St0 0 h'→
   codeAny W.M A (.forLoop (.Tuple xs i tp) (.ref (s1.heap.objs.size+1)) bd [] env) (fun r s'=>match r with | .ok f=>Q f s' | .error e=>cameBackBy W.M A env X e s') {s1 with heap:=h'}:=fun {St0} D live h0=>
  nI (s:=s1) hb HX C x1.of_true k2 P (fun {b}=>(Ext.refl b _ _).turn (fun a ha=>(two a ha).1) h') (fun a ha=>by
   refine bG ((two a ha).2.2) fun o e=>?_
   exact⟨o,Fz.repark_at ha e⟩) R2 ⟨⟨_,he⟩,h0⟩ (Cp C.handled (Nat.succ_ne_self _) fe fi D live)
 cases ha:(⟨cs.toArray⟩:Str).cps.all (· < 128)
 ·have e1:strIterType ⟨cs.toArray⟩ = "str_iterator" := by unfold strIterType;rw[ha];rfl
  rw[e1] at hi;exact fin (fun A' hA=>Draws.strWide hA _ _ u) (fun i h hs=>by obtain⟨o,a,_⟩:=hs;exact⟨o,a⟩) hi
 ·have e1:strIterType ⟨cs.toArray⟩ = "str_ascii_iterator" := by unfold strIterType;rw[ha];rfl
  rw[e1] at hi;exact fin (fun A' hA=>Draws.strAscii hA _ _ u) (fun i h hs=>by obtain⟨o,a,_⟩:=hs;exact⟨o,a⟩) hi
end
end
section
variable{Θ:Mn}
section
variable{W:Wd}{n:Nat}{O:Orc}{E:Ev}{st:St}{A A':Around}{env:Env}{Φ:Fm}{F F1 F':Fz}{s:Shared}{X:Value→Shared→Prop}{b:Nat}{k:Fl→St→Θ.T}{ke:V→St→Θ.T}{Q:Flow→Shared→Prop}
set_option backward.match.sparseCases true in
theorem Dr{sc:Scope}{t:PySem.Expr}{bd:List PySem.Stmt}{ks:List Str}{ke':V→St→Θ.T}{l:List V}:∀{st:St},eU (mZ E sc t bd ks) l st Θ.T k ke Θ.z=eU (mZ E sc t bd ks) l st Θ.T k ke' Θ.z:=by
 induction l with
 | nil=>exact rfl
 | cons v l ih=>
  intro st
  have e:(fun (f:Fl) (st:St)=>(match f with | .brk=>R.ok .next st | .ret v=>R.ok (.ret v) st|_=>eU (mZ E sc t bd ks) l st:R Fl) Θ.T k ke Θ.z)=fun (f:Fl) (st:St)=>(match f with | .brk=>R.ok .next st | .ret v=>R.ok (.ret v) st|_=>eU (mZ E sc t bd ks) l st:R Fl) Θ.T k ke' Θ.z:=funext fun f=>funext fun st=>by
   cases f<;>first|rfl|exact ih
  exact congrArg (fun g=>mZ E sc t bd ks v st Θ.T g ke Θ.z) e
end
end
section
variable{Θ:Mn}
section
variable{W:Wd}{n:Nat}{O:Orc}{E:Ev}{st:St}{A A':Around}{env:Env}{Φ:Fm}{F F1 F':Fz}{s:Shared}{X:Value→Shared→Prop}{b:Nat}{k:Fl→St→Θ.T}{ke:V→St→Θ.T}{Q:Flow→Shared→Prop}
theorem Xk{sc:Scope}{t:PySem.Expr}{bd:List PySem.Stmt}{ks:List Str}{v:V}(h:Θ.m (mZ E sc t bd ks v st Θ.T k (fun _ _=>Θ.z) Θ.z)):∃kk,Θ.m (iR E sc t bd ks v st Θ.T kk (fun _ _=>Θ.z) Θ.z)∧∀fl st,Θ.m (kk fl st)→st.tch=false∧Θ.m (k fl st):=by
 refine⟨_,h,fun fl st q=>?_⟩;obtain⟨l,f,t⟩:=st
 cases t with
 | false=>exact⟨rfl,q⟩
 | true=>exact (Θ.nz q).elim
theorem Mz(T:cM W O)(hb:b<2)(HX:cZ W n b E.execs){t it:PySem.Expr}{bd:List PySem.Stmt}{ks:List Str}{p:Pos}{q:Str×Slot}{l:List (Int×V)}(ho:bH O env.scope it st=some q)(hq:q.2 = .dct l)
  (hk:Θ.m (((eU (mZ E env.scope t bd ks) (l.map fun p=>.int p.1) ⟨st.loc,st.flds,false⟩).bind fun f s=>R.ok f ⟨s.loc,s.flds,true⟩) Θ.T k ke Θ.z)) (C:Ctx n A env Φ) (h:Rel W Φ F st s) (P:bJ b dR W Φ F k ke Q X):wpAny W.M A (exec (.For t it bd [] p) env) Q X s:=by
 have hs:lE it=false:=by
  refine Lh (gQ ho) fun x p p' e3 _=>?_;subst e3;rfl
 refine wpAny_For ?_ (fE hs);refine fD T C h ho fun r x d es j g gl z=>?_;rw[hq] at z;refine Bz z.ofDct fun a es' j' e3 z1 z2 z3 z4=>?_;subst e3;have h0:=h.toks (s.toks+1);have hget:s.heap.get? a=some (dictOf es' j'):=(h.ph.own z1).1;refine aB (z2.dictOf (prog:=W.prog) (w:=W.w) z4 hget) fun kv hDV hDA=>?_
 have hsys:(a==sysModules)=false:=by
  have q1:=(h.ph.own z1).2;have q2:=W.sys
  exact beq_eq_false_iff_ne.mpr fun q=>by rw[q] at q1;exact absurd (jI q2 q1) (Nat.lt_irrefl _)
 refine wpAny_pyIter_dict (knd:=intKind W.prog W.w) (s:={s with toks:=s.toks+1}) hsys hDA ?_;refine kG (h0.parkNew (o0:={cls:=.type "dict_keyiterator", data:=.fields #[.ref a,.int 0 0,.int kv.length 0,.int j' 0]}) rfl) fun R pk x0=>?_;have ne:a≠s.heap.objs.size:=Nat.ne_of_lt (Heap.lt_size hget);have na:a ∉ [s.heap.objs.size]:=fun q=>ne (cG q)
 have R':Rel W {Φ with pin:=[(a,(x,some q.1),dictOf es' j')]} _ ⟨st.loc,st.flds,false⟩ _:=⟨R.ph,R.loc,R.frs,R.foc,R.lax,fun _ q hq=>by
  rw[cG hq]
  exact (Fz.repark_ne na).trans z1⟩
 have Wk:=Walks.dictKeys (prog:=W.prog) (w:=W.w) (knd:=intKind W.prog W.w) C.handled s.heap.objs.size a ne kv j'
 have e1:kv.length=(l.map fun p=>V.int p.1).length:=by rw[List.length_map,hDV.length]
 have hst0:Heap.IsKeyIter (s.heap.push {cls:=.type "dict_keyiterator", data:=.fields #[.ref a,.int 0 0,.int kv.length 0,.int j' 0]}) s.heap.objs.size a 0 kv.length j':=⟨_,Heap.get?_push_size _ rfl,rfl,rfl⟩;have Y:Cl W n A env {Φ with pin:=[(a,(x,some q.1),dictOf es' j')]} t s.heap.objs.size [s.heap.objs.size] F (l.map fun p=>V.int p.1) _ (fun st=>st.tch=false):=zL (T := "dict_keyiterator") (e1▸Wk) (h.ph.new (aK _)) (fun b hb=>?_) (fun _ _ _ h=>h) (fun i h hs=>by obtain⟨⟨o,a,b,_⟩,_⟩:=hs;exact⟨o,a,b⟩) (by decide) (fun i v r hi hr=>?_)
 ·refine zV (Φ:={Φ with pin:=[(a,(x,some q.1),dictOf es' j')]}) hb HX (k:=fun fl st=>k fl ⟨st.loc,st.flds,true⟩) (ke:=fun _ _=>Θ.z) (PF:=fun st=>st.tch=false) (f:=mZ E env.scope t bd ks) (ks:=ks) (F0:=F) ⟨C.kind,C.locals,C.frame,C.globals,C.builtins,C.nodbg,C.frames,C.handled,C.depth,C.units⟩ Y Xk x0 pk R' rfl ⟨e1▸hst0,hDA.push _⟩ ?_ (fun {fl st' s' F' fl'} x h f k=>P.ok (st:=⟨st'.loc,st'.flds,true⟩) x ⟨h.ph,h.loc,h.frs,h.foc,h.lax,fun q=>Bool.noConfusion q⟩ f k) fun _ _ k=>(Θ.nz k).elim
  rw[←Dr (ke:=ke)];exact hk
 ·rcases al_mc hb with q|q
  ·exact .inl q
  ·rw[cG q]
   exact .inr ⟨_,fun _ h' pf=>(h'.ph.own (h'.ro pf _ (.head _))).1⟩
 ·refine iJ hr fun kk vv hkk hval=>?_;clear hr
  refine bG (Value.isInt_shape hval) fun tt e1=>?_;subst e1
  have e6:(kv.map (·.1))[i]? = some kk:=by rw[List.getElem?_map,hkk];rfl
  rw[hDV.keys,List.getElem?_map] at e6;rw[List.getElem?_map] at hi;refine aB (aM e6) fun q1 y1 y2=>?_;rw[y1] at hi;obtain rfl:=so hi;show VR F (.int q1.1) _;rw[y2];exact .int _ _
end
end
section
variable{Θ:Mn}
theorem wH{o:Option (Str×Slot)}{l:List (Int×V)}(h:Hb o=some l):∃q,o=some q∧q.2 = .dct l:=by
 cases o with
 | none=>exact ox h
 | some q=>
  refine⟨q,rfl,?_⟩;obtain⟨y,sl⟩:=q
  cases sl<;>first|(cases h;rfl)|exact ox h
theorem yA{sc:Scope}{it:PySem.Expr}:cU sc it=(0,it)∨∃g a gp p,it = .Call (.Name g gp) [a] [] p∧dA a=false∧cL sc g=true∧((g = "range" ∧ cU sc it=(1,a))∨(g = "enumerate" ∧ cU sc it=(2,a))):=by
 cases hc:Sl it with
 | none=>exact .inl (by unfold cU;rw[hc])
 | some q=>
  refine bc fun hG=>?_;obtain⟨g,a⟩:=q;refine iJ (Lm hc) fun gp p e1 e2=>?_;refine hG ?_;clear hG
  have key:cU sc it=(match cL sc g with|true=>if g=("range" : Str) then (1,a) else if g=("enumerate" : Str) then (2,a) else (0,it)|false=>(0,it)):=by unfold cU;rw[hc]<;>rfl
  clear hc
  cases hg:cL sc g with
  | false=>rw[hg] at key;exact .inl key
  | true=>
   rw[hg] at key
   by_cases q1:g=("range" : Str)
   ·exact .inr ⟨g,a,gp,p,e1,e2,hg,.inl ⟨q1,key.trans (if_pos q1)⟩⟩
   ·by_cases q2:g=("enumerate" : Str)
    ·exact .inr ⟨g,a,gp,p,e1,e2,hg,.inr ⟨q2,key.trans ((if_neg q1).trans (if_pos q2))⟩⟩
    ·exact .inl (key.trans ((if_neg q1).trans (if_neg q2)))
section
variable{W:Wd}{n:Nat}{O:Orc}{E:Ev}{st:St}{A A':Around}{env:Env}{Φ:Fm}{F F1 F':Fz}{s:Shared}{X:Value→Shared→Prop}{b:Nat}{k:Fl→St→Θ.T}{ke:V→St→Θ.T}{Q:Flow→Shared→Prop}
theorem Bi{t:PySem.Expr}(h:Gj t=true):∃xs i p,t = .Tuple xs i p:=by
 cases t<;>first|exact⟨_,_,_,rfl⟩|exact bx h
theorem Uh(T:cM W O)(hb:b<2)(HE:aR W n E.eval)(HX:cZ W n b E.execs){t it:PySem.Expr}{bd:List PySem.Stmt}{p:Pos}
  (hk:Θ.m (BS O E env.scope t it bd st Θ.T k ke Θ.z)) (C:Ctx n A env Φ) (h:Rel W Φ F st s) (P:bJ b dR W Φ F k ke Q X):wpAny W.M A (exec (.For t it bd [] p) env) Q X s:=by
 unfold BS at hk
 cases hd:Hb (bH O env.scope it st) with
 | some l=>
  rw[hd] at hk;refine aB (wH hd) fun q e1 e2=>?_;exact Mz T hb HX e1 e2 hk C h P
 | none=>
  rw[hd] at hk;refine aE (aS hk) fun c k1=>?_;refine aE (aA c) fun c1 c2=>?_;clear c hd hk
  rcases yA (sc:=env.scope) (it:=it) with e|⟨g,a,gp,cp,rfl,e2,e3,⟨rfl,e⟩|⟨rfl,e⟩⟩
  ·rw[show (cU env.scope it).1=0 from congrArg Prod.fst e,show (cU env.scope it).2=it from congrArg Prod.snd e] at k1
   exact Nc (ks:=St.names) hb HE HX (by revert c1;cases lE it<;>simp) k1 C h P
  ·rw[show (cU env.scope _).1=1 from congrArg Prod.fst e,show (cU env.scope _).2=a from congrArg Prod.snd e] at k1
   exact Nb (ks:=St.names) T hb HE HX e3 e2 k1 C h P
  ·rw[show (cU env.scope _).1=2 from congrArg Prod.fst e,show (cU env.scope _).2=a from congrArg Prod.snd e] at k1
   rw[e] at c2;clear c1 e;refine jS (Bi c2) fun xs i tp e3=>?_;subst e3;exact Na (ks:=St.names) T hb HE HX e3 e2 k1 C h P
end
end
section
variable{Θ:Mn}
theorem wR:isSubtype (.type "type") (.type "tuple")=(pure false:Sem Bool):=by kernel_rfl
theorem wN{e:PySem.Expr}{q:Str×Str×Str}(h:Zb e=some q):∃p1 p2 p3,e = .Attribute (.Attribute (.Name q.1 p1) q.2.1 p2) q.2.2 p3:=by
 obtain⟨⟨b,a⟩,e1,h1⟩:=aD h;obtain⟨⟨b2,a2⟩,e2,h2⟩:=aD h1;clear h h1;refine aB (aM h2) fun y e3 e2=>?_;subst e2;clear h2;refine bG (mP e1) fun p3 e1=>?_;subst e1;clear e1;refine bG (mP e2) fun p2 e1=>?_;subst e1;clear e2;refine bG (bM e3) fun p1 e1=>?_;subst e1;exact⟨p1,p2,p3,rfl⟩
theorem Pv{ops:List CmpOp}(h:Pw ops=true):ops=[.Eq]:=by
 unfold Pw at h
 cases q:one ops with
 | none=>rw[q] at h;exact bx h
 | some o=>
  rw[q] at h
  cases o<;>first|exact bZ q|exact bx h
section
variable{W:Wd}{n:Nat}{O:Orc}{E:Ev}{st:St}{A A':Around}{env:Env}{Φ:Fm}{F F1 F':Fz}{s:Shared}{X:Value→Shared→Prop}{b:Nat}{k:Fl→St→Θ.T}{ke:V→St→Θ.T}{Q:Flow→Shared→Prop}
theorem uB{c:Addr}{e:Addr}{oe:Obj}{Q:Bool→Shared→Prop}(XK:W.K.In s.heap)(mk:iI W.K c=true)(mcl:typeIn W.K (.ref c)=some (.type "type"))
  (he:s.heap.get? e=some oe) (hc:oe.cls = .ref c) (hq:Q true s):wpAny W.M A (excMatches (.ref e) (.ref c)) Q X s:=by
 have Y:=pQ (M:=W.M) XK mk;have tc:Looks W.M s.heap (typeOf (.ref c)) (.type "type"):=looks_typeIn XK mcl;have te:Looks W.M s.heap (typeOf (.ref e)) oe.cls:=(Looks.ld he).andThen .now;rw[hc] at te;have inst:Looks W.M s.heap (isInstance (.ref c) (.type "tuple")) false:=tc.andThen (by rw[wR];exact .now);refine IF Y.obj fun oc od cd sl hC _=>?_;have ty:Looks W.M s.heap (isType (.ref c)) true:=(Looks.ld hC).andThen .now;have ex:Looks W.M s.heap (isExcClass (.ref c)) true:=ty.andThen (by rw[if_pos rfl];exact Y.bexc);unfold excMatches;refine aF (inst.here ?_);rw[if_neg Bool.false_ne_true];refine aF (aP ?_);dsimp only;rw[List.forIn_cons];refine aF (aF (aF (ex.here ?_)));rw[if_neg (by decide)];refine aP ?_;dsimp only;rw[List.forIn_nil];refine aP (aF (te.here (aF ?_)));rw[List.forIn_cons];refine aF (aF (Y.self.here ?_));rw[if_pos rfl];refine aP ?_;exact aP (aP hq)
theorem sK(T:cM W O){e:PySem.Expr}{v:V}{Q:Value→Shared→Prop}(C:Ctx n A env Φ)(h:Rel W Φ F st s)(ec:uH O env.scope e st=some v)(hp:gY W Φ F st v Q):wpAny W.M A' (eval e env) Q X s:=by
 refine aB (aD ec) fun q e1 e2=>?_;clear ec;refine jS (wN e1) fun p1 p2 p3 e3=>?_;subst e3;clear e1
 cases hx:cB env.scope q.1 with
 | false=>rw[hx] at e2;exact ox e2
 | true=>
  rw[hx] at e2;have e2:((mU (look q.1 st.loc)).bind fun v=>(eJ O v q.2.1).bind fun u=>eJ O u q.2.2)=some v:=e2;refine aB (aD e2) fun w e3 e4=>?_;refine aB (aD e4) fun u e5 e6=>?_;refine Attribute_any_ (Attribute_Name_ (hU C h hx (iY e3) fun r hr=>pF T h e5 hr fun x1 h1 v1=>?_));exact pF T h1 e6 v1 fun x2 h2 v2=>hp (x1.trans x2) h2 v2
theorem Cz(T:cM W O){e:PySem.Expr}{v:V}{Q:Value→Shared→Prop}(C:Ctx (n+1) A env Φ)(hu:A'.units=A.units)(h:Rel W Φ F st s)(ec:Sj O env.scope e st=some v)(hp:gY W Φ F st v Q):wpAny W.M A' (eval e env) Q X s:=by
 cases e with
 | Compare l ops rs p=>
  have ec:(match Pw ops with
   | true=>(uH O env.scope l st).bind fun v=>(one rs).bind fun r=>(cR r).bind fun z=>match cB env.scope z with
    | true=>(mU (look z st.loc)).bind fun w=>(aG .Eq v w).map .bool
    | false=>none
   | false=>none)=some v:=ec
  cases ho:Pw ops with
  | false=>rw[ho] at ec;exact ox ec
  | true=>
   rw[ho] at ec;obtain rfl:=Pv ho;refine aB (aD (show (uH O env.scope l st).bind _=some v from ec)) fun v1 e1 ec1=>?_;refine aB (aD ec1) fun r e2 ec2=>?_;refine aB (aD ec2) fun z e3 ec3=>?_;clear ec1 ec2 ho;obtain rfl:=bZ e2;clear e2;refine bG (bM e3) fun zp e1=>?_;subst e1;clear e3
   cases hx:cB env.scope z with
   | false=>rw[hx] at ec3;exact ox ec3
   | true=>
    rw[hx] at ec3;refine aB (aD (show (mU (look z st.loc)).bind _=some v from ec3)) fun w e4 ec4=>?_;clear ec3;refine aB (aM ec4) fun b e5 e2=>?_;subst e2;show wpAny W.M A' (do compareChain p (←eval l env) [.Eq] (markedEach [.Eq] [.Name z zp] (evalEach [.Name z zp] env))) _ X s;rw[markedEach_of_false _ _ _ (hJ [.Eq] [.Name z zp] rfl)];refine aF (sK T C h e1 fun x1 h1 v1=>?_);refine chain_last (hU C h1 hx (iY e4) fun r2 hr2=>?_);exact xC h1 e5 v1 hr2 (by have:=C.units;rw[hu];exact zu ‹_›) (hp x1 h1 (.bool b))
 | _=>exact ox ec
theorem Cy(hb:b<2)(T:cM W O){h0:List PySem.Stmt}(C:Ctx (n+1) A env Φ)(hu:A'.units=A.units)(hk:Θ.m (Si O env.scope h0 st Θ.T k ke Θ.z))(h:Rel W Φ F st s)
  (hp:∀{f st' f' s' F'},Ext b Φ.d F F'→Rel W Φ F' st' s'→dR F' f f'→Θ.m (k f st')→Q f' s'):(∃s,h0=[s])∧wpAny W.M A' (execs h0 env) Q X s:=by
 refine aB (aC hk) fun s1 e1 k1=>?_;clear hk;obtain rfl:=bZ e1;refine⟨⟨_,rfl⟩,?_⟩;clear e1
 cases s1 with
 | Assign ts e p=>
  refine aB (aC k1) fun t e2 k2=>?_;refine aB (aC k2) fun z e3 k3=>?_;refine aB (aC k3) fun v e4 k4=>?_;refine aE (aS k4) fun hx k5=>?_;clear k4;obtain rfl:=bZ e2;refine bG (bM e3) fun zp e1=>?_;subst e1;refine aB (aD e4) fun q e5 _=>?_;refine jS (wN e5) fun p1 p2 p3 e3=>?_;subst e3;exact wpAny_execs_cons (wpAny_Assign_Name (sK T C h e4 fun x1 h1 v1=>fC C h1 hx v1 fun x' h'=>wpAny_execs_nil (hp (x1.of_true.trans (x' hb)) h' .next k5)) (dZ (t:=some _) rfl rfl))
 | Return o p=>
  refine aB (aC k1) fun e e2 k2=>?_;refine aB (aC k2) fun v e3 k3=>?_;clear hb k2
  cases e2
  exact wpAny_execs_cons (wpAny_Return_some (Cz T C hu h e3 fun x1 h1 v1=>hp x1.of_true h1 (.ret v1) k3))
 | _=>exact (Θ.nz k1).elim
end
end
section
variable{Θ:Mn}
theorem Bl{α:Type}{l:List α}(h:bP l=false):∃a r,l=a::r:=by
 cases l with
 | nil=>exact tz h
 | cons a r=>exact⟨a,r,rfl⟩
theorem Lp{v:V}{q:Nat×List (Str×V)}(h:Zc v=some q):v = .exc q.1 q.2:=by
 cases v<;>first|(cases h;rfl)|exact ox h
section
variable{W:Wd}{n:Nat}{O:Orc}{E:Ev}{st:St}{A A':Around}{env:Env}{Φ:Fm}{F F1 F':Fz}{s:Shared}{X:Value→Shared→Prop}{b:Nat}{k:Fl→St→Θ.T}{ke:V→St→Θ.T}{Q:Flow→Shared→Prop}
theorem Rel.unbind(hb:b<2)(h:Rel W Φ F st s){x:Str}(hx:look x st.loc=none){m:Str→Option Value}(e0:F.H Φ.L = .frame Φ.d m)(l:kJ F Φ.d m st.loc){h':Heap}{u:Option Value}{t:Nat}(hn:h'.Ns Φ.L (fun y=>if y=x then u else m y))(hs:Heap.SameBut Φ.L s.heap h') :
  ∃F',Ext b Φ.d F F'∧Rel W Φ F' st {s with heap:=h',toks:=t}:=by
 refine⟨_,Rel.bind_ext hb e0,h.bind (loc:=st.loc) e0 hn hs fun y sl e=>?_⟩
 by_cases q:y=x
 ·clear e0 h hb hn hs t
  subst q;rw[hx] at e;exact ox e
 ·rw[if_neg q];exact l y sl e
theorem Az{x:Str}{l:List Str}:∀{fl:aL},look x (fl.filter fun p=>(l.filter fun y=>!decide (y=x)).contains p.1)=none:=by
 intro fl
 cases q:look x (fl.filter fun p=>(l.filter fun y=>!decide (y=x)).contains p.1) with
 | none=>rfl
 | some sl=>
  have:=(List.mem_filter.mp (List.contains_iff_mem.mp (jE q).2)).2;simp at this
theorem xQ{l:List Str}{x:Str}:(l.filter fun y=>!decide (y=x)).contains x=false:=by
 cases q:(l.filter fun y=>!decide (y=x)).contains x with
 | false=>rfl
 | true=>
  have:=(List.mem_filter.mp (List.contains_iff_mem.mp q)).2;simp at this
theorem Pi{x:Str}{sl:Slot}{l:List Str}(hx:l.contains x=false){loc:aL}:(put x sl loc).filter (fun p=>l.contains p.1)=loc.filter fun p=>l.contains p.1:=by
 have hx:¬l.contains x=true:=by rw[hx];exact Bool.false_ne_true
 induction loc with
 | nil=>exact (List.filter_cons (p:=fun p:Str×Slot=>l.contains p.1) (x:=(x,sl))).trans (if_neg hx)
 | cons p r ih=>
  obtain⟨y,w⟩:=p;show (if y=x then (y,sl)::r else (y,w)::put x sl r).filter _=_
  by_cases q:y=x
  ·subst q
   rw[if_pos rfl,List.filter_cons,List.filter_cons,if_neg hx,if_neg hx]
  ·rw[if_neg q,List.filter_cons,List.filter_cons,ih]
theorem dR.mono{f:Fl}{r:Flow}(h:dR F f r)(k:F.le F'):dR F' f r:=by
 cases h with
 | ret hv=>exact .ret (hv.mono k)
 | next=>exact .next
 | brk=>exact .brk
 | cont=>exact .cont
theorem Ud(hb:b<2)(hT:O.top=true→b=0)(T:cM W O)(XO:Ez W O)(HX:cZ W (n+1) b E.execs){bd:List PySem.Stmt}{hs0:List ExceptHandler}{p:Pos}(hk:Θ.m (ifB (bP ([]:List PySem.Stmt)&&(bP ([]:List PySem.Stmt) && !bP hs0)) (EU O E env.scope bd hs0 st) Θ.T k ke Θ.z))(C:Ctx (n+1) A env Φ)(h:Rel W Φ F st s)(P:bJ b dR W Φ F k ke Q X):wpAny W.M A (exec (.Try bd hs0 [] [] p) env) Q X s:=by
 refine aE (aS hk) fun c hk1=>?_
 have hne:bP hs0=false:=by revert c;cases bP hs0<;>simp [bP]
 refine yM (Bl hne) fun h0 hr e0=>?_;rw[e0];refine wpAny_Try_except ?_;refine HX hk1 C h ⟨fun {f st1 r s1 F1} x1 h1 f1 k1=>?_,fun {e ea st1 s1 F1} x1 hx k1=>?_⟩
 ·have h2:=h1.keepL st.names
  clear HX h hk hk1 hne p
  cases f1 with
  | next=>exact wpAny_execs_nil (P.ok x1 h2 .next k1)
  | brk=>exact P.ok x1 h2 .brk k1
  | cont=>exact P.ok x1 h2 .cont k1
  | ret hv=>exact P.ok x1 h2 (.ret hv) k1
 ·clear HX h hk hk1 hne p
  cases ht:O.top with
  | false=>rw[ht] at k1;exact (Θ.nz k1).elim
  | true=>
  rw[ht] at k1;have k0:Θ.m (Eo O env.scope hs0 e (st1.keep st.names) Θ.T k (fun _ _=>Θ.z) Θ.z):=k1;clear k1;refine bc fun hG=>?_;obtain rfl:=hT ht;clear hT ht;obtain⟨h1,hm,c,fs,oe,vs,rfl,y1,t1⟩:=hx;refine hG ?_;clear hG;have h1:=h1.keepL st.names;refine sI C h1 y1 t1 fun s2 h2 y2=>jP h2 y2 none fun s3 h3 y3=>?_;refine aB (aC k0) fun h9 e9 k2=>?_;clear h1 h2 hm k0 t1 y1 y2
  cases h9 with
  | ExceptHandler t x hd hpos=>
  refine bc fun hG=>?_
  obtain rfl:=List.cons.inj (e0.symm.trans (bZ e9)) |>.1
  obtain rfl:=List.cons.inj (e0.symm.trans (bZ e9)) |>.2
  refine aB (aC k2) fun g eg k3=>?_;refine aB (aC k3) fun x0 ex k4=>?_;refine hG ?_;clear hG;clear e0 k2 k3
  cases ex
  refine aB (aC k4) fun q eq k5=>?_;clear k4
  cases Lp eq
  refine bc fun hG=>?_;refine aB (aC k5) fun d ed k6=>?_;refine aE (aS k6) fun c6 k7=>?_;refine aE (aA c6) fun c7 c8=>?_;refine aE (aA c8) fun c8 hxl=>?_;refine aB (aD eg) fun g' eg1 eg2=>?_;clear c6 eg eq k5 k6;refine aE (bX eg2) fun hg e1=>?_;subst e1;clear eg2;refine aB (aD eg1) fun te e1 eg3=>?_;subst e1;clear eg1;refine bG (bM eg3) fun gp e1=>?_;subst e1;refine aB (aD ed) fun gv eg4 eg5=>?_;clear ed eg3;obtain rfl:q.1=d:=Nat.eq_of_beq_eq_true c7;refine hG ?_;clear hG;clear c7
  cases hl3:fF q.1 O.excs with
  | none=>rw[hl3] at c8;exact bx c8
  | some ps=>
  have EF:=XO _ _ hl3;refine wpAny_handleBy_cons (codeAny_handlers_test (jB T.glob C h3 hg eg4 fun r hr=>?_)) (by intro q;cases q);clear XO c8 eg4 hg hl3;refine bc fun hG=>?_;obtain rfl:=(hr F1 h3.ph.base).asCls eg5;refine iJ (id y3) fun oe3 vs3 y3 t3=>?_;refine hG ?_;clear hG;refine uB h3.ph.inK EF.makes EF.mcl y3.at_ y3.cls ?_;refine bc fun hG=>?_;refine aB (aC k7) fun s0 es0 _=>?_;clear EF eg5 hr;obtain rfl:=bZ es0;refine hG ?_;clear hG;clear es0;refine codeAny_handlers_suite_as (jP h3 ⟨oe3,vs3,y3,t3⟩ none fun s4 h4 y4=>?_);refine bc fun hG=>?_;obtain⟨oe4,vs4,y4,t4⟩:=y4;obtain⟨e1,e2,e4,e5,⟨d0,es0,n0,e6,e7,e8⟩,e9,e10⟩:=y4;refine hG ?_;clear hG;have h5:=h4.add (t:=s4.toks) (h':=s4.heap) (c:=.frz oe4) e9 (fun _ _ _ e=>e) e1;have x5:Ext 0 Φ.d F1 (F1.set ea (.frz oe4)):=.add e9
  have v5:VR (F1.set ea (.frz oe4)) (.exc q.1 q.2) (.ref ea):=.exc (F1.set_self _ _) e2 e6 (by
   obtain⟨_,_,dt,_⟩:=oe4
   dsimp only at e4;subst e4;rfl) (x5.le _ _ e7) (e8.mono x5.le)
  refine fC C h5 hxl v5 fun {s6 F6} x6 h6=>?_;have x16:=(x1.trans x5).trans (x6 (b:=0) hb);refine (Cy (A':=A.mark (some (.ref ea))) hb T C rfl k7 h6 fun {f st7 f7 s7 F7} x7 h7 hf k8=>?_).2;show wpAny W.M A (do bindName env x0 .none;unbindBehindTheSuite env x0 hpos) (fun _ s₃=>Q f7 s₃) X s7;have x17:=x16.trans x7;refine aF (wpAny_bindName (fC C h7 hxl .none fun {s8 F8} x8 h8=>?_));have x18:=x17.trans (x8 (b:=0) hb);refine bc fun hG=>?_;obtain⟨m8,g8,l8⟩:=h8.loc;obtain⟨r8,hm8,_⟩:=l8 x0 _ eV;refine hG ?_;clear hG;unfold unbindBehindTheSuite;refine wpAny_onRaise (wpAny_unbindName_local (cH hxl) (by rw[C.locals];exact (h8.ph.frame g8).1) hm8 (by rw[C.kind];rfl) fun h' u hn hsb=>?_);rw[C.locals] at hn hsb;obtain⟨F9,x9,h9⟩:=Rel.unbind (b:=0) hb (h8.keepL (st1.keep st.names |>.names.filter fun y=>!decide (y=x0))) Az g8 (fun y sl e=>l8 y sl (jE e).1) hn hsb
  have e:(st7.setL x0 (.val .none)).keep ((st1.keep st.names).names.filter fun y=>!decide (y=x0))=st7.keep ((st1.keep st.names).names.filter fun y=>!decide (y=x0)):=by
   unfold St.keep St.setL;rw[Pi xQ]
  refine P.ok (x18.trans x9) (st:=st7.keep ((st1.keep st.names).names.filter fun y=>!decide (y=x0))) ?_ (hf.mono (x8 (b:=0) hb |>.trans x9).le) k8;rw[←e];exact h9
end
end
section
variable{Θ:Mn}
noncomputable def pO(K:Frag)(c d:Addr):Bool:=kin_not K c d&&(plainGet K c "__class__" && (hasDictIn K c&&(findIn K (.ref c) "__class__" == some (some (.builtin "object.__class__")) &&
 (specialIn K (.builtin "object.__class__") "__get__" == some (some (.builtin "getset_descriptor.__get__"))&&(takesIn K (.builtin "object.__class__")==some true&&mroIn K c (.type "object")==some true)))))
structure oY(W:Wd)(n:Nat)(O:Orc):Prop where
 make:∀c ps,fF c O.make=some ps→makesIn W.K c=true∧∃fI fd body,iA W (qO W.K c) c ps fI fd body
 fns:∀x sp,look x O.fns=some sp→∃f,W.mg x=some (.ref f)∧keepIn W.K (.ref f)=true∧aW W n f false sp
 inst:∀c d,O.notInst.contains (c,d)=true→pO W.K c d=true
section
variable{W:Wd}{n:Nat}{O:Orc}{E:Ev}{st:St}{A A':Around}{env:Env}{Φ:Fm}{F F1 F':Fz}{s:Shared}{X:Value→Shared→Prop}{k:V→St→Θ.T}{ke:V→St→Θ.T}{Q:Value→Shared→Prop}
theorem bJ.then{c:V}(P:bJ 2 VR W Φ F k ke Q X)(hk:Θ.m (k c st)):gY W Φ F st c Q:=fun x h v=>P.ok x h v hk
theorem zX(IO:oY W (n+2) O)(NS:dU E)(HE:aR W (n+2) E.eval){c:Nat}{args:List PySem.Expr}{kws:List Keyword}{p:Pos}(ok:gB args kws)(hk:Θ.m (ifB (fF c O.make).isSome (qX E env.scope args kws st (Py O c)) Θ.T k ke Θ.z))(C:Ctx (n+2) A env Φ)(h:Rel W Φ F st s)(P:bJ 2 VR W Φ F k ke Q X) :
  wpAny W.M A (callWith p (.ref c) [] (backTo p (starEach args env)) (backToKw p (keywordEach kws env))) Q X s:=by
 refine aE (aS hk) fun hs hk1=>?_;clear hk
 cases hm:fF c O.make with
 | none=>rw[hm] at hs;exact Bool.noConfusion hs
 | some ps=>
  obtain⟨mk,fI,fd,body,MF⟩:=IO.make c ps hm;refine kP NS HE ok MF.keep (first:=[]) hk1 C h P.err fun x1 h1 v1 k1 _ hk2=>?_;refine aB (aC hk2) fun fs e k2=>?_;refine aB (aD e) fun ps' e1 e2=>?_;rw[hm] at e1;clear HE IO NS e h hk1 hk2 hm hs ok;obtain rfl:=so e1;exact Mv mk MF C h1 v1 k1 e2 ((P.ext x1).then k2)
theorem Zy(IO:oY W (n+2) O)(NS:dU E)(HE:aR W (n+2) E.eval){g:Str}{gp p:Pos}{sp:aY}{args:List PySem.Expr}{kws:List Keyword}(ok:gB args kws)(hg:cL env.scope g=true)(hf:look g O.fns=some sp)
  (hk:Θ.m (qX E env.scope args kws st (gR sp) Θ.T k ke Θ.z)) (C:Ctx (n+2) A env Φ) (h:Rel W Φ F st s) (P:bJ 2 VR W Φ F k ke Q X):wpAny W.M A (eval (.Call (.Name g gp) args kws p) env) Q X s:=by
 refine fA (IO.fns g sp hf) fun f m1 m2 m3=>?_;have e:=cH hg;refine wpAny_Call_ofName (Calls.Name_function_global C.kind e (Calls.loadGlobal_global (by rw[C.globals];exact W.g.keeps h.ph.old) m1 ?_) (C.dbg e));exact kP NS HE ok m2 (first:=[]) hk C h P.err fun x1 h1 v1 k1 _ hk2=>oW m3 hk2 C h1 rfl v1 k1 (P.ext x1)
theorem zW{l:List V}{a:Addr}{vs:List Value}{j:Nat}(hg:s.heap.get? a=some (listOf vs.toArray j))(hv:VRs F l vs)(hl:l.length≤aO)(hq:∀t t',Q (.int l.length t) {s with toks:=t'}):wpAny W.M A (call (.builtin "len") [.ref a]) Q X s:=
 call_len_list (bQ hg) (hv.fit hl) (by rw[hv.size];exact hq _ _)
theorem Fg{v:V}{r:Value}{l:V}(h:Rel W Φ F st s)(e:lA v=some l)(hv:VR F v r)(hq:gY W Φ F st l Q):wpAny W.M A (call (.builtin "len") [r]) Q X s:=by
 have w:=hv.view;clear hv
 cases v with
 | str cs=>
  obtain rfl:=so e;obtain⟨hl,t,rfl⟩:=w;exact PyProof.Rows.len_str (Int.not_le.mpr (rZ hl)) (by rw[jM];exact hq.tok h (.int _ _) _)
 | lst l=>
  obtain rfl:=so e;refine gL w fun a vs j e3 hz hvs hl=>?_;clear w;subst e3;exact zW (h.ph.frz hz) hvs hl fun t t'=>hq.tok h (.int _ _) _
 | tup l=>
  obtain rfl:=so e;refine gL w fun a vs j e3 hz hvs hl=>?_;clear w;subst e3;exact len_tuple (iG (h.ph.frz hz)) (hvs.fit hl) (by rw[hvs.size];exact hq.tok h (.int _ _) _)
 | _=>exact ox e
theorem Mx(T:cM W O)(HE:aR W n E.eval){e:PySem.Expr}(hk:Θ.m (AV O E env.scope e st Θ.T k ke Θ.z))(C:Ctx n A env Φ)(h:Rel W Φ F st s)(P:bJ 2 VR W Φ F k ke Q X) :
  wpAny W.M A (eval e env) (fun v s₁=>wpAny W.M A (call (.builtin "len") [v]) Q X s₁) X s:=by
 unfold AV at hk
 cases ho:bH O env.scope e st with
 | none=>
  rw[ho] at hk;refine HE hk C h ⟨fun x1 h1 v1 k1=>?_,P.err⟩;refine aB (aC k1) fun l e1 k2=>?_;exact Fg h1 e1 v1 ((P.ext x1).then k2)
 | some q=>
  rw[ho] at hk;obtain⟨a,sl⟩:=q;clear HE
  cases sl with
  | val v=>
   refine aB (aC (show Θ.m (R.ofOpt (lA v) st Θ.T k ke Θ.z) from hk)) fun l e1 k2=>?_;exact sJ T C h ho rfl fun x1 h1 v1=>Fg h1 e1 v1 ((P.ext x1).then k2)
  | lst l=>exact nC T C h ho rfl fun a vs j hg hvs hl=>zW hg hvs hl fun t t'=>P.here (h.toks _) (.int _ _) hk
  | _=>exact (Θ.nz hk).elim
theorem Cw(IO:oY W n O){v d:V}{b:Bool}{r rd:Value}(h:Rel W Φ F st s)(e:Pt O v d=some b)(hv:VR F v r)(hd:VR F d rd)(hq:gY W Φ F st (.bool b) Q):wpAny W.M A (call (.builtin "isinstance") [r,rd]) Q X s:=by
 have w:=hv.view;clear hv
 cases v with
 | obj c fs=>
  refine aB (aD e) fun d' e1 e2=>?_;obtain rfl:=hd.asCls e1;clear e1 hd;refine DJ w fun a dd es j e4 h1 h2 h3=>?_;clear w;subst e4;have ho:=h.ph.frz h1;clear h1 h3
  cases hc:Nat.beq c d' with
  | true=>
   rw[hc] at e2;obtain rfl:=so e2;obtain rfl:=Nat.eq_of_beq_eq_true hc;exact isi_call h.ph.inK (fun M=>(Looks.ld ho).andThen .now) (t:=.ref c) (by unfold PySem.W.isIn;simp) (by intro q;cases q) (hq.here h (.bool true))
  | false=>
   rw[hc] at e2;clear hc;refine aE (bX (show cV (O.notInst.contains (c,d')) false=some b from e2)) fun f e1=>?_;subst e1;refine aE (aA (IO.inst c d' f)) fun f1 f=>?_;refine aE (aA f) fun f2 f=>?_;refine aE (aA f) fun f3 f=>?_;refine aE (aA f) fun f4 f=>?_;refine aE (aA f) fun f5 f=>?_;refine aE (aA f) fun f6 f7=>?_;exact kin_callC (od:=dictOf es j) h.ph.inK ⟨ho,rfl,rfl,h.ph.frz h2⟩ f1 f2 f3 (eq_of_beq f4) (eq_of_beq f5) (eq_of_beq f6) (eq_of_beq f7) (hq.tok h (.bool false) _)
 | _=>exact ox e
end
end
section
variable{Θ:Mn}
section
variable{prog:Program}{w:World}{A:Around}{E:Value→Shared→Prop}{s:Shared}{K:Type}[DecidableEq K]{knd:KeyKind prog w K}
noncomputable def Tm(knd:KeyKind prog w K)(kvs:List (K×Value))(i:Nat)(v:Value):Prop:=∃k x,kvs[i]? = some (k,x)∧knd.is k v=true
theorem Bv{R:Result→Shared→Prop}(hh:A.handled=none){d:Addr}{kvs:List (K×Value)}{ep:Nat}(hd:(d==sysModules)=false)(hm:s.heap.DictAt knd d kvs ep)(S:Addr)(hSd:S≠d)(res:Value)(c₀:Nat)(hS:s.heap.get? S=some {cls:=.type "list", data:=.seq #[] c₀})
  (hR:∀h' tk acc' c',(∀b o,b≠S→s.heap.get? b=some o→h'.get? b=some o)→h'.get? S=some {cls:=.type "list", dict:=none,data:=.seq acc' c',slots:=#[]}→
   ItemsOf (Tm knd kvs) acc' kvs.length→R (.ok (.ret res)) {s with heap:=h',toks:=tk}) (hn:kvs.length≤sizeLine) :
  wpAny (model prog w) A.in1 (Builtin.List.listExtendWith (.ref S) (.ref d) res)
   (fun fin s'=>match fin with | .done f=>R (.ok f) s' | .again c'=>c'.quiet=true∧codeAny (model prog w) A c' R s') (fun e s'=>R (.error e) s') s:=by
 have hSI:S≠s.heap.objs.size:=Nat.ne_of_lt (Heap.lt_size hS);have hT:s.TypeIs (.ref d) "dict" := hm.dictOf.typeIs;unfold Builtin.List.listExtendWith;refine aF (wpAny_typeOf hT ?_)
 have h1:Builtin.List.listSameRef (.ref S) (.ref d)=false:=by simp [Builtin.List.listSameRef,hSd]
 have h2:(Value.type "dict" == Value.type "list")=false:=by decide
 have h3:(Value.type "dict" == Value.type "tuple")=false:=by decide
 simp only[h1,h2,h3,Bool.or_false,Bool.false_eq_true,if_false];refine aF (wpAny_pyIter_dict hd hm ?_);have hm2:(s.heap.push {cls:=.type "dict_keyiterator", data:=.fields #[.ref d,.int 0 0,.int kvs.length 0,.int ep 0]}).DictAt knd d kvs ep:=hm.at' fun o e=>Heap.get?_push_of_some _ e;have hT2:({s with heap:=s.heap.push {cls:=.type "dict_keyiterator", data:=.fields #[.ref d,.int 0 0,.int kvs.length 0,.int ep 0]}}:Shared).TypeIs (.ref d) "dict" := hm2.dictOf.typeIs;refine aF (wpAny_holding ?_);unfold Builtin.List.listLengthHint;refine aF (wpAny_specialOf hT2 PySem.F.slot_dict_len.lookup ?_)
 wp_delta
 refine aF (wpAny_isInstance (T := "dict") (b:=true) hT2 (by rw[isSubtype_type];kernel_rfl) ?_);show wpAny _ _ (typeOf (Value.ref d) >>= _) _ _ _;refine aF (wpAny_typeOf hT2 ?_);refine aP ?_
 show wpAny _ A.in1 (rule "list.extend.makes-room" >>= fun _=>Builtin.List.listTouch (.ref S) >>= fun _=>
  again (.builtin "list.extend.loop" ⟨[.ref S,.ref s.heap.objs.size,res],[]⟩)) _ _ _
 refine aF (wpAny_rule ?_);refine aF ?_;show wpAny _ A.in1 (updateSeq S (·.push .none) >>= fun _=>updateSeq S (·.pop)) _ _ _;have hS1:=Heap.get?_push_of_some {cls:=.type "dict_keyiterator", data:=.fields #[.ref d,.int 0 0,.int kvs.length 0,.int ep 0]} hS;refine aF (wpAny_updateSeq hS1 rfl ?_);have hS₂:=Heap.get?_update_self (Obj.mapSeq (·.push Value.none)) hS1 rfl;refine wpAny_updateSeq (hz:=by seq_fits) hS₂ rfl ?_;have hS₃:=Heap.get?_update_self (Obj.mapSeq (·.pop)) hS₂ rfl
 have oth:∀b o,b≠S→(s.heap.push {cls:=.type "dict_keyiterator", data:=.fields #[.ref d,.int 0 0,.int kvs.length 0,.int ep 0]}).get? b=some o→(((s.heap.push {cls:=.type "dict_keyiterator", data:=.fields #[.ref d,.int 0 0,.int kvs.length 0,.int ep 0]}).update S (Obj.mapSeq (·.push Value.none))).update S (Obj.mapSeq (·.pop))).get? b=some o:=
  fun b o hb e=>(Heap.get?_update_other _ _ (Ne.symm hb)).trans ((Heap.get?_update_other _ _ (Ne.symm hb)).trans e)
 have hdI:d≠s.heap.objs.size:=by
  refine iJ hm fun o es e _=>?_;clear hm;exact Nat.ne_of_lt (Heap.lt_size e)
 have hSf:S ∉ [s.heap.objs.size,d]:=fun hmem=>by
  rcases al_mc hmem with q|q
  ·exact hSI q
  ·exact hSd (cG q)
 have hK:(((s.heap.push {cls:=.type "dict_keyiterator", data:=.fields #[.ref d,.int 0 0,.int kvs.length 0,.int ep 0]}).update S (Obj.mapSeq (·.push Value.none))).update S (Obj.mapSeq (·.pop))).IsKeyIter s.heap.objs.size d 0 kvs.length ep:=
  ⟨_,oth _ _ (Ne.symm hSI) (Heap.get?_push_size _ rfl),rfl,rfl⟩
 have hM:=hm2.at' fun o e=>oth d o (Ne.symm hSd) e;refine aP ⟨plainId_quiet PySem.F.plain_extend_loop _,codeAny_extend_loopS (Walks.dictKeys (knd:=knd) (A:=A.in1) hh s.heap.objs.size d hdI kvs ep).toS hn _ hSf _ kvs.length 0 _ _ _ rfl (Nat.zero_le _) ⟨hK,hM⟩ hS₃ (ItemsOf.nil _) fun s' acc' c' hm' hS' hacc=>?_⟩;rw[Moved.eq_with hm'];refine hR s'.heap s'.toks acc' c' (fun b ob hb e=>hm'.heap b ob (fun hmem=>?_) (oth b ob hb (Heap.get?_push_of_some _ e))) hS' hacc
 rcases al_mc hmem with e'|hmem
 ·exact hb e'
 ·exact absurd (Heap.lt_size e) (by rw[cG hmem];exact Nat.lt_irrefl _)
theorem tN{R:Result→Shared→Prop}(hh:A.handled=none){d:Addr}{kvs:List (K×Value)}{ep:Nat}(hd:(d==sysModules)=false)(hm:s.heap.DictAt knd d kvs ep)(S:Addr)(hSd:S≠d)(hS:s.heap.get? S=some {cls:=.type "list", data:=.seq #[]})
  (hR:∀h' tk acc' c',(∀b o,b≠S→s.heap.get? b=some o→h'.get? b=some o)→h'.get? S=some {cls:=.type "list", dict:=none,data:=.seq acc' c',slots:=#[]}→
   ItemsOf (Tm knd kvs) acc' kvs.length→R (.ok (.ret .none)) {s with heap:=h',toks:=tk}) (hn:kvs.length≤sizeLine) :
  wpAny (model prog w) A.in1 (Builtin.«list.__init__» ⟨[.ref S,.ref d],[]⟩)
   (fun fin s'=>match fin with | .done f=>R (.ok f) s' | .again c'=>c'.quiet=true∧codeAny (model prog w) A c' R s') (fun e s'=>R (.error e) s') s:=by
 show wpAny _ _ (do let old ←Builtin.List.listItems (.ref S);Builtin.List.listUpdate (.ref S) (fun _=>#[]);letGo old.toList.reverse;Builtin.List.listExtendWith (.ref S) (.ref d) .none) _ _ s;refine aF ?_;unfold Builtin.List.listItems;refine aF (wpAny_seqItems hS rfl (aP ?_));show wpAny _ _ (updateSeq S (fun _=>#[]) >>= fun _=>letGo (#[]:Array Value).toList.reverse >>= fun _=>Builtin.List.listExtendWith (.ref S) (.ref d) .none) _ _ s;refine aF (wpAny_updateSeq hS rfl ?_);have hS₂:=Heap.get?_update_self (Obj.mapSeq (fun _=>(#[]:Array Value))) hS rfl
 have oth:∀b o,b≠S→s.heap.get? b=some o→(s.heap.update S (Obj.mapSeq (fun _=>(#[]:Array Value)))).get? b=some o:=
  fun b o hb e=>(Heap.get?_update_other _ _ (Ne.symm hb)).trans e
 refine aF (wpAny_letGo ?_);refine Bv (s:={s with heap:=s.heap.update S (Obj.mapSeq (fun _=>(#[]:Array Value)))}) (hn:=hn) hh hd (hm.at' fun o e=>oth d o (Ne.symm hSd) e) S hSd .none _ hS₂ fun h' tk acc' c' hk hS' hacc=>?_;exact hR h' tk acc' c' (fun b o hb e=>hk b o hb (oth b o hb e)) hS' hacc
theorem uI{Q:Value→Shared→Prop}(hh:A.handled=none){d:Addr}{kvs:List (K×Value)}{ep:Nat}(hd:(d==sysModules)=false)(hm:s.heap.DictAt knd d kvs ep)
  (hQ:∀h' tk acc' c',(∀b o,s.heap.get? b=some o→h'.get? b=some o)→
   h'.get? s.heap.objs.size=some {cls:=.type "list", dict:=none,data:=.seq acc' c',slots:=#[]}→ItemsOf (Tm knd kvs) acc' kvs.length→Q (.ref s.heap.objs.size) {s with heap:=h',toks:=tk}) (hn:kvs.length≤sizeLine) :
  wpAny (model prog w) A (call (.type "list") [.ref d]) Q E s:=by
 refine callType_codes (Q₁:=fun obj s₁=>obj = .ref s.heap.objs.size∧s₁={s with heap:=s.heap.push {cls:=.type "list", data:=.seq #[]}}) PySem.F.called_list (PySem.F.typeCall_list_1 _) PySem.F.entry_list_init
  (code_list_new _ ⟨rfl,rfl⟩) fun obj s₁ h₁=>?_
 refine aE h₁ fun e0 e1=>?_;clear h₁;subst e0 e1;have hS:(s.heap.push {cls:=.type "list", data:=.seq #[]}).get? s.heap.objs.size=some {cls:=.type "list", data:=.seq #[]}:=Heap.get?_push_size _ rfl
 have hdl:s.heap.objs.size≠d:=by
  refine iJ hm fun o es e _=>?_;clear hm;exact Nat.ne_of_gt (Heap.lt_size e)
 refine⟨⟨_,hS,rfl⟩,PySem.F.args_list_init_2 _ _,tN (A:=A.in1) (s:={s with heap:=s.heap.push {cls:=.type "list", data:=.seq #[]}}) (hn:=hn) hh hd (hm.at' fun o e=>Heap.get?_push_of_some _ e) _ hdl hS fun h' tk acc' c' hk hS' hacc=>?_⟩;exact⟨rfl,hQ h' tk acc' c' (fun b o e=>hk b o (Nat.ne_of_lt (Heap.lt_size e)) (Heap.get?_push_of_some _ e)) hS' hacc⟩
end
end
section
variable{Θ:Mn}
theorem VRs.of_at{F:Fz}{l:List V}:∀{vs:List Value},l.length=vs.length→(∀(i:Nat) v r,l[i]? = some v→vs[i]? = some r→VR F v r)→VRs F l vs:=by
 induction l with
 | nil=>intro vs h _;cases vs with
  | nil=>exact .nil
  | cons=>cases h
 | cons v l ih=>intro vs h k;cases vs with
  | nil=>cases h
  | cons r vs=>exact .cons (k 0 v r rfl rfl) (ih (Nat.succ.inj h) fun i a b e1 e2=>k (i+1) a b e1 e2)
section
variable{W:Wd}{n:Nat}{O:Orc}{E:Ev}{st:St}{A A':Around}{env:Env}{Φ:Fm}{F F1 F':Fz}{s:Shared}{X:Value→Shared→Prop}{k:V→St→Θ.T}{ke:V→St→Θ.T}{Q:Value→Shared→Prop}
theorem Im(T:cM W O)(C:Ctx n A env Φ)(h:Rel W Φ F st s){e:PySem.Expr}{gp p:Pos}{q:Str×Slot}{l:List (Int×V)}(hl:cL env.scope ("list" : Str)=true)(ho:bH O env.scope e st=some q)(hd:q.2 = .dct l)
  (hq:gY W Φ F st (Ym l) Q):wpAny W.M A (eval (.Call (.Name "list" gp) [e] [] p) env) Q X s:=by
 have se:dA e=false:=by
  clear gp;refine Lh (gQ ho) fun x _ _ e3 _=>?_;subst e3;rfl
 refine Call_Name rfl (eE T C h hl (by decide) (v:=.type "list") (by kernel_rfl) (Es se ?_));refine nD T C h ho hd fun a ks j hsys hDV hDA hlen hnd hcell=>?_;generalize hm1:s.toks+1=tk1;have h0:Rel W Φ F st {s with toks:=tk1}:=h.toks _
 refine uI (knd:=intKind W.prog W.w) (s:={s with toks:=tk1}) C.handled hsys hDA (fun h' tk acc' c' hk hS hacc=>?_) (by
  rw[hDV.length];exact aJ hlen (by rw[sizeLine_eq];decide))
 have fr:=h0.ph.new (aK _);have h2:=h0.add (t:=tk) (h':=h') (c:=.frz {cls:=.type "list", dict:=none,data:=.seq acc' c',slots:=#[]}) fr (fun b o _ e=>hk b o e) hS
 have hvs:VRs (F.set s.heap.objs.size (.frz {cls:=.type "list", dict:=none,data:=.seq acc' c',slots:=#[]})) (l.map fun p=>V.int p.1) acc'.toList:=VRs.of_at (by rw[List.length_map,←hDV.length,Array.length_toList];exact hacc.1.symm) fun i v r e1 e2=>by
  refine iJ (hacc.2 i r (by rw[Array.getElem?_toList] at e2;exact e2)) fun k x k1 k2=>?_;clear C T e2 gp h h0 hDA hS hacc hcell hd hk hl hnd ho hsys j p se;refine bG (Value.isInt_shape k2) fun tt e1=>?_;subst e1;rw[List.getElem?_map] at e1;clear k2;refine aB (aM e1) fun q q1 e2=>?_;subst e2
  have e6:(ks.map (·.1))[i]? = some k:=by rw[List.getElem?_map,k1];rfl
  rw[hDV.keys,List.getElem?_map,q1] at e6;clear e1 hDV k1 ks q1;obtain rfl:=so e6;exact .int _ _
 exact hq (.add fr) h2 (.lst (n:=c') (vs:=acc'.toList) (by rw[Array.toArray_toList];exact F.set_self _ _) hvs (by rw[List.length_map];exact hlen))
theorem Mu{v u c:V}{r t:Value}(C:Ctx n A env Φ)(h:Rel W Φ F st s)(e:GC v u=some c)(hv:VR F v r)(hu:VR F u t)(hq:gY W Φ F st c Q):wpAny W.M A (call (.builtin "max") [r,t]) Q X s:=by
 refine aB (aD e) fun a e1 e2=>?_;clear e;refine aB (aM e2) fun b e3 e2=>?_;subst e2;clear e2;obtain⟨rfl,t1,rfl⟩:=hv.asInt e1;clear e1 hv;obtain⟨rfl,t2,rfl⟩:=hu.asInt e3;refine max_two_ints C.handled fun h' tk hk=>?_;have h1:Rel W Φ F st {s with heap:=h',toks:=tk}:=h.keep hk
 by_cases q:a<b
 ·rw[if_pos (show b > a from q)]
  rw[if_pos q] at hq;exact hq.here h1 (.int _ _)
 ·rw[if_neg (show ¬b > a from q)]
  rw[if_neg q] at hq;exact hq.here h1 (.int _ _)
theorem Ip(T:cM W O)(IO:oY W (n+2) O)(HE:aR W (n+2) E.eval){e c:PySem.Expr}(hk:Θ.m (Yq O E env.scope e c st Θ.T k ke Θ.z))(C:Ctx (n+2) A env Φ)(h:Rel W Φ F st s)(P:bJ 2 VR W Φ F k ke Q X) :
  wpAny W.M A (eval e env) (fun v s₁=>wpAny W.M A (eval c env) (fun u s₂=>wpAny W.M A (call (.builtin "isinstance") [v,u]) Q X s₂) X s₁) X s:=by
 refine HE hk C h ⟨fun {v st1 r s1 F1} x1 h1 v1 k1=>?_,P.err⟩;refine aB (aC k1) fun y ey k2=>?_;clear HE h hk k1;refine bG (bM ey) fun yp e1=>?_;subst e1;refine aE (aS k2) fun hg k3=>?_
 by_cases cs:y=("str" : Str)
 ·clear ey k2
  subst cs;rw[if_pos rfl] at k3;refine aB (aC k3) fun b eb k4=>?_;refine aB (aM eb) fun l el e2=>?_;subst e2;obtain⟨rfl,_,t,rfl⟩:=v1.asStr el;refine eE T C h1 hg (by decide) (v:=.type "str") (by kernel_rfl) ?_;exact call_isinstance_yes (Tx := "str") rfl (by kernel_rfl) (by rw[isSubtype_type];kernel_rfl) (P.ok x1 h1 (.bool true) k4)
 ·rw[if_neg cs] at k3
  refine aB (aC k3) fun b eb k4=>?_;refine aB (aD eb) fun d ed eb=>?_;exact jB T.glob C h1 hg ed fun rd hrd=>Cw IO h1 eb v1 (hrd F1 h1.ph.base) ((P.ext x1).then k4)
theorem Ng(T:cM W O)(IO:oY W (n+2) O)(HE:aR W (n+2) E.eval){g:Str}{gp p:Pos}{args:List PySem.Expr}(ok:gB args [])(hg:cL env.scope g=true)(hk:Θ.m (DX O E env.scope g args st Θ.T k ke Θ.z))(C:Ctx (n+2) A env Φ)(h:Rel W Φ F st s)(P:bJ 2 VR W Φ F k ke Q X) :
  wpAny W.M A (eval (.Call (.Name g gp) args [] p) env) Q X s:=by
 unfold DX at hk
 by_cases g1:g=("len" : Str)
 ·subst g1
  rw[if_pos rfl] at hk;refine aB (aC hk) fun e e1 hk1=>?_;obtain rfl:=bZ e1;exact Call_Name rfl (eE T C h hg (by decide) (v:=.builtin "len") (by kernel_rfl) (qE (eA ok.star).1 (Mx T HE hk1 C h P)))
 rw[if_neg g1] at hk
 by_cases g2:g=("isinstance" : Str)
 ·clear g1
  subst g2;rw[if_pos rfl] at hk;refine aB (aC hk) fun q e1 hk1=>?_;obtain rfl:=wQ e1;have st1:=eA ok.star;exact Call_Name rfl (eE T C h hg (by decide) (v:=.builtin "isinstance") (by kernel_rfl) (Ep st1.1 (eA st1.2).1 (Ip T IO HE hk1 C h P)))
 rw[if_neg g2] at hk
 by_cases g3:g=("list" : Str)
 ·clear IO g1 g2
  subst g3;rw[if_pos rfl] at hk;refine aB (aC hk) fun l e1 hk1=>?_;refine aB (aD e1) fun e e2 e3=>?_;obtain rfl:=bZ e2;refine aB (wH e3) fun q e4 e5=>?_;exact Im T C h hg e4 e5 (P.then hk1)
 rw[if_neg g3] at hk
 by_cases g4:g=("max" : Str)
 ·clear IO g1 g2 g3
  subst g4;rw[if_pos rfl] at hk;refine aB (aC hk) fun q e1 hk1=>?_;obtain rfl:=wQ e1;have st1:=eA ok.star;refine Call_Name rfl (eE T C h hg (by decide) (v:=.builtin "max") (by kernel_rfl) (Ep st1.1 (eA st1.2).1 ?_));refine HE hk1 C h ⟨fun x1 h1 v1 k1=>HE k1 C h1 ⟨fun x2 h2 v2 k2=>?_,(P.ext x1).err⟩,P.err⟩;refine aB (aC k2) fun c e2 k3=>?_;exact Mu C h2 e2 (v1.mono x2.le) v2 ((P.ext (x1.trans x2)).then k3)
 rw[if_neg g4] at hk;exact (Θ.nz hk).elim
theorem wZ(T:cM W O)(IO:oY W (n+2) O)(NS:dU E)(HE:aR W (n+2) E.eval){g:Str}{gp p:Pos}{args:List PySem.Expr}{kws:List Keyword}(ok:gB args kws)(hg:cL env.scope g=true)(hk:Θ.m (tW O E env.scope g args kws st Θ.T k ke Θ.z))(C:Ctx (n+2) A env Φ)(h:Rel W Φ F st s)(P:bJ 2 VR W Φ F k ke Q X) :
  wpAny W.M A (eval (.Call (.Name g gp) args kws p) env) Q X s:=by
 unfold tW at hk
 cases e1:look g O.glob with
 | some v=>
  rw[e1] at hk;refine aB (aC (show Θ.m ((R.ofOpt (asCls v) st).bind _ Θ.T k ke Θ.z) from hk)) fun c e2 hk1=>?_;refine wpAny_Call_ofName (jB T.glob C h hg e1 fun r hr=>?_);obtain rfl:=(hr F h.ph.base).asCls e2;exact zX IO NS HE ok hk1 C h P
 | none=>
  rw[e1] at hk;clear e1
  cases e2:look g O.fns with
  | some sp=>
   rw[e2] at hk;exact Zy IO NS HE ok hg e2 hk C h P
  | none=>
   rw[e2] at hk;refine aE (aS (show Θ.m (ifB (bP kws) _ Θ.T k ke Θ.z) from hk)) fun e3 hk1=>?_;clear NS e2 hk;obtain rfl:=bL e3;exact Ng T IO HE ok hg hk1 C h P
end
end
section
variable{Θ:Mn}
section
variable{W:Wd}{n:Nat}{O:Orc}{E:Ev}{st:St}{A A':Around}{env:Env}{Φ:Fm}{F F1 F':Fz}{s:Shared}{X:Value→Shared→Prop}{k:V→St→Θ.T}{ke:V→St→Θ.T}{Q:Value→Shared→Prop}
theorem wW(T:cM W O)(IO:oY W (n+2) O)(NS:dU E)(HE:aR W (n+2) E.eval){g:Str}{gp p:Pos}{args:List PySem.Expr}{kws:List Keyword}(ok:gB args kws)(hk:Θ.m (tF O E env.scope g args kws st Θ.T k ke Θ.z))(C:Ctx (n+2) A env Φ)(h:Rel W Φ F st s)(P:bJ 2 VR W Φ F k ke Q X) :
  wpAny W.M A (eval (.Call (.Name g gp) args kws p) env) Q X s:=by
 unfold tF at hk
 cases hx:cB env.scope g with
 | false=>
  rw[hx] at hk;refine aE (aS (show Θ.m (ifB (cL env.scope g) _ Θ.T k ke Θ.z) from hk)) fun hg hk1=>?_;exact wZ T IO NS HE ok hg hk1 C h P
 | true=>
  rw[hx] at hk
  cases hl:look g st.loc with
  | none=>rw[hl] at hk;exact (Θ.nz hk).elim
  | some sl=>
   rw[hl] at hk
   cases sl with
   | val v=>
    refine aB (aC (show Θ.m ((R.ofOpt (asCls v) st).bind _ Θ.T k ke Θ.z) from hk)) fun c e2 hk1=>?_;refine wpAny_Call_ofName (hU C h hx hl fun r hr=>?_);clear T hl hx;obtain rfl:=hr.asCls e2;exact zX IO NS HE ok hk1 C h P
   | _=>exact (Θ.nz hk).elim
theorem wY(MO:oX W n O)(NS:dU E)(HE:aR W n E.eval){x m:Str}{xp ap p:Pos}{args:List PySem.Expr}{kws:List Keyword}(ok:gB args kws)(hl:iD ap p=true)(hk:Θ.m (tG O E env.scope x m args kws st Θ.T k ke Θ.z))(C:Ctx n A env Φ)(h:Rel W Φ F st s)(P:bJ 2 VR W Φ F k ke Q X) :
  wpAny W.M A (eval (.Call (.Attribute (.Name x xp) m ap) args kws p) env) Q X s:=by
 unfold tG at hk;refine aE (aS hk) fun hx hk1=>?_;clear hk
 cases hx0:look x st.loc with
 | none=>rw[hx0] at hk1;exact (Θ.nz hk1).elim
 | some sl=>
  rw[hx0] at hk1
  cases sl with
  | self=>
   cases hn:look m st.flds with
   | some a=>rw[hn] at hk1;exact (Θ.nz hk1).elim
   | none=>
    rw[hn] at hk1
    cases hsp:look m O.meth with
    | none=>rw[hsp] at hk1;exact (Θ.nz hk1).elim
    | some sp=>
     rw[hsp] at hk1;exact Mt NS HE MO ok hl hx hx0 hn hsp hk1 C h P
  | lst l=>
   refine aE (aS (show Θ.m (ifB (bP kws) _ Θ.T k ke Θ.z) from hk1)) fun e3 hk2=>?_;clear MO NS;obtain rfl:=bL e3;exact uU HE ok hl hx hx0 hk2 C h P
  | _=>exact (Θ.nz hk1).elim
theorem xE(T:cM W O)(MO:oX W n O)(NS:dU E)(HE:aR W n E.eval){o:PySem.Expr}{m:Str}{ap p:Pos}{args:List PySem.Expr}{kws:List Keyword}(ok:gB args kws)(hl:iD ap p=true)(hk:Θ.m (uJ O E env.scope o m args kws st Θ.T k ke Θ.z))(C:Ctx n A env Φ)(h:Rel W Φ F st s)(P:bJ 2 VR W Φ F k ke Q X) :
  wpAny W.M A (eval (.Call (.Attribute o m ap) args kws p) env) Q X s:=by
 unfold uJ at hk
 cases ho:bH O env.scope o st with
 | some q=>
  rw[ho] at hk;obtain⟨a,sl⟩:=q
  cases sl with
  | lst l=>
   refine aE (aS (show Θ.m (ifB (bP kws) _ Θ.T k ke Θ.z) from hk)) fun e3 hk1=>?_;obtain rfl:=bL e3;exact uT T NS HE ok hl ho rfl hk1 C h P
  | _=>exact (Θ.nz hk).elim
 | none=>
  rw[ho] at hk;clear ho
  cases o with
  | Name x xp=>exact wY MO NS HE ok hl hk C h P
  | Constant co i cp=>
   refine aE (aS (show Θ.m (ifB (bP kws) _ Θ.T k ke Θ.z) from hk)) fun e3 hk1=>?_;clear MO NS T;obtain rfl:=bL e3;exact My HE ok hl hk1 C h P
  | _=>exact (Θ.nz hk).elim
theorem vF(T:cM W O)(MO:oX W (n+2) O)(IO:oY W (n+2) O)(NS:dU E)(HE:aR W (n+2) E.eval){f:PySem.Expr}{p:Pos}{args:List PySem.Expr}{kws:List Keyword}(hk:Θ.m (Sk O E env.scope f args kws p st Θ.T k ke Θ.z))(C:Ctx (n+2) A env Φ)(h:Rel W Φ F st s)(P:bJ 2 VR W Φ F k ke Q X) :
  wpAny W.M A (eval (.Call f args kws p) env) Q X s:=by
 refine aE (aS hk) fun ok hk1=>?_;have ok:=mH ok;clear hk
 cases f with
 | Attribute o m ap=>
  refine aE (aS (show Θ.m (ifB (iD ap p) _ Θ.T k ke Θ.z) from hk1)) fun hl hk2=>?_;exact xE T MO NS HE ok hl hk2 C h P
 | Name g gp=>exact wW T IO NS HE ok hk1 C h P
 | _=>exact (Θ.nz hk1).elim
end
end
end
section
open PySem.Calls PyProof.Rows PySem.AutoSeq1 PySem.MeetsSeq PySem.SeqAt
section
variable{Θ:Mn}
structure jW(csc:Scope)(x:Str):Prop where
 free:∀y∈csc.names,y.2 ≠ .free
 cell:∀y∈csc.names,y.2 ≠ .cell
 names:∀y∈csc.names,y.2 = .local→csc.names.lookup y.1=some .local
 kind:csc.kind = .function
 x:csc.names.lookup x=some .local
 nodbg:csc.names.lookup ("__debug__" : Str)=none
theorem rM{p:Prop}[Decidable p](h:(!decide p)=true):¬p:=cK (by rw[Bool.not_eq_true'] at h;exact h)
theorem wK{csc:Scope}{x:Str}(h:Ry csc x=true):jW csc x:=by
 refine aE (aA h) fun h1 h=>?_;refine aE (aA h) fun h2 h=>?_;refine aE (aA h) fun h3 h4=>?_;have a:=fun y hy=>aA (List.all_eq_true.mp h1 y hy);refine⟨fun y hy=>rM (a y hy).1,fun y hy=>rM (aA (a y hy).2).1,fun y hy e=>?_,aI h2,cH h3,Option.isNone_iff_eq_none.mp h4⟩
 rcases (Bool.or_eq_true _ _).mp (aA (a y hy).2).2 with q|q
 ·exact absurd e (rM q)
 ·exact cH q
section
variable{W:Wd}{n:Nat}{O:Orc}{E:Ev}{csc:Scope}{st:St}{A A':Around}{env:Env}{Φ:Fm}{F F1 F':Fz}{s:Shared}{X:Value→Shared→Prop}{Q:Value→Shared→Prop}
theorem vT{v:V}{l:List V}{r:Value}(hh:A.handled=none)(h:Rel W Φ F st s)(e:eY v=some l)(hv:VR F v r)
  (hq:∀o0 fp P St',Walks W.prog W.w A s.heap.objs.size fp [s.heap.objs.size] l.length P St'→St' 0 (s.heap.push o0)→(∀b∈fp,b<(s.heap.push o0).objs.size)→
   (∀i r,P i r→∃u,l[i]? = some u∧VR F u r)→Q (.ref s.heap.objs.size) {s with heap:=s.heap.push o0}):wpAny W.M A (pyIter r) Q X s:=by
 have hv:=hv.view
 cases v with
 | str cs=>
  obtain rfl:=so e;obtain⟨hlen,tk,rfl⟩:=hv
  have hPa:∀i r,SignAt ⟨cs.toArray⟩ i r→∃u,(cs.map fun c=>V.str [c])[i]? = some u∧VR F u r:=fun i r hr=>by
   refine iJ hr fun c u h1 e3=>?_;clear hr;subst e3
   have h3:cs[i]? = some c:=by rw[←List.getElem?_toArray];exact h1
   exact⟨.str [c],by rw[List.getElem?_map,h3];rfl,.str _ u (by show 1≤100000;decide)⟩
  have hsz:(⟨cs.toArray⟩:Str).cps.size=(cs.map fun c=>V.str [c]).length:=by rw[List.length_map];exact List.size_toArray
  have hfp:∀o:Obj,∀b∈[s.heap.objs.size],b<(s.heap.push o).objs.size:=fun o b hb=>by rw[cG hb,Heap.size_push];exact Nat.lt_succ_self _
  cases ha:(⟨cs.toArray⟩:Str).cps.all (· < 128)
  ·have Wk:=Walks.strWide (prog:=W.prog) (w:=W.w) hh s.heap.objs.size ⟨cs.toArray⟩ tk
   rw[hsz] at Wk;exact wpAny_pyIter_wide ha (hq _ _ _ _ Wk ⟨_,Heap.get?_push_size _ rfl,rfl,rfl⟩ (hfp _) hPa)
  ·have Wk:=Walks.strAscii (prog:=W.prog) (w:=W.w) hh s.heap.objs.size ⟨cs.toArray⟩ tk
   rw[hsz] at Wk;exact wpAny_pyIter_ascii ha (hq _ _ _ _ Wk ⟨_,Heap.get?_push_size _ rfl,rfl,rfl⟩ (hfp _) hPa)
 | lst l=>
  obtain rfl:=so e;refine gL hv fun a vs nn e3 hz hvs hlen=>?_;clear hv;subst e3;have hg:=h.ph.frz hz;have lt:=Heap.lt_size hg;have Wk:=Walks.list (prog:=W.prog) (w:=W.w) hh s.heap.objs.size a (Nat.ne_of_lt lt) vs.toArray;rw[hvs.size] at Wk;refine wpAny_pyIter_list (bQ hg) (hq _ _ _ _ Wk ⟨⟨_,Heap.get?_push_size _ rfl,rfl,rfl⟩,bQ (Heap.get?_push_of_some _ hg)⟩ (fun b hb=>?_) fun i r hr=>?_)
  ·rw[Heap.size_push]
   rcases al_mc hb with q|q
   ·rw[q];exact Nat.lt_succ_self _
   ·rw[cG q];exact Nat.lt_succ_of_lt lt
  ·have h3:vs[i]? = some r:=by rw[←List.getElem?_toArray];exact hr
   have:=hvs.getElem? i;clear Wk h hg hh hlen hq hr hv hvs hz lt nn
   cases q:l[i]? with
   | none=>
    rw[q] at this;have this:vs[i]? = none:=this;rw[h3] at this;exact sx this
   | some u=>
    rw[q] at this;refine aB this fun r' h1 h2=>?_;clear this;rw[h3] at h1;obtain rfl:=so h1;exact⟨u,rfl,h2⟩
 | _=>exact ox e
theorem mR{x:Str}{p:Pos}{L:Addr}{m:Str→Option Value}{v:Value}(K:jW csc x)(hn:s.heap.Ns L m)(hm:m x=some v)(hq:Q v s):wpAny W.M A (eval (.Name x p) (compEnv csc L env)) Q X s:=
 wpAny_Name (wpAny_loadName_local (env:=compEnv csc L env) K.kind K.x hn hm hq) (uE (env:=compEnv csc L env) K.nodbg K.x)
theorem jQ{t:Nat}:Keeps s {s with toks:=t}:=⟨s.heap,t,rfl,fun _ _ e=>e⟩
noncomputable def FMod(m:Int)(r y:Value):Prop:=∃k t t',r = .int k t∧y = .int (k % m) t'
noncomputable def JE(H:Addr→bK)(r y:Value):Prop:=∃T vs n,r = .ref T∧H T = .frz (kN vs n)∧vs[0]? = some y
noncomputable def Zf(r y:Value):Prop:=y=r
noncomputable def AJ(O:Orc)(csc:Scope)(x:Str)(cs:List PySem.Expr)(r:Value):Bool:=match r with
 | .str y _=>(uL y.cps.toList).elim false fun c=>(jL O csc x c cs).getD false
 | _=>false
theorem Gd{f:V→Option V}{l:List V}:∀{ws:List V},kU f l=some ws→∀(i:Nat) u,l[i]? = some u→∃w,f u=some w:=by
 induction l with
 | nil=>intro ws e i u hu;exact ox hu
 | cons v r ih=>
  intro ws e i u hu;refine aB (aD e) fun w e1 e2=>?_;refine aB (aM e2) fun ws' e3 _=>?_;clear e e2
  cases i with
  | zero=>obtain rfl:=so hu;exact⟨w,e1⟩
  | succ i=>exact ih e3 i u hu
theorem vK{f:V→Option V}{R:Value→Value→Prop}(hf:∀u w r y,VR F u r→f u=some w→R r y→VR F w y){l:List V}:∀{ws:List V} {vs ys:List Value},VRs F l vs→kU f l=some ws→Paired R vs ys→VRs F ws ys:=by
 induction l with
 | nil=>
  intro ws vs ys hv e hp;obtain rfl:=hv.unnil;obtain rfl:=so e
  cases hp
  exact .nil
 | cons v r ih=>
  intro ws vs ys hv e hp;refine gX hv.uncons fun r0 rs e2 h1 h2=>?_;subst e2;refine aB (aD e) fun w e1 e2=>?_;clear e hv;refine aB (aM e2) fun ws' e3 e2=>?_;subst e2;clear e2
  cases hp with
  | cons a b=>exact .cons (hf _ _ _ _ h1 e1 a) (ih h2 e3 b)
theorem Uo{t:Nat→Option Bool}{l:List V}:∀{ws:List V},sO t l=some ws→∀(i:Nat) u,l[i]? = some u→∃c b,u = .str [c]∧t c=some b:=by
 induction l with
 | nil=>intro ws e i u hu;exact ox hu
 | cons v r ih=>
  intro ws e i u hu;refine aB (aD e) fun c e1 e2=>?_;refine aB (aD e1) fun y e3 e4=>?_;clear e e1;obtain rfl:=hY e4;refine aB (aD e2) fun b e5 e6=>?_;clear e2 e4
  cases i with
  | zero=>
   obtain rfl:=so hu;refine⟨c,b,?_,e5⟩;clear e5
   cases v<;>first|(cases e3;rfl)|exact ox e3
  | succ i=>
   clear e3 e5
   cases b with
   | true=>
    refine aB (aM (show (sO t r).map _=some ws from e6)) fun ws' e7 _=>?_;exact ih e7 i u hu
   | false=>exact ih e6 i u hu
theorem Fp{x:Str}{cs:List PySem.Expr}{c:Nat}{t:Tok}{b:Bool}(e:jL O csc x c cs=some b):AJ O csc x cs (.str ⟨[c].toArray⟩ t)=b:=by
 show (jL O csc x c cs).getD false=b;rw[e];rfl
theorem Jr{x:Str}{cs:List PySem.Expr}{l:List V}:∀{ws:List V} {vs ys:List Value},VRs F l vs→sO (fun c=>jL O csc x c cs) l=some ws→Paired Zf (vs.filter (AJ O csc x cs)) ys→VRs F ws ys:=by
 induction l with
 | nil=>
  intro ws vs ys hv e hp;obtain rfl:=hv.unnil;obtain rfl:=so e
  cases hp
  exact .nil
 | cons v r ih=>
  intro ws vs ys hv e hp;refine gX hv.uncons fun r0 rs e2 h1 h2=>?_;subst e2;refine aB (aD e) fun c e1 e2=>?_;refine aB (aD e1) fun y e3 e4=>?_;clear e e1 hv;obtain rfl:=hY e4;refine aB (aD e2) fun b e5 e6=>?_;clear e2 e4;obtain⟨rfl,hl,t,rfl⟩:=h1.asStr e3;have q:=Fp (t:=t) e5;rw[List.filter_cons] at hp;clear e3 e5 h1
  cases b with
  | true=>
   rw[if_pos q] at hp;refine aB (aM (show (sO _ r).map _=some ws from e6)) fun ws' e7 e2=>?_;subst e2
   cases hp with
   | cons a b=>
    obtain rfl:_=_:=a;exact .cons (.str _ t hl) (ih h2 e7 b)
  | false=>
   rw[if_neg (by rw[q];exact Bool.false_ne_true)] at hp;exact ih h2 e6 hp
end
end
section
variable{Θ:Mn}
section
variable{W:Wd}{n:Nat}{O:Orc}{E:Ev}{csc:Scope}{st:St}{A A':Around}{env:Env}{Φ:Fm}{F F1 F':Fz}{s:Shared}{X:Value→Shared→Prop}
theorem Jp{x:Str}{m:Int}{k:Nat}{p1 p2 p3:Pos}{wr:List Addr}{P:Nat→Value→Prop}(K:jW csc x)(hm:0<m)(hP:∀i r,P i r→∃k t,r = .int k t):QuietOn W.prog W.w A env csc x [] (.BinOp (.Name x p1) .Mod (.Constant (.int m) k p2) p3) wr P (fun _=>true) (FMod m) s where
 tests:=fun C i v s₃ m₃ E' hPv hn hmx _ _=>wpAny_tests_nil ⟨rfl,jQ⟩
 elt:=fun C i v s₃ m₃ E' hPv _ hn hmx _ _=>by
  refine yM (hP i v hPv) fun k0 t e2=>?_;subst e2;refine wpAny_BinOp (mR K hn hmx (wpAny_Constant_int (mod_int' (by lia) ?_)));rw[Int.fmod_eq_emod_of_nonneg _ (by lia)];exact⟨⟨k0,t,_,rfl,rfl⟩,_,_,rfl,fun _ _ e=>e⟩
theorem Dg{x:Str}{k:Nat}{p1 p2 p3:Pos}{wr:List Addr}{P:Nat→Value→Prop}{H:Addr→bK}(K:jW csc x)(hZ:∀T o,H T = .frz o→T ∉ wr∧s.heap.get? T=some o)
  (hP:∀i r,P i r→∃T us nn y,r = .ref T∧H T = .frz (kN us nn)∧us[0]? = some y∧us.size≤aO):QuietOn W.prog W.w A env csc x [] (.Subscript (.Name x p1) (.Constant (.int 0) k p2) p3) wr P (fun _=>true) (JE H) s where
 tests:=fun C i v s₃ m₃ E' hPv hn hmx _ _=>wpAny_tests_nil ⟨rfl,jQ⟩
 elt:=fun C i v s₃ m₃ E' hPv _ hn hmx hk _=>by
  refine DJ (hP i v hPv) fun T us nn y e4 hz h0 hl=>?_;subst e4;refine aE (hZ T _ hz) fun hw hg=>?_;have hT:IsTup s₃.heap T us:=⟨_,hk T _ hw hg,rfl,nn,rfl⟩;have lim:(aO:Nat)=10000:=rfl
  have h1:0<us.size:=by
   rcases Nat.eq_zero_or_pos us.size with q|q
   ·rw[Array.getElem?_eq_none (Nat.le_of_eq q)] at h0;exact ox h0
   ·exact q
  refine PyProof.Rows.Subscript_ (mR K hn hmx (wpAny_Constant_int ?_));exact tail_any (s:={s₃ with toks:=_}) hT.typeIs slot_tuple_getitem.lookup (getItem_tuple (s:={s₃ with toks:=_}) hT (by decide) (by decide) (gZ (i:=0) (by decide) h1) h0 ⟨⟨T,us,nn,rfl,hz,h0⟩,⟨_,_,rfl,fun _ _ e=>e⟩⟩) (dQ fun _ _ _ q=>(nomatch q))
theorem Nw{x:Str}{L:Addr}{r:PySem.Expr}{z:List Nat}{Z:Value→Shared→Prop}(hg:nR W O)(K:jW csc x)(hF:∀a o,W.base.get? a=some o→F.H a = .frz o)(hglob:env.globals=mainGlobals)(hb:∀a o,W.base.get? a=some o→s.heap.get? a=some o)
  (e:De O csc r=some z) (hq:∀u tk,Z (.str ⟨z.toArray⟩ u) {s with toks:=tk}):lE r=false∧wpAny W.M A (eval r (compEnv csc L env)) Z X s:=by
 cases r with
 | Constant c k p=>
  cases c with
  | str y=>obtain rfl:=so e;exact⟨rfl,wpAny_Constant_str (hq _ _)⟩
  | _=>exact ox e
 | Name g gp=>
  have e:(match cL csc g with|true=>(look g O.glob).bind asStr|false=>none)=some z:=e
  cases hl:cL csc g with
  | false=>rw[hl] at e;exact ox e
  | true=>
   rw[hl] at e;refine aB (aD (show (look g O.glob).bind asStr=some z from e)) fun u e1 e2=>?_;refine aB (hg g u e1) fun r h1 h2=>?_;clear e1 hg;obtain⟨_,_,tk,rfl⟩:=(h2 F hF).asStr e2;have e3:=cH hl
   exact⟨rfl,Calls.Name_function_global (env:=compEnv csc L env) K.kind e3 (Calls.loadGlobal_global (mg:=W.mg) (by show s.heap.Ns env.globals W.mg;rw[hglob];exact W.g.keeps hb) h1 (hq tk s.toks)) (by
    clear L e2 h1 h2 hF hb hglob hl hq tk
    cases q:g==("__debug__" : Str) with
    | false=>rfl
    | true=>rw[beq_iff_eq.mp q,K.nodbg] at e3;exact ox e3)⟩
 | _=>exact ox e
theorem zM{x:Str}{c:Nat}{t:Tok}{ce:PySem.Expr}{b:Bool}{L:Addr}{m:Str→Option Value}{Q:Bool→Shared→Prop}{w:Sem Value}(hg:nR W O)(K:jW csc x)(hF:∀a o,W.base.get? a=some o→F.H a = .frz o)(hglob:env.globals=mainGlobals)(hb:∀a o,W.base.get? a=some o→s.heap.get? a=some o)
  (hn:s.heap.Ns L m) (hm:m x=some (.str ⟨[c].toArray⟩ t)) (e:Me O csc x c ce=some b) (hq:∀k,Q b {s with toks:=k}):wpAny W.M A (isTrue ce (compEnv csc L env) w) Q X s:=by
 cases ce with
 | Compare l ops rs p0=>
  have e:(match decide (cR l=some x) with|true=>(one ops).bind fun op=>(one rs).bind fun r=>(De O csc r).bind fun s=>IJ op c s|false=>none)=some b:=e
  cases hd:decide (cR l=some x) with
  | false=>rw[hd] at e;exact ox e
  | true=>
   rw[hd] at e;refine aB (aD (show (one ops).bind _=some b from e)) fun op e1 e2=>?_;refine aB (aD e2) fun r e3 e4=>?_;refine aB (aD e4) fun z e5 e6=>?_;clear e2 e4;obtain rfl:=bZ e1;clear e1;obtain rfl:=bZ e3;clear e3;refine bG (bM (aI hd)) fun yp e1=>?_;subst e1;show wpAny W.M A (do testChain p0 (←eval (.Name x yp) (compEnv csc L env)) [op] (markedEach [op] [r] (evalEach [r] (compEnv csc L env)))) Q X s;have R:=fun (Z:Value→Shared→Prop) (hz:∀u tk,Z (.str ⟨z.toArray⟩ u) {s with toks:=tk})=>Nw (A:=A) (X:=X) (L:=L) hg K hF hglob hb e5 hz;rw[markedEach_of_false _ _ _ (hJ [op] [r] (by rw[List.any_cons,(R (fun _ _=>True) fun _ _=>trivial).1];rfl))];refine aF (mR K hn hm ?_)
   show wpAny W.M A (do
    let rv ←holding [(.str ⟨[c].toArray⟩ t:Value)] (eval r (compEnv csc L env))
    standAt p0
    let c' ←operate [(.str ⟨[c].toArray⟩ t:Value),rv] (compareOp op (.str ⟨[c].toArray⟩ t) rv)
    holding [c'] (truthy c')) Q X s
   refine aF (wpAny_holding (R _ fun u tk=>?_).2);refine aF (wpAny_standAt (aF (wpAny_operate' ?_)));clear K R e5 hF hb hd hg hglob hm hn
   cases op with
   | NotEq=>
    obtain rfl:=so e6;refine RcNeAt.str_str _ _ _ _ W.prog W.w X _ ?_;rw[lQ];exact wpAny_holding (wpAny_truthy_bool (hq tk))
   | NotIn=>
    clear w;obtain rfl:=so e6;refine P.notIn_str ?_;rw[nL];exact wpAny_holding (wpAny_truthy_bool (hq tk))
   | _=>exact ox e6
 | _=>exact ox e
set_option backward.match.sparseCases true in
theorem Hy{x:Str}{c:Nat}{t:Tok}{L:Addr}{m:Str→Option Value}{Q:Bool→Shared→Prop}(hg:nR W O)(K:jW csc x)(hF:∀a o,W.base.get? a=some o→F.H a = .frz o)(hglob:env.globals=mainGlobals)(hm:m x=some (.str ⟨[c].toArray⟩ t)){cs:List PySem.Expr}{b:Bool} :
  ∀{s:Shared},(∀a o,W.base.get? a=some o→s.heap.get? a=some o)→s.heap.Ns L m→jL O csc x c cs=some b→(∀k,Q b {s with toks:=k})→wpAny W.M A (allTrue .And cs (compEnv csc L env)) Q X s:=by
 induction cs with
 | nil=>
  intro s _ _ e hq;obtain rfl:=so e;exact aP (hq s.toks)
 | cons ce r ih=>
  intro s hb hn e hq;show wpAny W.M A (do match (BoolOp.And),←isTrue ce (compEnv csc L env) (eval ce (compEnv csc L env)) with | .And,false=>pure false | .Or,true=>pure true|_,_=>allTrue .And r (compEnv csc L env)) Q X s;refine aB (aD e) fun b1 e1 e2=>?_;clear e
  cases b1 with
  | true=>exact aF (zM hg K hF hglob hb hn hm e1 fun k=>ih (s:={s with toks:=k}) hb hn e2 hq)
  | false=>
   obtain rfl:=so e2;exact aF (zM hg K hF hglob hb hn hm e1 fun k=>aP (hq k))
theorem Jo{x:Str}{cs:List PySem.Expr}{p1 p2:Pos}{wr:List Addr}{P:Nat→Value→Prop}(hg:nR W O)(K:jW csc x)(hF:∀a o,W.base.get? a=some o→F.H a = .frz o)(hglob:env.globals=mainGlobals)(hb:∀a o,W.base.get? a=some o→a ∉ wr∧s.heap.get? a=some o)
  (hP:∀i r,P i r→∃c t b,r = .str ⟨[c].toArray⟩ t∧jL O csc x c cs=some b):QuietOn W.prog W.w A env csc x [.BoolOp .And cs p2] (.Name x p1) wr P (AJ O csc x cs) Zf s where
 tests:=fun C i v s₃ m₃ E' hPv hn hmx hk _=>by
  clear p1;refine Lh (hP i v hPv) fun c t b e3 hb'=>?_;subst e3;refine wpAny_tests_one ?_;show wpAny W.M A (allTrue .And cs (compEnv csc C env)) _ _ _;exact Hy hg K hF hglob hmx (fun a o e=>hk a o (hb a o e).1 (hb a o e).2) hn hb' fun k=>⟨(Fp hb').symm,jQ⟩
 elt:=fun C i v s₃ m₃ E' hPv _ hn hmx _ _=>mR K hn hmx ⟨rfl,jQ⟩
theorem qW{l:List Value}:l.filter (fun _=>true)=l:=by
 induction l with
 | nil=>rfl
 | cons a r ih=>rw[List.filter_cons,if_pos rfl,ih]
theorem Cj{a:Bool}{p q:Prop}[Decidable p][Decidable q](h:(a&&(decide p&&decide q))=true):a=true∧p∧q:=by
 refine aE (aA h) fun h1 h=>?_;refine aE (aA h) fun h2 h3=>?_;exact⟨h1,aI h2,aI h3⟩
theorem jD{α:Type}{b:Bool}{o:Option α}{a:α}(h:(match b with|true=>o|false=>none)=some a):b=true∧o=some a:=by
 cases b with
 | true=>exact⟨rfl,h⟩
 | false=>exact ox h
theorem yZ{ifs cs:List PySem.Expr}(h:uO ifs=some cs):∃p,ifs=[.BoolOp .And cs p]:=by
 refine aB (aD h) fun e e1 e2=>?_;clear h;obtain rfl:=bZ e1;clear e1
 cases e with
 | BoolOp op vs p=>
  cases op with
  | And=>obtain rfl:=so e2;exact⟨p,rfl⟩
  | Or=>exact ox e2
 | _=>exact ox e2
theorem wI(T:cM W O){x:Str}(K:jW csc x)(C:Ctx n A env Φ)(h:Rel W Φ F st s){o0:Obj}{P:Nat→Value→Prop}{elt:PySem.Expr}{ifs:List PySem.Expr}{l ws:List V}(hP:∀i r,P i r→∃u,l[i]? = some u∧VR F u r)(e:Yz O csc x elt ifs l=some ws) :
  ∃p R,QuietOn W.prog W.w A env csc x ifs elt [s.heap.objs.size] P p R {s with heap:=s.heap.push o0}∧∀vs ys,VRs F l vs→Paired R (vs.filter p) ys→VRs F ws ys:=by
 have lt:∀a o,s.heap.get? a=some o→a ∉ [s.heap.objs.size]∧(s.heap.push o0).get? a=some o:=fun a o e=>⟨fun q=>Nat.lt_irrefl _ ((cG q)▸Heap.lt_size e),Heap.get?_push_of_some _ e⟩
 cases elt with
 | BinOp y op m p3=>
  obtain⟨c,e1⟩:=jD (show (match bP ifs&&(decide (cR y=some x)&&decide (op = .Mod)) with
   | true=>(Bx m).bind fun m=>(cV (decide (0<m)) m).bind fun m=>kU (Jx m) l
   | false=>none)=some ws from e)
  refine kG (Cj c) fun c1 c2 e2=>?_;subst e2;obtain rfl:=bL c1;refine bG (bM c2) fun p1 e1=>?_;subst e1;refine aB (aD e1) fun m e2 e3=>?_;refine yM (oP e2) fun k p2 e2=>?_;subst e2;refine aB (aD e3) fun m e4 e5=>?_;refine aE (bX e4) fun hm e1=>?_;subst e1;refine⟨_,_,Jp K (aI hm) (fun i r hr=>?_),fun vs ys hv hp=>vK (fun u w r y hu hw hf=>?_) hv e5 (by rw[qW] at hp;exact hp)⟩
  ·refine aB (hP i r hr) fun u h1 h2=>?_
   refine bG (Gd e5 i u h1) fun w hw=>?_;refine aB (aM hw) fun k q1 _=>?_;clear e4 e5 hm;obtain⟨rfl,t,rfl⟩:=h2.asInt q1;exact⟨_,_,rfl⟩
  ·clear e4 e5 hm
   refine aB (aM hw) fun k q1 e2=>?_;subst e2;obtain⟨rfl,t,rfl⟩:=hu.asInt q1;refine Lh hf fun k' t' t'' q2 e4=>?_;clear hf;subst e4
   cases q2
   exact .int _ _
 | Subscript y i p3=>
  obtain⟨c,e1⟩:=jD (show (match bP ifs&&(decide (cR y=some x)&&decide (Bx i=some 0)) with
   | true=>kU qV l
   | false=>none)=some ws from e)
  refine kG (Cj c) fun c1 c2 c3=>?_;obtain rfl:=bL c1;clear c1;refine bG (bM c2) fun p1 e1=>?_;subst e1;clear c2;refine yM (oP c3) fun k p2 e2=>?_;subst e2;refine⟨_,_,Dg (H:=F.H) K (fun T o hz=>lt T o (h.ph.frz hz)) (fun i r hr=>?_),fun vs ys hv hp=>vK (fun u w r y hu hw hf=>?_) hv e1 (by rw[qW] at hp;exact hp)⟩
  ·refine aB (hP i r hr) fun u h1 h2=>?_
   refine bG (Gd e1 i u h1) fun w hw=>?_;refine aB (aD hw) fun l0 q1 q2=>?_;clear c3;refine gL (h2.asTup q1) fun a vs j e3 hz hvs hl=>?_;subst e3
   cases l0 with
   | nil=>exact ox q2
   | cons w0 l0=>
    refine iJ hvs.uncons fun r0 rs e2 _=>?_;subst e2;exact⟨a,_,j,r0,rfl,hz,rfl,by rw[hvs.size];exact hl⟩
  ·refine aB (aD hw) fun l0 q1 q2=>?_
   clear c3 hw;refine gL (hu.asTup q1) fun a vs j e3 hz hvs hl=>?_;subst e3;refine Lg hf fun T us nn q3 q4 q5=>?_;clear hf;clear hl hu q1
   cases q3
   rw[hz] at q4;obtain⟨us⟩:=us;obtain rfl:=xH q4;clear q4
   cases l0 with
   | nil=>exact ox q2
   | cons w0 l0=>
    refine gX hvs.uncons fun r0 rs e2 a1 _=>?_;subst e2;clear hvs;obtain rfl:=so q2;obtain rfl:=so q5;exact a1
 | Name y p1=>
  obtain⟨c,e1⟩:=jD (show (match decide (y=x) with
   | true=>(uO ifs).bind fun cs=>sO (fun n=>jL O csc x n cs) l
   | false=>none)=some ws from e)
  obtain rfl:=aI c;refine aB (aD e1) fun cs e2 e3=>?_;clear e1;refine bG (yZ e2) fun p2 e1=>?_;subst e1;refine⟨_,_,Jo (F:=F) T.glob K h.ph.base C.globals (fun a o hz=>lt a o (h.ph.old a o hz)) (fun i r hr=>?_),fun vs ys hv hp=>Jr hv e3 hp⟩;refine aB (hP i r hr) fun u h1 h2=>?_;clear C K T e2 h hP hr lt;refine iJ (Uo e3 i u h1) fun c b e2 hb=>?_;subst e2;clear e3 h1 i;obtain⟨_,t,rfl⟩:=h2.view;exact⟨c,t,b,rfl,hb⟩
 | _=>exact ox e
end
end
section
variable{Θ:Mn}
theorem vZ{gs:List Comprehension}{g:Str×PySem.Expr×List PySem.Expr}(h:Qn gs=some g):∃p,gs=[⟨.Name g.1 p,g.2.1,g.2.2,0⟩]:=by
 refine aB (aD h) fun c e1 e2=>?_;clear h;obtain rfl:=bZ e1;obtain⟨t,it,ifs,a⟩:=c;refine aE (jD (show (match decide (a=0) with|true=>(cR t).map fun x=>(x,it,ifs)|false=>none)=some g from e2)) fun ha e3=>?_;clear e1 e2;obtain rfl:=aI ha;clear ha;refine aB (aM e3) fun x e4 e2=>?_;subst e2;clear e3;refine bG (bM e4) fun p e1=>?_;subst e1;exact⟨p,rfl⟩
section
variable{W:Wd}{n:Nat}{O:Orc}{E:Ev}{csc:Scope}{st:St}{A A':Around}{env:Env}{Φ:Fm}{F F1 F':Fz}{s:Shared}{X:Value→Shared→Prop}
theorem qU{v:V}{l:List V}{r:Value}(e:eY v=some l)(hv:VR F v r):l.length≤sizeLine:=by
 have w:=hv.view;clear hv
 cases v with
 | str cs=>obtain rfl:=so e;rw[List.length_map];exact aJ w.1 (by rw[sizeLine_eq];decide)
 | lst l0=>
  obtain rfl:=so e;refine gL w fun _ _ _ _ _ _ hl=>?_;clear w;exact aJ hl (by rw[sizeLine_eq];decide)
 | _=>exact ox e
theorem wJ{l ws:List V}{P:Nat→Value→Prop}{p:Value→Bool}{R:Value→Value→Prop}{o0:Obj}{D:Addr}{h':Heap}{tk:Tok}{ys:Array Value}{vs:List Value}(h:Rel W Φ F st s)(hP:∀i r,P i r→∃u,l[i]? = some u∧VR F u r)
  (Pr:∀vs ys,VRs F l vs→Paired R (vs.filter p) ys→VRs F ws ys) (hws:ws.length≤aO)
  (hD:(s.heap.push o0).get? D=none) (hpl:h'.PlainList D ys) (hlen:vs.length=l.length) (hPv:∀j v,vs[j]? = some v→P j v) (hF:Paired R (vs.filter p) ys.toList) (hk:∀b o,s.heap.get? b=some o→h'.get? b=some o) :
  ∃o,F.H D = .free∧Rel W Φ (F.set D (.frz o)) st {s with heap:=h',toks:=tk}∧VR (F.set D (.frz o)) (.lst ws) (.ref D):=by
 have hD0:s.heap.get? D=none:=by
  cases q:s.heap.get? D with
  | none=>rfl
  | some o=>rw[Heap.get?_push_of_some _ q] at hD;exact sx hD
 have fr:=h.ph.fresh hD0;refine bG hpl fun nn hg=>?_;clear hpl;have h2:=h.add (t:=tk) (h':=h') (c:=.frz {cls:=.type "list", dict:=none,data:=.seq ys nn,slots:=#[]}) fr (fun b o _=>hk b o) hg
 have hvs:VRs F l vs:=VRs.of_at hlen.symm fun i u r e1 e2=>by
  refine aB (hP i r (hPv i r e2)) fun u' q1 q2=>?_;rw[e1] at q1;obtain rfl:=so q1;exact q2
 have hw:=Pr vs ys.toList hvs hF;exact⟨_,fr,h2,.lst (vs:=ys.toList) (n:=nn) (by rw[Array.toArray_toList];exact F.set_self _ _) (hw.mono (Fz.le_add fr)) hws⟩
theorem Nf(T:cM W O)(HE:aR W n E.eval){x:Str}{xp cp:Pos}{elt it:PySem.Expr}{ifs:List PySem.Expr}{k:V→St→Θ.T}{ke:V→St→Θ.T}{Q:Value→Shared→Prop}(hk:Θ.m (He O E env.scope elt x it ifs csc st Θ.T (fun ws st=>k (.lst ws) st) ke Θ.z))(C:Ctx n A env Φ)(h:Rel W Φ F st s)
  (P:bJ 2 VR W Φ F k ke Q X):wpAny W.M A (eval (.ListComp elt [⟨.Name x xp,it,ifs,0⟩] csc cp) env) Q X s:=by
 refine bc fun hG=>?_;refine aE (aS hk) fun c hk1=>?_;refine aE (aA c) fun c1 c2=>?_;refine hG ?_;clear hG;rw[Bool.not_eq_true'] at c2;have K:=wK c1;refine wpAny_ListComp K.free K.kind K.names (HE hk1 C h ⟨fun {v st1 r s1 F1} x1 h1 v1 k1=>?_,P.err⟩) (fE c2);refine bc fun hG=>?_;refine aB (aC k1) fun ws e k2=>?_;refine aB (aD e) fun l hi hc=>?_;refine aE (aS k2) fun hl k3=>?_;refine hG ?_;clear hG;refine vT C.handled h1 hi v1 fun o0 fp P0 St' Wk hs0 hfp hP=>?_;refine iJ (wI (o0:=o0) T K C h1 hP hc) fun p R Qt Pr=>?_
 refine comp_block_walk (RR:=fun acc cenv r s'=>∃m,s'.heap.Ns cenv.locals m∧∀h',Heap.SameBut cenv.locals s'.heap h'→
  match r with | .ok _=>Q acc {s' with heap:=h'} | .error x=>wpAny W.M A (passOn "comprehension.variables-let-go" x cenv) Q X {s' with heap:=h'}) Wk (qU hi v1) p R K.cell K.kind K.x hs0 hfp Qt ?_
 intro D L' h' tk m' ys vs hD hC hDC hn _ hpl hlen hPv hF hk';refine⟨m',hn,fun h'' hs''=>?_⟩
 have kp:∀b o,s1.heap.get? b=some o→h''.get? b=some o:=fun b o e=>by
  have e2:=Heap.get?_push_of_some o0 e;refine hs''.extBut b o (fun q=>?_) (hk' b o (fun q=>Nat.lt_irrefl _ ((cG q)▸Heap.lt_size e)) e2);rw[q] at e2;have hC':(s1.heap.push o0).get? L'=none:=hC;rw[show (compEnv csc L' env).locals=L' from rfl,hC'] at e2;clear C HE K Qt T Wk c c1 c2 cp e h hC hC' hc hfp hi hk hk' hk1 hn hs0 it k1 k2 m' q v1 xp;exact ox e2
 refine fA (wJ (tk:=tk) h1 hP Pr (eQ hl) hD (hpl.extBut hs''.extBut hDC) hlen hPv hF kp) fun o fr h2 v2=>?_;exact P.ok (x1.trans (.add fr)) h2 v2 k3
theorem Cs{elt it:PySem.Expr}{ifs:List PySem.Expr}{x y:Str}{xp yp cp:Pos}{p:Pos}(hk:env.blockKind = .function)(hy:env.kindOf y=some .local)(hl:yp.line=cp.line)(hn:csc.names.all (fun p=>!decide (p.1=y))=true) :
  swapsWith (.ListComp elt [⟨.Name x xp,it,ifs,0⟩] csc cp) (some (.Name y yp)) p.line env=pure true:=by
 have e1:(csc.names.any fun q=>q.1==y&&(q.2 == .local||q.2 == .cell))=false:=by
  rw[Bool.eq_false_iff];intro q;refine aB (List.any_eq_true.mp q) fun z hz hz2=>?_;exact rM (List.all_eq_true.mp hn z hz) (eq_of_beq (aA hz2).1)
 show (pure (env.blockKind == .function&&env.kindOf y==some .local&&yp.line==cp.line && !(csc.names.any fun q=>q.1==y&&(q.2 == .local||q.2 == .cell))):Sem Bool)=pure true;rw[hk,hy,hl,e1];simp
theorem Ac{b:Nat}(hb:b<2)(T:cM W O)(HE:aR W n E.eval){x y:Str}{xp yp cp p:Pos}{elt it:PySem.Expr}{ifs:List PySem.Expr}{k:Fl→St→Θ.T}{ke:V→St→Θ.T}{Q:Flow→Shared→Prop}(hy:cB env.scope y=true)
  (hl:yp.line=cp.line) (hn:csc.names.all (fun p=>!decide (p.1=y))=true)
  (hk:Θ.m (He O E env.scope elt x it ifs csc st Θ.T (fun ws st=>k .next (st.setL y (.val (.lst ws)))) ke Θ.z)) (C:Ctx n A env Φ) (h:Rel W Φ F st s) (P:bJ b dR W Φ F k ke Q X):wpAny W.M A (exec (.Assign [.Name y yp] (.ListComp elt [⟨.Name x xp,it,ifs,0⟩] csc cp) p) env) Q X s:=by
 refine bc fun hG=>?_;refine aE (aS hk) fun c hk1=>?_;refine aE (aA c) fun c1 c2=>?_;refine hG ?_;clear hG;rw[Bool.not_eq_true'] at c2;have K:=wK c1;have hy':env.kindOf y=some .local:=cH hy;have hsw:=Cs (elt:=elt) (it:=it) (ifs:=ifs) (x:=x) (xp:=xp) (p:=p) (env:=env) (by unfold Env.blockKind;rw[C.kind];rfl) hy' hl hn;rw[exec_Assign_Name_used _ _ _ _ hsw];refine aF (wpAny_standAt (aF ?_));show wpAny W.M A (do let _ ←comprehension (.ListComp elt [⟨.Name x xp,it,ifs,0⟩] csc cp) csc env _ (newList []) false (eval it env) (some (assign (.Name y yp) env))) _ _ s;refine aF (wpAny_mono (wpAny_comprehension_use (Q:=fun _ s'=>Q .next s') rfl (fE c2) K.free K.kind K.names (HE hk1 C h ⟨fun {v st1 r s1 F1} x1 h1 v1 k1=>?_,P.err⟩)) (fun _ s' hq=>aP (aP hq)) fun _ _ e=>e);refine bc fun hG=>?_;refine aB (aC k1) fun ws e k2=>?_;refine aB (aD e) fun l hi hc=>?_;refine aE (aS k2) fun hl k3=>?_;refine hG ?_;clear hG;refine vT C.handled h1 hi v1 fun o0 fp P0 St' Wk hs0 hfp hP=>?_;refine iJ (wI (o0:=o0) T K C h1 hP hc) fun p R Qt Pr=>?_
 refine comp_block_walk (RR:=fun acc cenv r s'=>match r with
  | .ok _=>wpAny W.M A (assign (.Name y yp) env acc) (fun _ s''=>∃m,s''.heap.Ns cenv.locals m∧∀h',Heap.SameBut cenv.locals s''.heap h'→Q .next {s'' with heap:=h'}) X s'
  | .error x=>∃m,s'.heap.Ns cenv.locals m∧∀h',Heap.SameBut cenv.locals s'.heap h'→wpAny W.M A (passOn "comprehension.variables-let-go" x cenv) (fun _ s'=>Q .next s') X {s' with heap:=h'}) Wk (qU hi v1) p R K.cell K.kind K.x hs0 hfp Qt ?_
 intro D L' h' tk m' ys vs hD hC hDC hnC _ hpl hlen hPv hF hk';have kp:∀b o,s1.heap.get? b=some o→h'.get? b=some o:=fun b o e=>hk' b o (fun q=>Nat.lt_irrefl _ ((cG q)▸Heap.lt_size e)) (Heap.get?_push_of_some o0 e);refine fA (wJ (tk:=tk) h1 hP Pr (eQ hl) hD hpl hlen hPv hF kp) fun o fr h2 v2=>?_
 have frL:F1.H L' = .free:=h1.ph.fresh (by
  cases q:s1.heap.get? L' with
  | none=>rfl
  | some o=>rw[Heap.get?_push_of_some o0 q] at hC;exact sx hC)
 refine aB h2.loc fun m e0 lr=>?_
 have hLL:Φ.L≠L':=fun q=>by
  refine aB h1.loc fun m1 e1 _=>?_;rw[q,frL] at e1;cases e1
 refine wpAny_assign_Name (wpAny_storeName_local hy' (by rw[C.locals];exact (h2.ph.frame e0).1) (fun h₂ hn₂ hs₂=>?_) (by rw[C.kind];rfl));rw[C.locals] at hn₂ hs₂;have h3:=h2.storeVal (t:=tk+1) e0 lr v2 hn₂ hs₂;refine⟨m',hnC.sameBut hs₂ (Ne.symm hLL),fun h₃ hs₃=>?_⟩;have x2:Ext b Φ.d (F1.set D (.frz o)) _:=Rel.bind_ext (c:=.frame Φ.d fun z=>if z=y then some (.ref D) else m z) hb e0
 have h4:=h3.grow (h3.ph.keep (h':=h₃) (t:=tk+1) fun b ob hf e=>hs₃.extBut b ob (fun q=>hf (by
  have q:b=L':=q;rw[q]
  exact (Fz.set_ne _ _ (Ne.symm hLL)).trans ((Fz.set_ne _ _ (Ne.symm hDC)).trans frL))) e) (fun _ _ _=>rfl) rfl rfl
 exact P.ok ((x1.of_true.trans (.add fr)).trans x2) h4 .next k3
end
end
end
section
open PySem.Calls PyProof.Rows PySem.AutoSeq1 PySem.MeetsSeq
section
variable{Θ:Mn}
structure nQ(W:Wd)(n:Nat)(b:Nat)(O:Orc):Prop where
 hb:b<2
 T:cM W O
 P:Ls W
 MO:oX W (n+2) O
 IO:oY W (n+2) O
 XO:Ez W O
 top:O.top=true→b=0∧∀sp,look ("__init__" : Str) O.meth=some sp→∃fI,jJ W (n+1) sp fI
structure Tp(W:Wd)(n:Nat)(b:Nat)(E:Ev):Prop where
 NS:dU E
 HE:aR W (n+2) E.eval
 HT:jU W (n+2) E.test
 HX:zC W (n+2) b E.exec
 HXs:cZ W (n+2) b E.execs
theorem Lq{v:V}{c:Nat}(h:asCls v=some c):v = .cls c:=by
 cases v<;>first|(cases h;rfl)|exact ox h
theorem Lf{e:PySem.Expr}{q:PySem.Expr×List PySem.Expr×List Keyword}(h:Gy e=some q):∃p,e = .Call q.1 q.2.1 q.2.2 p:=by
 cases e<;>first|(cases h;exact⟨_,rfl⟩)|exact ox h
theorem Ao{O:Orc}{sc:Scope}{v:PySem.Expr}{args:List PySem.Expr}(h:rN O sc v=some args):O.top=true∧∃g gp cp,v = .Call (.Name g gp) args [] cp∧cL sc g=true∧look g O.glob=some (.cls O.scan):=by
 refine bc fun hG=>?_;refine aB (aD h) fun q e1 e2=>?_;refine aB (aD e2) fun g e3 e4=>?_;refine hG ?_;clear hG
 obtain⟨c,e5⟩:=jD (show (match O.top&&(cL sc g&&bP q.2.2) with
   | true=>(look g O.glob).bind fun v=>(asCls v).bind fun c=>cV (Nat.beq c O.scan) q.2.1
   | false=>none)=some args from e4)
 refine bc fun hG=>?_;refine aE (aA c) fun c1 c2=>?_;refine aE (aA c2) fun c2 c3=>?_;refine aB (aD e5) fun u e6 e7=>?_;refine aB (aD e7) fun a e8 e9=>?_;clear c e2 e4 e5 e7 h;refine aE (bX e9) fun c4 e1=>?_;subst e1;clear e9;obtain rfl:=Nat.eq_of_beq_eq_true c4;clear c4;obtain rfl:=Lq e8;clear e8;refine bG (Lf e1) fun p e1=>?_;subst e1;refine bG (bM e3) fun gp eg=>?_;refine hG ?_;clear hG;refine⟨c1,g,gp,p,?_,c2,e6⟩;rw[eg,bL c3]
theorem rB{v:PySem.Expr}(h:lG v=true):∃p,v = .List [] p:=by
 cases v<;>first|(obtain rfl:=bL h;exact⟨_,rfl⟩)|exact bx h
theorem rC{v:PySem.Expr}(h:iO v=true):∃p,v = .Dict [] [] p:=by
 cases v<;>first|(obtain⟨h1,h2⟩:=aA h;obtain rfl:=bL h1;obtain rfl:=bL h2;exact⟨_,rfl⟩)|exact bx h
section
variable{W:Wd}{n:Nat}{b:Nat}{O:Orc}{E:Ev}
theorem Iu(Y:nQ W n b O)(I:Tp W n b E):aR W (n+2) (wE O E):=by
 intro Θ e st k ke A env Φ F s Q X hk C h P
 cases e with
 | Constant c i p=>exact Iv hk h P
 | Name x p=>exact Mr Y.T.glob hk C h P
 | Attribute b a p=>exact Nh Y.T I.HE hk C h P
 | BinOp l op r p=>exact Iz Y.P I.HE hk C h P
 | UnaryOp op x p=>
  cases op with
  | Not=>exact Uf Y.T I.HE hk C h P
  | USub=>exact Mm I.HE hk C h P
  | _=>exact (Θ.nz hk).elim
 | BoolOp op vs p=>exact Ix I.HE C hk h P
 | Compare l ops rs p=>exact zZ Y.T I.HE hk C h P
 | IfExp t a b p=>exact Iq I.HT I.HE hk C h P
 | Call f args kws p=>exact vF Y.T Y.MO Y.IO I.NS I.HE hk C h P
 | Subscript b i p=>exact Ue Y.T I.HE hk C h P
 | Tuple es i p=>exact Ie I.NS I.HE hk C h P
 | List es p=>exact Mw I.NS I.HE hk C h P
 | ListComp elt gs csc cp=>
  refine aB (aC hk) fun g e1 k1=>?_;refine bG (vZ e1) fun p e1=>?_;subst e1;exact Nf Y.T I.HE k1 C h P
 | _=>exact (Θ.nz hk).elim
variable{st:St}{A:Around}{env:Env}{Φ:Fm}{F:Fz}{s:Shared}{X:Value→Shared→Prop}{k:Fl→St→Θ.T}{ke:V→St→Θ.T}{Q:Flow→Shared→Prop}
noncomputable def Ap(O:Orc)(E:Ev)(sc:Scope)(x:Str)(v:PySem.Expr)(st:St):R Fl:=match rN O sc v with
  | some args=>Fn O E sc x args st
  | none=>ifB (fQ v) ((E.eval sc v st).bind fun v st=>setLoc sc x (.val v) st)
theorem wX(Y:nQ W n b O)(I:Tp W n b E){x:Str}{xp p:Pos}{v:PySem.Expr}(hk:Θ.m (Ap O E env.scope x v st Θ.T k ke Θ.z))(C:Ctx (n+2) A env Φ)(h:Rel W Φ F st s)(P:bJ b dR W Φ F k ke Q X):wpAny W.M A (exec (.Assign [.Name x xp] v p) env) Q X s:=by
 unfold Ap at hk
 cases hn:rN O env.scope v with
 | none=>
  rw[hn] at hk;refine aE (aS (show Θ.m (ifB (fQ v) _ Θ.T k ke Θ.z) from hk)) fun c hk1=>?_;exact qN Y.hb I.HE hk1 C h P c
 | some args=>
  rw[hn] at hk;refine bc fun hG=>?_;obtain⟨ht,g,gp,cp,rfl,hg,hl⟩:=Ao hn;refine aE (Y.top ht) fun hb SF=>?_;refine hG ?_;clear hG;rw[Y.T.scan] at hl;exact Ii (n:=n+1) hb Y.T I.NS I.HE SF hg hl hk C h P
theorem Ab(Y:nQ W n b O)(I:Tp W n b E){t v:PySem.Expr}{p:Pos}(hk:Θ.m (Hk O E env.scope t v p st Θ.T k ke Θ.z))(C:Ctx (n+2) A env Φ)(h:Rel W Φ F st s)(P:bJ b dR W Φ F k ke Q X):wpAny W.M A (exec (.Assign [t] v p) env) Q X s:=by
 cases t with
 | Name x xp=>
  cases v with
  | List es lp=>
   have hk:Θ.m ((match bP es with
    | true=>setLoc env.scope x (mO O p) st
    | false=>(E.eval env.scope (.List es lp) st).bind fun v st=>setLoc env.scope x (.val v) st) Θ.T k ke Θ.z):=hk
   cases hn:bP es with
   | true=>
    rw[hn] at hk;obtain rfl:=bL hn;exact uV Y.hb hk C h P
   | false=>
    rw[hn] at hk;exact qN Y.hb I.HE hk C h P rfl
  | ListComp elt gs csc cp=>
   refine aE (aS (show Θ.m (ifB (cB env.scope x&&(decide (xp.line=cp.line)&&csc.names.all (fun p=>!decide (p.1=x)))) _ Θ.T k ke Θ.z) from hk)) fun c hk1=>?_;refine aE (aA c) fun c1 c2=>?_;refine aE (aA c2) fun c2 c3=>?_;refine aB (aC hk1) fun g e1 k1=>?_;refine bG (vZ e1) fun q e1=>?_;subst e1;exact Ac Y.hb Y.T I.HE c1 (aI c2) c3 k1 C h P
  | _=>exact wX Y I hk C h P
 | Tuple xs i tp=>exact xF Y.hb I.HE hk C h P
 | Attribute o a ap=>
  refine aB (aC hk) fun x e1 hk1=>?_;refine bG (bM e1) fun xp e1=>?_;subst e1;have hk1:Θ.m (uA O E env.scope x a v st Θ.T k ke Θ.z):=hk1;unfold uA at hk1;clear e1
  cases c1:lG v with
  | true=>
   rw[c1] at hk1;refine bG (rB c1) fun lp e1=>?_;subst e1;exact zT Y.T hk1 C h P
  | false=>
   rw[c1] at hk1
   have hk1:Θ.m ((match iO v with
    | true=>gU O env.scope x a Di (.dct []) st
    | false=>ifB (fQ v) ((E.eval env.scope v st).bind fun v st=>gU O env.scope x a Am (.val v) st)) Θ.T k ke Θ.z):=hk1
   clear c1
   cases c2:iO v with
   | true=>
    rw[c2] at hk1;refine bG (rC c2) fun lp e1=>?_;subst e1;exact zU Y.T hk1 C h P
   | false=>
    rw[c2] at hk1;refine aE (aS (show Θ.m (ifB (fQ v) _ Θ.T k ke Θ.z) from hk1)) fun c hk2=>?_;exact xG Y.T I.HE hk2 C h P c
 | Subscript o i tp=>exact Da Y.T I.HE hk C h P
 | _=>exact (Θ.nz hk).elim
theorem It(Y:nQ W n b O)(I:Tp W n b E):zC W (n+2) b (Gw O E):=by
 intro Θ e st k ke A env Φ F s Q X hk C h P
 cases e with
 | Expr v p=>
  cases v with
  | Call f args kws cp=>exact wpAny_Expr_any (vF Y.T Y.MO Y.IO I.NS I.HE hk C h ⟨fun x1 h1 v1 k1=>P.ok x1.of_true h1 .next k1,P.err⟩) (by unfold interactive;rw[C.kind];rfl) rfl
  | _=>exact (Θ.nz hk).elim
 | Pass p=>exact wpAny_Pass (P.here h .next hk)
 | Break p=>exact wpAny_Break (P.here h .brk hk)
 | Continue p=>exact wpAny_Continue (P.here h .cont hk)
 | Return v p=>exact Cv I.HE hk C h P
 | Assign ts v p=>
  refine aB (aC hk) fun t e1 hk1=>?_;obtain rfl:=bZ e1;exact Ab Y I hk1 C h P
 | AugAssign t op v p=>exact Uk Y.hb Y.T I.HE hk C h P
 | If t a b p=>exact Zx I.HT I.HXs hk C h P
 | While t b o p=>
  refine aE (aS hk) fun c hk1=>?_;obtain rfl:=bL c;exact Ic I.HT I.HXs hk1 C h P
 | For t it b o p=>
  refine aE (aS hk) fun c hk1=>?_;obtain rfl:=bL c;exact Uh Y.T Y.hb I.HE I.HXs hk1 C h P
 | Delete ts p=>
  refine aB (aC hk) fun t e1 hk1=>?_;obtain rfl:=bZ e1;exact Ui Y.T hk1 C h P
 | Raise e c p=>
  refine aB (aC hk) fun e e1 hk1=>?_
  cases e1
  refine aE (aS hk1) fun c1 hk2=>?_
  cases c with
  | none=>exact Ij Y.T Y.XO I.NS I.HE hk2 C h P
  | some c=>exact bx c1
 | Try bd hs o f p=>
  refine aE (aS hk) fun c hk1=>?_;refine aE (aA c) fun c1 c2=>?_;refine aE (aA c2) fun c2 c3=>?_;clear c c3 hk1;obtain rfl:=bL c1;clear c1;obtain rfl:=bL c2;exact Ud Y.hb (fun t=>(Y.top t).1) Y.T Y.XO I.HXs hk C h P
 | _=>exact (Θ.nz hk).elim
theorem nM(Y:nQ W n b O)(k:Nat):Tp W n b (evN O k):=by
 induction k with
 | zero=>exact⟨fun _ _ _ _=>rfl,fun {Θ _ _ _ _ _ _ _ _ _ _ _} hk=>(Θ.nz hk).elim,fun {Θ _ _ _ _ _ _ _ _ _ _ _} hk=>(Θ.nz hk).elim,fun {Θ _ _ _ _ _ _ _ _ _ _ _} hk=>(Θ.nz hk).elim,fun {Θ _ _ _ _ _ _ _ _ _ _ _} hk=>(Θ.nz hk).elim⟩
 | succ k ih=>exact⟨fun _ _ _ _=>rfl,Iu Y ih,Ig Y.T ih.HE ih.HT,It Y ih,Ir (E:=⟨(evN O k).eval,(evN O k).test,(evN O k).exec,(evN O k).execs⟩) ih.HX⟩
end
end
end
section
open PySem.Calls PyProof.Rows
structure Ti(fd:FuncData)(names:List Str):Prop where
 pos:fd.params.posonlyargs=[]
 args:fd.params.args.map (·.arg)=names
 kwo:fd.params.kwonlyargs=[]
 va:fd.params.vararg=none
 kwa:fd.params.kwarg=none
noncomputable def lN(slots:List (Str×Value)):List (Str×Value)→List (Str×Value)
 | []=>slots
 | (x,d)::r=>match (slots.lookup x).isNone with
  | true=>lN (slots++[(x,d)]) r
  | false=>lN slots r
section
variable{M:Model}{A:Around}{s:Shared}{X:Value→Shared→Prop}
theorem Ed{l:List (Str×Value)}:∀{slots:List (Str×Value)},(forIn l slots fun (x:Str×Value) (r:List (Str×Value))=>(if (r.lookup x.1).isNone=true then pure (ForInStep.yield (r++[(x.1,x.2)])) else pure (ForInStep.yield r):Sem (ForInStep (List (Str×Value)))))=pure (lN slots l):=by
 induction l with
 | nil=>intro slots;rfl
 | cons p l ih=>
  intro slots;obtain⟨x,d⟩:=p;rw[List.forIn_cons];unfold lN
  cases q:(slots.lookup x).isNone with
  | true=>simp only[q,if_true,pure_bind];exact ih
  | false=>simp only[q,Bool.false_eq_true,if_false,pure_bind];exact ih
theorem wif{α:Type}{Q:α→Shared→Prop}{c:Prop}[d:Decidable c]{t e:Sem α}(h:¬c)(x:wpAny M A e Q X s):wpAny M A (ite c t e) Q X s:=by
 cases d with
 | isTrue p=>exact (h p).elim
 | isFalse p=>exact x
theorem Wg{Q:List (Str×Value)→Shared→Prop}{l slots:List (Str×Value)}(hq:Q (lN slots l) s):wpAny M A (forIn l slots fun (x:Str×Value) (r:List (Str×Value))=>(if (r.lookup x.1).isNone=true then pure (ForInStep.yield (r++[(x.1,x.2)])) else pure (ForInStep.yield r):Sem (ForInStep (List (Str×Value))))) Q X s:=by
 rw[Ed];exact aP hq
theorem Qv{kw sl:List (Str×Value)}{Z:List (Str×Value)×List (Str×Value)→Shared→Prop}{body:Str×Value→List (Str×Value)×List (Str×Value)→Sem (ForInStep (List (Str×Value)×List (Str×Value)))}(h:kw=[]∨∃k v,kw=[(k,v)]∧body (k,v) (sl,[])=pure (ForInStep.yield (sl++[(k,v)],[])))(hz:Z (sl++kw,[]) s):wpAny M A (forIn kw (sl,[]) body) Z X s:=by
 rcases h with rfl|⟨k,v,rfl,e⟩
 ·rw[cA] at hz
  exact aP hz
 ·rw[List.forIn_cons,e]
  exact aP hz
theorem Su{ar:List Arg}{nm qn po va ko kwa kd dd bd sc gl cl df kwd dc pm an co ct bi}{names:List Str}(h1:po=[])(hn:ar.map (·.arg)=names)(h2:ko=[])(h3:va=none)(h4:kwa=none){pos:List Value}{kw:List (Str×Value)}{oD:Option (Array Value)}{Q:List (Str×Value)→Shared→Prop}(hd:∀{Q':Option (Array Value)→Shared→Prop},Q' oD s→wpAny M A (seqItems? df) Q' X s)
  (hlen:pos.length≤names.length) (hkw:kw=[]∨∃k v,kw=[(k,v)]∧names.contains k=true∧(names.zip pos).lookup k=none)
  (hm:(names.take (names.length-((oD.getD #[]).toList.drop ((oD.getD #[]).toList.length-names.length)).length)).filter (fun n=>((names.zip pos++kw).lookup n).isNone)=[])
  (hq:Q ((names++[]).filterMap fun n=>((lN (names.zip pos++kw) ((names.drop (names.length-((oD.getD #[]).toList.drop ((oD.getD #[]).toList.length-names.length)).length)).zip ((oD.getD #[]).toList.drop ((oD.getD #[]).toList.length-names.length)))).lookup n).map (n,·)) s) :
  wpAny M A (bindArgs ⟨nm,qn,⟨po,ar,va,ko,kd,kwa,dd⟩,bd,sc,gl,cl,df,kwd,dc,pm,an,co,ct,bi⟩ ⟨pos,kw⟩) Q X s:=by
 subst hn h1 h2 h3 h4;show wpAny M A (bind _ _) Q X s
 refine aF (Qv (sl:=(ar.map (·.arg)).zip pos) (hkw.imp id fun h=>by
  refine gX h fun k v e h1 h2=>?_;clear h
  exact⟨k,v,e,(if_pos (by rw[h1];rfl)).trans (if_neg (fun q=>by rw[show List.lookup _ _=none from h2] at q;cases q))⟩) ?_)
 clear hkw;revert hm hq;generalize (ar.map (·.arg)).zip pos++kw=slots;intro hm hq;exact aF (hd (wif (fun q=>Nat.not_le_of_lt (aI ((Bool.and_eq_true _ _).mp q).1) hlen) (wif (fun q=>Bool.false_ne_true ((congrArg (fun l=>!List.isEmpty l) hm).symm.trans q)) (aF (Wg (aF (aP (wif Bool.false_ne_true (aP hq)))))))))
theorem Xl{fd:FuncData}{names:List Str}{pos:List Value}{kw:List (Str×Value)}{oD:Option (Array Value)}{Q:List (Str×Value)→Shared→Prop}(P:Ti fd names)(hd:∀{Q':Option (Array Value)→Shared→Prop},Q' oD s→wpAny M A (seqItems? fd.defaults) Q' X s)
  (hlen:pos.length≤names.length) (hD:((oD.getD #[]).toList).length≤names.length) (hkw:kw=[]∨∃k v,kw=[(k,v)]∧names.contains k=true∧(names.zip pos).lookup k=none)
  (hm:(names.take (names.length-(oD.getD #[]).toList.length)).filter (fun n=>((names.zip pos++kw).lookup n).isNone)=[])
  (hq:Q (names.filterMap fun n=>((lN (names.zip pos++kw) ((names.drop (names.length-(oD.getD #[]).toList.length)).zip (oD.getD #[]).toList)).lookup n).map (n,·)) s) :
  wpAny M A (bindArgs fd ⟨pos,kw⟩) Q X s:=by
 have hz:(oD.getD #[]).toList.drop ((oD.getD #[]).toList.length-names.length)=(oD.getD #[]).toList:=by rw[Nat.sub_eq_zero_of_le hD];rfl
 exact Su (nm:=fd.name) (kd:=fd.params.kw_defaults) (dd:=fd.params.defaults) (bd:=fd.body) (sc:=fd.scope) (gl:=fd.globals) (cl:=fd.closure) (kwd:=fd.kwdefaults) (dc:=fd.doc) (pm:=fd.pyModule) (an:=fd.annotations) (co:=fd.code) (ct:=fd.closureTuple) (bi:=fd.builtins) P.pos P.args P.kwo P.va P.kwa hd hlen hkw (by rw[hz];exact hm) (by rw[hz,cA];exact hq)
end
theorem qS{l:List (Str×Value)}{x:Str}:∀{slots:List (Str×Value)},(lN slots l).lookup x=(slots.lookup x).or (l.lookup x):=by
 induction l with
 | nil=>intro slots;exact (Option.or_none).symm
 | cons p l ih=>
  intro slots;obtain⟨y,d⟩:=p;unfold lN
  cases q:(slots.lookup y).isNone with
  | true=>
   refine ih.trans ?_;rw[List.lookup_append,Option.or_assoc,List.lookup_cons,List.lookup_cons]
   cases x==y<;>rfl
  | false=>
   refine ih.trans ?_;rw[List.lookup_cons]
   cases e:x==y with
   | false=>rfl
   | true=>
    rw[beq_iff_eq.mp e]
    cases z:slots.lookup y with
    | none=>rw[z] at q;exact tz q
    | some r=>rfl
theorem Ds{b:List (Str×Value)}{x:Str}{r:Value}(h:(x,r)∈b):∃r',b.lookup x=some r'∧(x,r')∈b:=by
 induction b with
 | nil=>cases h
 | cons p b ih=>
  obtain⟨y,d⟩:=p;rw[List.lookup_cons]
  cases e:x==y with
  | true=>exact⟨d,rfl,by rw[beq_iff_eq.mp e];exact .head _⟩
  | false=>
   rcases al_mc h with q|q
   ·cases q;rw[beq_self_eq_true] at e;exact tz e
   ·refine aB (ih q) fun r' e1 e2=>?_
    exact⟨r',e1,.tail _ e2⟩
theorem iE{b:List (Str×Value)}{x:Str}{r:Value}(h:b.lookup x=some r):(x,r)∈b:=by
 induction b with
 | nil=>exact ox h
 | cons p b ih=>
  obtain⟨y,d⟩:=p;rw[List.lookup_cons] at h
  cases e:x==y with
  | true=>rw[e] at h;obtain rfl:=so h;rw[beq_iff_eq.mp e];exact .head _
  | false=>rw[e] at h;exact .tail _ (ih h)
section
variable{F:Fz}
theorem KRs.look{kw:List (Str×V)}{rks:List (Str×Value)}(h:KRs F kw rks){x:Str}:(look x kw).elim (rks.lookup x=none) fun v=>∃r,rks.lookup x=some r∧VR F v r:=by
 induction h with
 | nil=>rfl
 | @cons y v r l vs hv _ ih=>
  show (if y=x then some v else Mine.Internal.look x l).elim _ _;rw[List.lookup_cons]
  by_cases q:y=x
  ·rw[if_pos q,q,beq_self_eq_true];exact⟨r,rfl,hv⟩
  ·rw[if_neg q,beq_eq_false_iff_ne.mpr (Ne.symm q)];exact ih
theorem KRs.zip{df:List (Str×V)}:∀{D:List Value},VRs F (df.map (·.2)) D→KRs F df ((df.map (·.1)).zip D):=by
 induction df with
 | nil=>intro D h;exact .nil
 | cons p df ih=>
  intro D h;refine gX h.uncons fun r rs e2 h1 h2=>?_;subst e2;exact .cons h1 (ih h2)
theorem Sv{rks dz:List (Str×Value)}{kw df:List (Str×V)}(hk:KRs F kw rks)(hd:KRs F df dz){ps:List Str}:∀{args:List V} {rs:List Value} {l:List (Str×V)},VRs F args rs→lT ps args kw df=some l→
  ∀x v,look x l=some v→∃r,((ps.zip rs++rks).lookup x).or (dz.lookup x)=some r∧VR F v r:=by
 induction ps with
 | nil=>
  intro args rs l h e x v hx
  cases args with
  | nil=>obtain rfl:=so e;exact ox hx
  | cons=>exact ox e
 | cons p ps ih=>
  intro args rs l h e x v hx
  cases args with
  | cons w args=>
   refine gX h.uncons fun r rs e2 h1 h2=>?_;subst e2;refine aB (aM e) fun l' e' e2=>?_;subst e2;have hx:(if p=x then some w else look x l')=some v:=hx;rw[List.zip_cons_cons,List.cons_append,List.lookup_cons]
   by_cases q:p=x
   ·rw[if_pos q] at hx
    obtain rfl:=so hx;rw[q,beq_self_eq_true];exact⟨r,rfl,h1⟩
   ·rw[if_neg q] at hx
    rw[beq_eq_false_iff_ne.mpr (Ne.symm q)];exact ih h2 e' x v hx
  | nil=>
   obtain rfl:=h.unnil;rw[List.zip_nil_right,List.nil_append];have I:=fun l' (e':lT ps [] kw df=some l') (hx:look x l'=some v)=>ih (rs:=[]) h e' x v hx;simp only[List.zip_nil_right,List.nil_append] at I;unfold lT at e;have K:=hk.look (x:=p)
   cases q:look p kw with
   | some w=>
    rw[q] at e K;refine aB (aM e) fun l' e' e2=>?_;subst e2;have hx:(if p=x then some w else look x l')=some v:=hx
    by_cases z:p=x
    ·rw[if_pos z] at hx
     obtain rfl:=so hx;refine aB K fun r k1 k2=>?_;clear K;rw[←z,k1];exact⟨r,rfl,k2⟩
    ·rw[if_neg z] at hx
     exact I l' e' hx
   | none=>
    rw[q] at e K;refine aB (aD e) fun w ew e=>?_;refine aB (aM e) fun l' e' e2=>?_;subst e2;have hx:(if p=x then some w else look x l')=some v:=hx
    by_cases z:p=x
    ·rw[if_pos z] at hx
     obtain rfl:=so hx;have D:=hd.look (x:=p);rw[ew] at D;refine aB D fun r k1 k2=>?_;clear D;have K:rks.lookup p=none:=K;rw[←z,K,k1];exact⟨r,rfl,k2⟩
    ·rw[if_neg z] at hx
     exact I l' e' hx
end
noncomputable def fK(slf:Bool)(l:List Str):List Str:=match slf with
 | true=>("self" : Str)::l
 | false=>l
structure Ze(W:Wd)(fd:FuncData)(slf:Bool)(ps:fM)(D:List Value):Prop where
 names:Ti fd (fK slf ps.1)
 nd:(fK slf ps.1).Nodup
 locs:∀x∈fK slf ps.1,fd.scope.names.lookup x=some .local
 dn:ps.2.map (·.1)=(fK slf ps.1).drop ((fK slf ps.1).length-D.length)
 dl:D.length≤(fK slf ps.1).length
 dv:∀F:Fz,(∀a o,W.base.get? a=some o→F.H a = .frz o)→VRs F (ps.2.map (·.2)) D
 dd:∃oD:Option (Array Value),(oD.getD #[]).toList=D∧∀{M:Model} {A:Around} {X:Value→Shared→Prop} {s:Shared} {Q:Option (Array Value)→Shared→Prop},W.K.In s.heap→Q oD s→wpAny M A (seqItems? fd.defaults) Q X s
theorem Kf{l:List (Str×V)}{x:Str}(h:x∈l.map (·.1)):∃v,look x l=some v:=by
 induction l with
 | nil=>cases h
 | cons p l ih=>
  show ∃v,(if p.1=x then some p.2 else look x l)=some v
  by_cases q:p.1=x
  ·rw[if_pos q];exact⟨_,rfl⟩
  ·rw[if_neg q]
   rcases al_mc h with z|z
   ·exact absurd z.symm q
   ·exact ih z
theorem Ox{l:List (Str×V)}{x:Str}{v:V}(h:look x l=some v):x∈l.map (·.1):=by
 induction l with
 | nil=>exact ox h
 | cons p l ih=>
  have h:(if p.1=x then some p.2 else look x l)=some v:=h
  by_cases q:p.1=x
  ·rw[←q];exact .head _
  ·rw[if_neg q] at h;exact .tail _ (ih h)
theorem rE{l:List Str}:∀{D:List Value} {x:Str} {r:Value},(x,r)∈l.zip D→x∈l:=by
 intro D x r h;exact (List.of_mem_zip h).1
theorem Lv{l:List Str}:∀{D:List Value} {x:Str} {r:Value},(x,r)∈l.zip D→x∈l.take D.length:=by
 induction l with
 | nil=>intro D x r h;cases h
 | cons y l ih=>
  intro D x r h
  cases D with
  | nil=>cases h
  | cons d D=>
   rcases al_mc h with q|q
   ·clear h
    cases q;exact .head _
   ·exact .tail _ (ih q)
theorem apart{l:List Str}{n:Nat}{x:Str}(nd:l.Nodup)(h1:x∈l.take n)(h2:x∈l.drop n):False:=by
 rw[←List.take_append_drop n l,List.nodup_append] at nd;exact nd.2.2 x h1 x h2 rfl
theorem Cb{l:List Str}{n:Nat}{x:Str}(h:x∈l.drop n):x∈l:=List.mem_of_mem_drop h
theorem Ss{W:Wd}{fd:FuncData}{slf:Bool}{ps:fM}{D:List Value}(P:Ze W fd slf ps D):pA W fd slf ps:=by
 intro F s args kw l first rs rks e XK hB h0 hvs hks
 refine aE (wL e) fun ek eq=>?_;have en:=lU e;refine aB P.dd fun oD eD hdd=>?_
 have hdz:KRs F ps.2 (((fK slf ps.1).drop ((fK slf ps.1).length-D.length)).zip D):=by
  rw[←P.dn];exact KRs.zip (P.dv F hB)
 have Q:=Sv hks hdz hvs eq
 have len:rs.length≤ps.1.length:=by
  have:∀{ps:List Str} {args:List V} {l:List (Str×V)} {df:List (Str×V)},lT ps args kw df=some l→args.length≤ps.length:=by
   intro ps;clear hB
   induction ps with
   | nil=>intro args l df e;cases args with
    | nil=>exact aK _
    | cons=>exact ox e
   | cons p ps ih=>intro args l df e;cases args with
    | nil=>exact Nat.zero_le _
    | cons v vs=>obtain⟨l',e',_⟩:=aM e;exact Nat.succ_le_succ (ih e')
  rw[hvs.length];exact this eq
 have S:((first++rs).length≤(fK slf ps.1).length)∧(∀x v,look x l=some v→∃r,(((fK slf ps.1).zip (first++rs)++rks).lookup x).or ((((fK slf ps.1).drop ((fK slf ps.1).length-D.length)).zip D).lookup x)=some r∧VR F v r)∧
   (slf=true→∃a,((fK slf ps.1).zip (first++rs)++rks).lookup ("self" : Str)=some (.ref a)∧F.me=some a)∧(∀x,x∈ps.1.drop args.length→x∈(fK slf ps.1).drop (first++rs).length):=by
  have nd:=P.nd;clear hB
  cases slf with
  | false=>
   obtain rfl:first=[]:=h0
   exact⟨len,Q,fun q=>Bool.noConfusion q,fun x hx=>by rw[List.nil_append,hvs.length];exact hx⟩
  | true=>
   refine aB h0 fun a e1 hm=>?_;clear h0;subst e1;refine⟨Nat.succ_le_succ len,fun x v hx=>?_,fun _=>⟨a,rfl,hm⟩,fun x hx=>?_⟩
   ·refine aB (Q x v hx) fun r q1 q2=>?_
    refine⟨r,?_,q2⟩
    have nx:x≠("self" : Str):=fun q=>by
     rw[←en] at nd;exact (List.nodup_cons.mp nd).1 (q▸Ox hx)
    show ((List.lookup x ((("self" : Str),Value.ref a)::(ps.1.zip rs++rks))).or _)=some r;rw[List.lookup_cons,beq_eq_false_iff_ne.mpr nx];exact q1
   ·show x∈ps.1.drop rs.length
    rw[hvs.length];exact hx
 refine oQ S fun s1 s2 s3 s4=>?_;clear S;revert s1 s2 s3 s4
 generalize first++rs=pos
 intro s1 s2 s3 s4;have P1:=P.names;have nd:=P.nd;have locs:=P.locs;have dl:=P.dl
 have all:∀x∈fK slf ps.1,∃r,(((fK slf ps.1).zip pos++rks).lookup x).or ((((fK slf ps.1).drop ((fK slf ps.1).length-D.length)).zip D).lookup x)=some r:=fun x hx=>by
  have:(slf=true∧x=("self" : Str))∨x∈ps.1:=by
   clear P h0 hB hvs len
   cases slf with
   | true=>exact (al_mc hx).imp (fun q=>⟨rfl,q⟩) id
   | false=>exact .inr hx
  clear P h0 hB hvs len
  rcases this with ⟨q,rfl⟩|q
  ·refine aB (s3 q) fun a q1 _=>?_
   exact⟨_,by rw[q1];rfl⟩
  ·refine bG (Kf (l:=l) (by rw[en];exact q)) fun v hv=>?_
   refine aB (s2 x v hv) fun r q1 _=>?_;exact⟨r,q1⟩
 have key:∀x,x∈(fK slf ps.1).drop pos.length→((fK slf ps.1).zip pos).lookup x=none:=fun x hx=>by
  clear P h0 hB hvs len
  cases q:((fK slf ps.1).zip pos).lookup x with
  | none=>rfl
  | some r=>exact (apart nd (Lv (iE q)) hx).elim
 have hkw:rks=[]∨∃k v,rks=[(k,v)]∧(fK slf ps.1).contains k=true∧((fK slf ps.1).zip pos).lookup k=none:=by
  clear P h0 hB hvs len
  cases hks with
  | nil=>exact .inl rfl
  | @cons x v r kw' rks' hv hr=>
   refine aE (aA (show (bU kw'&&(ps.1.drop args.length).contains x)=true from ek)) fun k1 k2=>?_;clear hv
   cases hr with
   | cons=>exact bx k1
   | nil=>
    have:=s4 x (List.contains_iff_mem.mp k2);exact .inr ⟨x,r,rfl,List.contains_iff_mem.mpr (Cb this),key x this⟩
 clear hdz Q en ek eq e;revert s2 s3 s4 key hkw P1 nd locs dl all s1;generalize fK slf ps.1=names;intro s1 s2 s3 _ P1 nd locs dl all _ hkw
 have find:∀x r,x∈names→((names.zip pos++rks).lookup x).or (((names.drop (names.length-D.length)).zip D).lookup x)=some r→(names.filterMap fun n=>((lN (names.zip pos++rks) ((names.drop (names.length-D.length)).zip D)).lookup n).map (n,·)).reverse.lookup x=some r:=fun x r hx hr=>by
  clear P h0 hB hks hvs kw len rs;refine aB (Ds (b:=(names.filterMap fun n=>((lN (names.zip pos++rks) ((names.drop (names.length-D.length)).zip D)).lookup n).map (n,·)).reverse) (x:=x) (r:=r) (List.mem_reverse.mpr (List.mem_filterMap.mpr ⟨x,hx,by rw[qS,hr];rfl⟩))) fun r' e1 e2=>?_;refine aB (List.mem_filterMap.mp (List.mem_reverse.mp e2)) fun n _ e3=>?_;refine aB (aM e3) fun r2 e4 e5=>?_;clear e2 e3
  cases e5
  rw[qS,hr] at e4;clear hr;obtain rfl:=so e4;exact e1
 refine⟨_,fun M A X Q hq=>Xl P1 (oD:=oD) (hdd XK) s1 (by rw[eD];exact dl) hkw ?_ hq,fun x hx=>?_,fun x v hx=>?_,fun q=>?_⟩
 ·rw[eD]
  refine List.filter_eq_nil_iff.mpr fun x hx hn=>?_;refine bG (all x (List.mem_of_mem_take hx)) fun r q=>?_;rw[Option.isNone_iff_eq_none.mp hn] at q;exact apart nd hx (rE (iE q))
 ·refine aB (List.mem_filterMap.mp hx) fun n hn hm=>?_
  clear P P1 XK all dl h0 hB hdd hks hvs kw len nd rs s s1;refine aB (aM hm) fun r _ e2=>?_;subst e2;exact locs _ hn
 ·rw[eD]
  refine aB (s2 x v hx) fun r q1 q2=>?_;refine⟨r,find x r ?_ q1,q2⟩;clear P P1 XK all dl h0 hB hdd hks hvs hx kw len locs nd rs s s1 s2
  cases z:(names.zip pos++rks).lookup x with
  | some r'=>
   rcases List.mem_append.mp (iE z) with q|q
   ·exact rE q
   ·rcases hkw with rfl|⟨k,v',rfl,k1,_⟩
    ·cases q
    ·cases cG q;exact List.contains_iff_mem.mp k1
  | none=>
   rw[z] at q1;exact Cb (rE (iE q1))
 ·rw[eD]
  refine aB (s3 q) fun a q1 q2=>?_;refine⟨a,find _ _ ?_ (by rw[q1];rfl),q2⟩
  rcases List.mem_append.mp (iE q1) with q|q
  ·exact rE q
  ·clear P P1 XK all dl eD find h0 hB hdd hks hvs kw len locs nd oD q1 q2 rs s s1 s2 s3
   rcases hkw with rfl|⟨k,v',rfl,k1,_⟩
   ·cases q
   ·cases cG q;exact List.contains_iff_mem.mp k1
structure Sc where
 text:List Nat
 ptr:Int
 idx:Int
 line:Int
 col:Int
 done:Bool
 flow:Int
 toks:List V
 taken:Int
 indent:Int
 inds:List V
 allow:Bool
 keys:List (Int×V)
noncomputable def lW:List Nat:=[60,117,110,105,99,111,100,101,32,115,116,114,105,110,103,62]
noncomputable abbrev nm(l:List Nat):Str:=⟨⟨l⟩⟩
noncomputable abbrev fN0:=nm [110,97,109,101]
noncomputable abbrev fN1:=nm [115,116,114,101,97,109]
noncomputable abbrev fN2:=nm [115,116,114,101,97,109,95,112,111,105,110,116,101,114]
noncomputable abbrev fN3:=nm [101,111,102]
noncomputable abbrev fN4:=nm [98,117,102,102,101,114]
noncomputable abbrev fN5:=nm [112,111,105,110,116,101,114]
noncomputable abbrev fN6:=nm [114,97,119,95,98,117,102,102,101,114]
noncomputable abbrev fN7:=nm [114,97,119,95,100,101,99,111,100,101]
noncomputable abbrev fN8:=nm [101,110,99,111,100,105,110,103]
noncomputable abbrev fN9:=nm [105,110,100,101,120]
noncomputable abbrev CK:=nm [108,105,110,101]
noncomputable abbrev CJ:=nm [99,111,108,117,109,110]
noncomputable abbrev CI:=nm [100,111,110,101]
noncomputable abbrev CH:=nm [102,108,111,119,95,108,101,118,101,108]
noncomputable abbrev CG:=nm [116,111,107,101,110,115]
noncomputable abbrev CF:=nm [116,111,107,101,110,115,95,116,97,107,101,110]
noncomputable abbrev CE:=nm [105,110,100,101,110,116]
noncomputable abbrev CD:=nm [105,110,100,101,110,116,115]
noncomputable abbrev CC:=nm [97,108,108,111,119,95,115,105,109,112,108,101,95,107,101,121]
noncomputable abbrev CB:=nm [112,111,115,115,105,98,108,101,95,115,105,109,112,108,101,95,107,101,121,115]
noncomputable def mkF(S:Sc):aL:=[(fN0,.val (.str lW)),(fN1,.val .none),(fN2,.val (.int 0)),(fN3,.val (.bool true)),(fN4,.val (.str S.text)),(fN5,.val (.int S.ptr)),(fN6,.val .none),(fN7,.val .none),(fN8,.val .none),
 (fN9,.val (.int S.idx)),(CK,.val (.int S.line)),(CJ,.val (.int S.col)),(CI,.val (.bool S.done)),(CH,.val (.int S.flow)),(CG,.lst S.toks),(CF,.val (.int S.taken)),(CE,.val (.int S.indent)),(CD,.lst S.inds),
 (CC,.val (.bool S.allow)),(CB,.dct S.keys)]
inductive Kd where
 | str|int|bool|lst|dct
 | con (v:V)
set_option genCtorIdx true in
gen_injective_theorems% Kd
noncomputable def Br:Slot→Int
 | .val v=>(asInt v).getD 0
 | _=>0
noncomputable def GY:Slot→List Nat
 | .val v=>(asStr v).getD []
 | _=>[]
noncomputable def BP:Slot→Bool
 | .val v=>(asBool v).getD false
 | _=>false
noncomputable def Qm:Slot→List V
 | .lst l=>l
 | _=>[]
noncomputable def Ys:Slot→List (Int×V)
 | .dct l=>l
 | _=>[]
noncomputable def conV(v:V)(s:Slot):Bool:=match v with
 | .none=>match s with
  | .val w=>isNone w
  | _=>false
 | .int i=>match s with
  | .val w=>decide (asInt w=some i)
  | _=>false
 | .bool i=>match s with
  | .val w=>decide (asBool w=some i)
  | _=>false
 | .str i=>match s with
  | .val w=>decide (asStr w=some i)
  | _=>false
 | _=>false
noncomputable def okK(k:Kd)(s:Slot):Bool:=match k with
 | .str=>match s with
  | .val v=>(asStr v).isSome
  | _=>false
 | .int=>match s with
  | .val v=>(asInt v).isSome
  | _=>false
 | .bool=>match s with
  | .val v=>(asBool v).isSome
  | _=>false
 | .lst=>match s with
  | .lst _=>true
  | _=>false
 | .dct=>match s with
  | .dct _=>true
  | _=>false
 | .con v=>conV v s
noncomputable def AN(k:Kd)(s:Slot):Slot:=match k with
 | .str=>.val (.str (GY s))
 | .int=>.val (.int (Br s))
 | .bool=>.val (.bool (BP s))
 | .lst=>.lst (Qm s)
 | .dct=>.dct (Ys s)
 | .con v=>.val v
noncomputable def HJ:List (Str×Kd):=[(fN0,.con (.str lW)),(fN1,.con .none),(fN2,.con (.int 0)),(fN3,.con (.bool true)),(fN4,.str),(fN5,.int),(fN6,.con .none),(fN7,.con .none),(fN8,.con .none),
 (fN9,.int),(CK,.int),(CJ,.int),(CI,.bool),(CH,.int),(CG,.lst),(CF,.int),(CE,.int),(CD,.lst),(CC,.bool),(CB,.dct)]
noncomputable def Nj:List (Str×Kd)→aL→Bool
 | [],[]=>true
 | q::r,p::t=>decide (p.1=q.1)&&(okK q.2 p.2&&Nj r t)
 | _,_=>false
noncomputable def hdS:aL→Slot
 | []=>.gone
 | p::_=>p.2
noncomputable def tlS:Nat→aL→aL
 | 0,fl=>fl
 | n+1,fl=>tlS n fl.tail
noncomputable def Sm:List (Str×Kd)→aL→aL
 | [],_=>[]
 | q::r,fl=>(q.1,AN q.2 (hdS fl))::Sm r fl.tail
noncomputable def toS(fl:aL):Option Sc:=cV (Nj HJ fl) ⟨GY (hdS (tlS 4 fl)),Br (hdS (tlS 5 fl)),Br (hdS (tlS 9 fl)),Br (hdS (tlS 10 fl)),Br (hdS (tlS 11 fl)),BP (hdS (tlS 12 fl)),Br (hdS (tlS 13 fl)),Qm (hdS (tlS 14 fl)),Br (hdS (tlS 15 fl)),Br (hdS (tlS 16 fl)),Qm (hdS (tlS 17 fl)),BP (hdS (tlS 18 fl)),Ys (hdS (tlS 19 fl))⟩
inductive Res where
 | ok (v:V) (S:Sc)
 | err (e:V)
 | bad
set_option genCtorIdx true in
gen_injective_theorems% Res
noncomputable def Res.on{P:Type}(r:Res)(k:V→Sc→P)(ke:V→P)(b:P):P:=match r with
 | .ok v S=>k v S
 | .err e=>ke e
 | .bad=>b
noncomputable abbrev MFn:=List V→List (Str×V)→Sc→Res
noncomputable def tQ(g:MFn):aY:=fun args kw fl _ k ke b=>onO (toS fl) (fun S=>(g args kw S).on (fun v S'=>k v (mkF S')) ke b) b
noncomputable def Ah(sp:aY):MFn:=fun args kw S=>sp args kw (mkF S) Res (fun v fl=>onO (toS fl) (fun S'=>.ok v S') .bad) .err .bad
theorem qH{v:V}{i:Int}(h:asInt v=some i):v = .int i:=by
 cases v<;>first|(cases h;rfl)|exact ox h
theorem qG{v:V}{i:List Nat}(h:asStr v=some i):v = .str i:=by
 cases v<;>first|(cases h;rfl)|exact ox h
theorem uM{v:V}{i:Bool}(h:asBool v=some i):v = .bool i:=by
 cases v<;>first|(cases h;rfl)|exact ox h
theorem Dy{v:V}(h:isNone v=true):v = .none:=by
 cases v<;>first|rfl|exact bx h
theorem sE{α:Type}{o:Option α}{d:α}(h:o.isSome=true):o=some (o.getD d):=by
 cases o with
 | none=>exact bx h
 | some a=>rfl
theorem Va{k:Kd}{s:Slot}(h:okK k s=true):s=AN k s:=by
 cases k with
 | str=>cases s<;>first|exact congrArg Slot.val (qG (sE h))|exact bx h
 | int=>cases s<;>first|exact congrArg Slot.val (qH (sE h))|exact bx h
 | bool=>cases s<;>first|exact congrArg Slot.val (uM (sE h))|exact bx h
 | lst=>cases s<;>first|rfl|exact bx h
 | dct=>cases s<;>first|rfl|exact bx h
 | con v=>
  cases v with
  | none=>cases s<;>first|exact congrArg Slot.val (Dy h)|exact bx h
  | int i=>cases s<;>first|exact congrArg Slot.val (qH (aI h))|exact bx h
  | bool i=>cases s<;>first|exact congrArg Slot.val (uM (aI h))|exact bx h
  | str i=>cases s<;>first|exact congrArg Slot.val (qG (aI h))|exact bx h
  | _=>exact bx h
theorem Jg{q:List (Str×Kd)}:∀{fl:aL},Nj q fl=true→fl=Sm q fl:=by
 induction q with
 | nil=>intro fl h;cases fl with
  | nil=>rfl
  | cons=>exact bx h
 | cons q r ih=>intro fl h;cases fl with
  | nil=>exact bx h
  | cons p t=>
   refine aE (aA h) fun h1 h=>?_;refine aE (aA h) fun h2 h3=>?_;obtain⟨y,s⟩:=p;obtain rfl:y=q.1:=aI h1;show (q.1,s)::t=(q.1,AN q.2 s)::Sm r t;rw[←Va h2,←ih h3]
theorem Fd{fl:aL}{S:Sc}(h:toS fl=some S):fl=mkF S:=by
 refine aE (bX h) fun c e1=>?_;subst e1;exact Jg c
section
variable{W:Wd}{n:Nat}{f:Addr}
theorem sD{sp:aY}(h:aW W n f true sp):aW W n f true (tQ (Ah sp)):=by
 intro Θ args kw st k ke A env Φ F s first rs rks R hk C hr h0 hvs hks ok er
 refine aB (aC hk) fun S e hk1=>?_;have e:=Fd e;refine h (Θ:=⟨Res,fun r=>Θ.m (r.on (fun v S'=>k v (mkF S')) ke Θ.z),.bad,Θ.nz⟩) (k:=fun v fl=>onO (toS fl) (fun S'=>.ok v S') .bad) (ke:=.err) ?_ C hr h0 hvs hks (fun {v fl rv s' F'} x h' hv k1=>?_) fun x h' k1=>er x h' k1
 ·rw[e];exact hk1
 ·cases q:toS fl with
  | none=>
   have k1:Θ.m ((onO (toS fl) (fun S'=>Res.ok v S') .bad).on (fun v S'=>k v (mkF S')) ke Θ.z):=k1;rw[q] at k1;exact (Θ.nz k1).elim
  | some S'=>
   have k1:Θ.m ((onO (toS fl) (fun S'=>Res.ok v S') .bad).on (fun v S'=>k v (mkF S')) ke Θ.z):=k1;rw[q] at k1;refine ok x h' hv ?_;rw[Fd q];exact k1
theorem Ib{g g':MFn}(h:aW W n f true (tQ g))(e:∀args kw S,g' args kw S=g args kw S∨g' args kw S = .bad):aW W n f true (tQ g'):=by
 intro Θ args kw st k ke A env Φ F s first rs rks R hk C hr h0 hvs hks ok er
 refine h ?_ C hr h0 hvs hks ok er;refine aB (aC hk) fun S e1 hk1=>?_;show Θ.m (onO (toS st.flds) _ _);rw[e1]
 rcases e args kw S with q|q
 ·rw[q] at hk1;exact hk1
 ·rw[q] at hk1;exact (Θ.nz hk1).elim
noncomputable abbrev PFn:=List V→List (Str×V)→Option V
noncomputable def oE(g:PFn):aY:=fun args kw fl _ k _ b=>onO (g args kw) (fun v=>k v fl) b
noncomputable def eK(sp:aY)(args:List V)(kw:List (Str×V))(fl:aL):Option (V×aL):=sp args kw fl (Option (V×aL)) (fun v fl=>some (v,fl)) (fun _=>none) none
theorem zN{sp:aY}{g:PFn}(h:aW W n f false sp)(e:∀args kw fl v,g args kw=some v→eK sp args kw fl=some (v,fl)):aW W n f false (oE g):=by
 intro Θ args kw st k ke A env Φ F s first rs rks R hk C hr h0 hvs hks ok er
 refine aB (aC hk) fun v e1 hk1=>?_;refine h (Θ:=⟨Option (V×aL),fun r=>Θ.m (onO r (fun p=>k p.1 p.2) Θ.z),none,Θ.nz⟩) (k:=fun v fl=>some (v,fl)) (ke:=fun _=>none) ?_ C hr h0 hvs hks (fun x h' hv k1=>ok x h' hv k1) fun x h' k1=>(Θ.nz k1).elim;show Θ.m (onO (eK sp args kw st.flds) (fun p=>k p.1 p.2) Θ.z);rw[e _ _ _ _ e1];exact hk1
end
structure Tb where
 glob:List (Str×V)
 make:List (Nat×fM)
 excs:List (Nat×fM)
 cattr:List (Nat×List (Str×V))
 attrs:List (Nat×List Str)
 xattrs:List (Nat×List Str)
 scan:Nat
 frz:Nat→Bool
 notInst:List (Nat×Nat)
 fuel:Nat
 mths:List (Str×(Scope×fM×List PySem.Stmt))
noncomputable def Tb.orc(T:Tb)(ms fs:List (Str×aY))(top:Bool):Orc:=⟨ms,fs,none,T.glob,T.make,T.excs,T.cattr,T.attrs,T.xattrs,T.scan,T.frz,T.notInst,top,T.fuel⟩
noncomputable def pP(f:Str→MFn):List (Str×(Scope×fM×List PySem.Stmt))→List (Str×aY)
 | []=>[]
 | d::r=>(d.1,tQ (f d.1))::pP f r
noncomputable def Tb.mo(T:Tb)(f:Str→MFn):Orc:=T.orc (pP f T.mths) [] false
noncomputable def Tb.text(T:Tb)(f:Str→MFn)(m:Str):MFn:=match look m T.mths with
 | some d=>Ah (eC (evN (T.mo f) 60) true d.1 d.2.1 d.2.2)
 | none=>fun _ _ _=>.bad
noncomputable def Tb.tt(T:Tb):Nat→Str→MFn
 | 0=>fun _ _ _ _=>.bad
 | n+1=>T.text (T.tt n)
structure Lr(W:Wd)(T:Tb):Prop where
 P:Ls W
 tabs:∀ms fs t,cM W (T.orc ms fs t)
 make:∀c ps,fF c T.make=some ps→makesIn W.K c=true∧∃fI fd body,iA W (qO W.K c) c ps fI fd body
 inst:∀c d,T.notInst.contains (c,d)=true→pO W.K c d=true
 excs:∀c ps,fF c T.excs=some ps→uS W c ps
 mths:∀m d,look m T.mths=some d→∃f fd,fd.scope=d.1∧gV W.K W.scan m f=true∧hO W f fd d.2.2∧pA W fd true d.2.1
theorem kX{f:Str→MFn}{m:Str}{sp:aY}{l:List (Str×(Scope×fM×List PySem.Stmt))}(h:look m (pP f l)=some sp):sp=tQ (f m)∧∃d,look m l=some d:=by
 induction l with
 | nil=>cases h
 | cons d r ih=>
  have h:(if d.1=m then some (tQ (f d.1)) else look m (pP f r))=some sp:=h;show _∧∃e,(if d.1=m then some d.2 else look m r)=some e
  by_cases q:d.1=m
  ·rw[if_pos q] at h ⊢
   cases h
   exact⟨by rw[q],_,rfl⟩
  ·rw[if_neg q] at h ⊢
   exact ih h
section
variable{W:Wd}{T:Tb}
theorem Lr.hyps(H:Lr W T){n b:Nat}{ms fs:List (Str×aY)}{t:Bool}(hb:b<2)(hm:∀m sp,look m ms=some sp→∃f,gV W.K W.scan m f=true∧aW W (n+2) f true sp)(hf:∀x sp,look x fs=some sp→∃f,W.mg x=some (.ref f)∧keepIn W.K (.ref f)=true∧aW W (n+2) f false sp)
  (ht:t=true→b=0∧∀sp,look ("__init__" : Str) ms=some sp→∃fI,jJ W (n+1) sp fI):nQ W n b (T.orc ms fs t):=
 ⟨hb,H.tabs _ _ _,H.P,⟨hm⟩,⟨H.make,hf,H.inst⟩,H.excs,ht⟩
theorem Lr.tower(H:Lr W T)(n:Nat):∀m d,look m T.mths=some d→∃f,gV W.K W.scan m f=true∧aW W (n+2) f true (tQ (T.tt n m)):=by
 induction n with
 | zero=>
  intro m d e;refine gX (H.mths m d e) fun f fd _ h2 _=>?_;refine⟨f,h2,?_⟩
  intro Θ args kw st k ke A env Φ F s first rs rks R hk
  refine aB (aC hk) fun S _ hk1=>?_;exact (Θ.nz hk1).elim
 | succ n ih=>
  intro m d e;refine DK (H.mths m d e) fun f fd h1 h2 h3 h4=>?_;refine⟨f,h2,?_⟩
  have Y:nQ W n 1 (T.mo (T.tt n)):=H.hyps (Nat.lt_succ_self _) (fun m sp q=>by
   obtain⟨rfl,d,q⟩:=kX q
   exact ih m d q) (fun x sp q=>nomatch q) (fun q=>nomatch q)
  have S:aW W (n+1+2) f true (tQ (Ah (eC (evN (T.mo (T.tt n)) 60) true fd.scope d.2.1 d.2.2))):=sD (eT (slf:=true) pS h3 h4 (nM Y 60).HXs);rw[h1] at S
  have e2:T.tt (n+1) m=Ah (eC (evN (T.mo (T.tt n)) 60) true d.1 d.2.1 d.2.2):=by
   show (match look m T.mths with|some d=>Ah (eC (evN (T.mo (T.tt n)) 60) true d.1 d.2.1 d.2.2)|none=>fun _ _ _=>.bad)=_;rw[e]
  rw[e2];exact @S
end
noncomputable def pD(s:PySem.Stmt):Option Str:=match s with
 | .Expr e _=>(Gy e).bind fun q=>(wF q.1).bind fun a=>(Gy a.1).bind fun c=>(cR c.1).bind fun g=>(one q.2.1).bind fun x=>(cR x).bind fun y=>
  cV (decide (g=("super" : Str))&&(bP c.2.1&&(bP c.2.2&&(decide (a.2=("__init__" : Str))&&bP q.2.2)))) y
 | _=>none
noncomputable def Yr(spR:aY)(E:Ev):Ev:=⟨E.eval,E.test,E.exec,fun sc l st=>match l with
 | []=>R.bad
 | s::r=>(R.ofOpt (pD s) st).bind fun y st=>ifB (cB sc y&&nJ (look ("self" : Str) st.loc)) ((R.ofOpt (mU (look y st.loc)) st).bind fun v st=>(gR spR [v] [] st).bind fun _ st=>E.execs sc r st)⟩
noncomputable abbrev gG(y:Str)(p0 p1 ap yp p:Pos):PySem.Expr:=.Call (.Attribute (.Call (.Name "super" p0) [] [] p1) "__init__" ap) [.Name y yp] [] p
structure jV(W:Wd)(fd:FuncData)(fR:Addr):Prop where
 head:∃ar,(fd.params.posonlyargs++fd.params.args).head? = some ar∧ar.arg=("self" : Str)
 clos:∃cc cl cld csl,fd.closure=[(("__class__" : Str),cc)]∧W.K.lookup cc=some ⟨cl,cld,.cell (some (.ref W.scan)),csl⟩
 code:∃cda cl cd vs sl file tf,fd.code = .ref cda∧W.K.lookup cda=some ⟨cl,cd,.fields vs,sl⟩∧vs[2]? = some (.str file tf)∧((W.prog.main.file:Str)==file)=true
 cls:∃cdD,clsIn W.K W.scan=some cdD
 mro:mroIn W.K W.scan (.ref W.scan)=some true
 sup:fd.scope.names.lookup ("super" : Str)=some .globalImplicit
 kcls:fd.scope.names.lookup ("__class__" : Str)=some .free
 self:fd.scope.names.lookup ("self" : Str)=some .local
 top:(W.prog.main.scope.names.lookup ("super" : Str)).isSome=false
 opq:nsIn W.K cStatics "thirdparty.any" = some none
 meth:ks_superIn W.K W.scan W.scan "__init__" = some (some (.ref fR))
 fn:fnIn W.K fR=true
 ty:typeIn W.K (.ref fR)=some (.type "function")
 glob:W.mg ("super" : Str)=none
section
variable{Θ:Mn}{W:Wd}{n:Nat}{O:Orc}{E:Ev}{st:St}{A A':Around}{env:Env}{Φ:Fm}{F F':Fz}{s:Shared}{X:Value→Shared→Prop}
theorem Ih{fd:FuncData}{f fR L:Addr}{body:List PySem.Stmt}{sp:aY}{y:Str}{p0 p1 ap yp p ep:Pos}{v:V}{k:V→St→Θ.T}{ke:V→St→Θ.T}{Q:Flow→Shared→Prop}(SF:jV W fd fR)(hS:aW W n fR true sp)(C:Ctx n A (callEnv fd L f) Φ)(h:Rel W Φ F st s)
  (hf:∃oc od sl,W.K.lookup f=some ⟨oc,od,.func fd,sl⟩) (he:iD ap p=true) (hy:cB fd.scope y=true) (hs:look ("self" : Str) st.loc=some .self) (hv:look y st.loc=some (.val v))
  (hk:Θ.m (gR sp [v] [] st Θ.T k ke Θ.z)) (hq:∀{r v' st' s' F'},Ext 2 Φ.d F F'→Rel W Φ F' st' s'→VR F' v' r→Θ.m (k v' st')→Q .next s') (hx:∀{e:V} {ea:Addr} {st:St} {s:Shared} {F':Fz},Ext 0 Φ.d F F'→qI W Φ F' e ea st s→Θ.m (ke e st)→X (.ref ea) s) :
  _root_.PySem.wpAt W.M A (.func body (callEnv fd L f)) (exec (.Expr (gG y p0 p1 ap yp p) ep) (callEnv fd L f)) Q X s:=by
 refine ks_wpAt_Expr_any ?_ (by unfold interactive;rw[C.kind];rfl) (by rfl)
 show _root_.PySem.wpAt W.M A (.func body (callEnv fd L f)) (do
  let ov ←attributeBase (.Call (.Name "super" p0) [] [] p1) "__init__" (callEnv fd L f) (eval (.Call (.Name "super" p0) [] [] p1) (callEnv fd L f))
  standAt ap.atName
  methodCall (.Call (.Name "super" p0) [] [] p1) "__init__" ap p (callEnv fd L f) ov 1 (backTo p (starEach [.Name y yp] (callEnv fd L f))) []) _ X s
 refine bc fun hG=>?_;refine aB SF.head fun ar ha har=>?_;refine IF SF.clos fun cc cl cld csl hcl hcc=>?_;refine e7a3 SF.code fun cda k1 k2 vs k3 file tf hcd hcv hvs hfile=>?_;refine jS hf fun oc od sl hfo=>?_;clear hf;refine bG SF.cls fun cdD hD=>?_;have XK:=h.ph.inK;refine aB h.loc fun m e0 lr=>?_;refine aB (lr _ _ hs) fun x hmx hme=>?_;refine hG ?_;clear hG;have hmx:m ("self" : Str)=some (.ref x):=hmx;refine jS (h.focAt hme) fun d es j g=>?_;have I:=g.instAt h;have hn:=(h.ph.frame e0).1;have hL:Φ.L=L:=C.locals.symm;rw[hL] at hn
 obtain⟨oD,hD1,hD2⟩:∃oD,s.heap.get? W.scan=some oD∧oD.data = .cls cdD:=by
  unfold clsIn at hD
  cases z:W.K.lookup W.scan with
  | none=>rw[z] at hD;exact ox hD
  | some o=>
   rw[z] at hD;obtain⟨o1,o2,o3,o4⟩:=o
   cases o3<;>first|(cases hD;exact⟨_,XK _ _ z,rfl⟩)|exact ox hD
 obtain⟨oF,hF1,hF2⟩:∃oF,s.heap.get? fR=some oF∧oF.cls = .type "function" := by
  refine aB (aM (show (W.K.lookup fR).map (·.cls)=some (.type "function") from SF.ty)) fun o z q=>?_;exact⟨o,XK _ _ z,q⟩
 have hnc:x≠W.scan:=ks_ne XK I hD
 have hal:alongIn W.K "__init__" ((cdD.mro.dropWhile (· != .ref W.scan)).drop 1)=some (some (.ref fR)):=by
  have:=SF.meth;unfold ks_superIn at this;rw[hD] at this;exact this
 have few:methodCallForm 1 (backTo p (starEach [.Name y yp] (callEnv fd L f))) []=true:=by rw[mW rfl];rfl
 obtain⟨hh,gg,dd,tt,os⟩:=s;refine _root_.PySem.wpAt_bind (ks_wpAt_super_base (env:=callEnv fd L f) SF.sup SF.kcls (by decide) rfl (XK _ _ hfo) rfl ha hcd (XK _ _ hcv) rfl hvs hfile SF.top ?_);refine ks_loadName_global C.kind SF.sup (Calls.loadGlobal_builtin (by rw[C.globals];exact W.g.keeps h.ph.old) SF.glob (by rw[C.builtins];exact W.b.keeps h.ph.old) ((W.blt _ (by decide)).trans (by kernel_rfl)) ⟨rfl,?_⟩);refine wpAny_loadName_free C.kind SF.kcls (by show fd.closure.lookup _=_;rw[hcl];rfl) ⟨_,XK _ _ hcc,rfl⟩ ?_;rw[har];refine wpAny_loadName_local C.kind SF.self hn hmx ?_;refine ks_wpAny_isType_cls hD1 hD2 ⟨rfl,?_⟩;refine ks_wpAny_call_super hD1 hD2 I.at_ I.cls (fun c e=>?_) (looks_mroIn XK SF.mro) (fun h' hso hk'=>?_)
 ·have:=I.no
  unfold notCls at this;rw[e] at this;exact Bool.noConfusion this
 ·refine wpAt_of_wpAny (aF (wpAny_standAt ?_))
  have X':W.K.In h':=XK.keeps hk';unfold methodCall calleeOf methodCallPos;rw[few,if_pos rfl];refine aF (wpAny_holding ?_);refine ks_wpAny_getMethod_super hso (looks_opaque X' SF.opq) (l₀:=cdD.mro) (fun A Q E s k q=>aF ((looks_clsIn X' hD) A _ E s k (aP q))) rfl X' hal (hk' _ _ hF1) hF2 hnc (by decide) ?_;dsimp only;refine aF ?_;rw[if_pos (by rw[show (ap.endLine==p.line)=true from he];rfl)];refine aP ?_;have h2:Rel W Φ F st ⟨h'.push (methodObj (.ref fR) (.ref x)),gg,dd,tt+1,os⟩:=h.keep (t:=tt+1) (h':=h'.push (methodObj (.ref fR) (.ref x))) fun b o e=>Heap.get?_push_of_some _ (hk' _ _ e);have hm:(h'.push (methodObj (.ref fR) (.ref x))).get? h'.objs.size=some (methodObj (.ref fR) (.ref x)):=Heap.get?_push_size _ rfl;rw[mW rfl];refine callWith_of rfl (keeps_M SF.fn) (evalArgs_plain (Calls.spliced_cons (hU C h2 hy hv fun r hr=>Calls.spliced_nil ⟨⟨hm,h2.ph.inK⟩,wpAny_call (method_call hm ?_)⟩)));exact hS (first:=[.ref x]) (rks:=[]) hk C h2 ⟨x,rfl,hme⟩ (.cons hr .nil) .nil (fun x h' hv k1=>hq x h' hv k1) fun x h' k1=>hx x h' k1
set_option backward.match.sparseCases true in
theorem Cu{fI fR:Addr}{fd:FuncData}{rest:List PySem.Stmt}{ps:fM}{spR:aY}{y:Str}{p0 p1 ap yp p ep:Pos}(SF:jV W fd fR)(hS:aW W n fR true spR)(FF:hO W fI fd (.Expr (gG y p0 p1 ap yp p) ep::rest))(BD:pA W fd true ps)(HX:cZ W n 1 E.execs)(he:iD ap p=true) :
  aW W (n+1) fI true (eC (Yr spR E) true fd.scope ps (.Expr (gG y p0 p1 ap yp p) ep::rest)):=by
 intro Θ args kw st k ke A env Φ F s first rs rks R hk C h h0 hvs hks ok er
 unfold eC at hk
 cases hb:kB ps.1 args kw ps.2 with
 | none=>rw[hb] at hk;exact (Θ.nz hk).elim
 | some l=>
  rw[hb] at hk;refine bc fun hG=>?_;refine Ca (BD (s:=s) hb h.ph.inK h.ph.base h0 hvs hks) fun binds b1 b2 b3 b4=>?_;refine jS FF.at_ fun oc od sl ho=>?_;refine hG ?_;clear hG;have C1:=C.deeper FF s.heap.objs.size;refine ks_codeAny_call_defAt (fd:=fd) (body:=.Expr (gG y p0 p1 ap yp p) ep::rest) (binds:=binds) (by have:=C.depth;exact zd ‹_›) (h.ph.inK _ _ ho) rfl (W.nolimit.keeps h.ph.old) (codeRec_of h.ph.inK FF.code) FF.body b1 FF.cell b2 (fun h₁ hns hk₁=>?_) FF.co FF.gen FF.kind;have fr:=h.ph.new (aK _);have le:F.le (F.set s.heap.objs.size (.frame (Φ.d+1) fun x=>binds.reverse.lookup x)):=Fz.le_add fr
  have l0:kJ (F.set s.heap.objs.size (.frame (Φ.d+1) fun x=>binds.reverse.lookup x)) (Φ.d+1) (fun x=>binds.reverse.lookup x) (fN l):=Ba fun x v e=>by
   refine aB (b3 x v e) fun r e1 e2=>?_;exact⟨r,e1,e2.mono le⟩
  have h1:=h.enter (t:=s.toks+binds.length) hns hk₁ (Bb l0 (b4 rfl))
  have okk:∀{fl st' fl' s' F'},Ext 1 (Φ.d+1) (F.set s.heap.objs.size (.frame (Φ.d+1) fun x=>binds.reverse.lookup x)) F'→Rel W (Φ.deeper s.heap.objs.size) F' st' s'→dR F' fl fl'→Θ.m (k (xK fl) st'.flds)→R (.ok (.ret (match fl' with | .ret v=>v|_=>.none))) s':=fun {fl st' fl' s' F'} x h' hf k1=>by
   obtain⟨h2,x2⟩:=h.return fr x (fun _=>aK 1) (x.me (aK 1)) h'
   cases hf with
   | ret hv=>exact ok x2 h2 hv k1
   | next=>exact ok x2 h2 .none k1
   | brk=>exact ok x2 h2 .none k1
   | cont=>exact ok x2 h2 .none k1
  have err:∀{e:V} {ea:Addr} {st':St} {s':Shared} {F':Fz},Ext 0 (Φ.d+1) (F.set s.heap.objs.size (.frame (Φ.d+1) fun x=>binds.reverse.lookup x)) F'→qI W (Φ.deeper s.heap.objs.size) F' e ea st' s'→Θ.m (ke e)→
    wpAny W.M (A.deeper (callEnv fd s.heap.objs.size fI)) (leaving (callEnv fd s.heap.objs.size fI) (.ref ea)) (fun _ s''=>R (.error (.ref ea)) s'') (fun e' s''=>R (.error e') s'') s':=fun {e ea st' s' F'} x hx k1=>by
   refine pS C1 hx fun s2 h2 hm z=>?_;refine Rr z fun c fs oe vs e4 z1 z2=>?_;clear z;subst e4
   have e2:st'.flds=[]:=by
    rcases h2.foc with ⟨_,q⟩|⟨_,_,_,_,g⟩
    ·exact q
    ·rw[g.me] at hm;exact sx hm
   refine aE (h.dead.return fr (b:=0) (c:=0) (F':=F') (m:=fun x=>binds.reverse.lookup x) ⟨fun a k=>x.keep a k.weak,x.la,fun q=>absurd q (Nat.not_succ_le_zero _)⟩ id hm h2) fun h3 x3=>?_;have h3:Rel W Φ F' ⟨lD st.loc,st'.flds,true⟩ s2:=h3;rw[e2] at h3;exact er ((Ext.dead Φ.d).trans x3) ⟨h3,hm,c,fs,oe,vs,rfl,z1,.inr (z2.mono fun v q=>.inl q)⟩ k1
  have e1:pD (.Expr (gG y p0 p1 ap yp p) ep)=some y:=by kernel_rfl
  have hk2:Θ.m (onO (pD (.Expr (gG y p0 p1 ap yp p) ep)) (fun y=>onB (cB fd.scope y&&nJ (look ("self" : Str) (iW true l))) (onO (mU (look y (iW true l))) (fun v=>gR spR [v] [] ⟨iW true l,st.flds,true⟩ Θ.T (fun _ st=>E.execs fd.scope rest st Θ.T (fun f st=>k (xK f) st.flds) (fun e _=>ke e) Θ.z) (fun e _=>ke e) Θ.z) Θ.z) Θ.z) Θ.z):=hk;rw[e1] at hk2;refine bc fun hG=>?_;refine aE (aS (show Θ.m (onB _ _ Θ.z) from hk2)) fun c hk3=>?_;refine aE (aA c) fun c1 _=>?_;refine aB (aC hk3) fun v ev hk4=>?_;refine hG ?_;clear hG;refine ks_wpAt_execs_cons (Ih (v:=v) SF hS C1 h1 ⟨oc,od,sl,ho⟩ he c1 rfl (iY ev) hk4 (fun {r v' st' s' F'} x h' hv k1=>?_) err);exact wpAt_of_wpAny (HX k1 C1 h' ⟨fun x2 h2 f2 k2=>okk (x.of_true.trans x2) h2 f2 k2,fun x2 hx k2=>err (x.weak.trans x2) hx k2⟩)
end
noncomputable def pE(base:Heap)(L:Addr)(m:Str→Option Value):Fz:=⟨fun a=>match Nat.beq a L with
 | true=>.frame 0 m
 | false=>match base.get? a with
  | some o=>.frz o
  | none=>.free,fun _ _=>none,none⟩
theorem qL{base:Heap}{L:Addr}{m:Str→Option Value}(hL:base.objs.size≤L):∀a o,base.get? a=some o→(pE base L m).H a = .frz o:=fun a o e=>by
 have ne:Nat.beq a L=false:=by
  cases q:Nat.beq a L with
  | false=>rfl
  | true=>exact absurd (Heap.lt_size e) (Nat.not_lt_of_le (by rw[Nat.eq_of_beq_eq_true q];exact hL))
 show (match Nat.beq a L with|true=>bK.frame 0 m|false=>match base.get? a with|some o=>.frz o|none=>.free)=_;rw[ne,e]
section
variable{W:Wd}{n:Nat}{O:Orc}{A:Around}{env:Env}{s:Shared}{X:Value→Shared→Prop}
theorem Jm{L:Addr}{m:Str→Option Value}{x:Str}{v:V}{r:Value}(hns:s.heap.Ns L m)(hL:W.base.objs.size≤L)(hk:∀a o,W.base.get? a=some o→s.heap.get? a=some o)(hg:s.gens = #[])(ho:s.os=W.os)(hm:m x=some r)(hv:VR (pE W.base L m) v r) :
  Rel W ⟨L,0,[],[]⟩ (pE W.base L m) ⟨[(x,.val v)],[],true⟩ s:=by
 have e0:(pE W.base L m).H L = .frame 0 m:=by
  show (match Nat.beq L L with|true=>bK.frame 0 m|false=>_)=_;rw[Nat.beq_refl]
 refine⟨⟨fun a=>?_,qL hL,hg,ho⟩,⟨m,e0,fun y sl e=>?_⟩,fun a ha=>(nomatch ha),.inl ⟨rfl,rfl⟩,fun a x y e=>(nomatch e),fun q=>Bool.noConfusion q⟩
 ·show jX W s.heap a (match Nat.beq a L with|true=>bK.frame 0 m|false=>match W.base.get? a with|some o=>.frz o|none=>.free)
  cases q:Nat.beq a L with
  | true=>rw[Nat.eq_of_beq_eq_true q];exact⟨hns,hL⟩
  | false=>
   cases z:W.base.get? a with
   | none=>trivial
   | some o=>exact hk a o z
 ·have e:(if x=y then some (Slot.val v) else none)=some sl:=e
  by_cases q:x=y
  ·rw[if_pos q] at e
   obtain rfl:=so e;rw[←q];exact⟨r,hm,hv⟩
  ·rw[if_neg q] at e;exact ox e
theorem Uq{Φ:Fm}{F:Fz}{st:St}{sc:Scope}{body:List PySem.Stmt}{Q:Flow→Shared→Prop}(Y:nQ W n 0 O)(C:Ctx (n+2) A env Φ)(h:Rel W Φ F st s)(hs:env.scope=sc)
  (hk:(evN O 60).execs sc body st Prop (fun f _=>xK f = .bool true∧∃v,f = .ret v) (fun _ _=>False) False) (hq:∀{s' F'},fZ W F' s'→Q (.ret (.bool true)) s'):wpAny W.M A (execs body env) Q X s:=by
 subst hs;refine (nM Y 60).HXs (Θ:=PM) hk C h ⟨fun {f st' r s' F'} x h' f1 k=>?_,fun _ _ k=>k.elim⟩;obtain⟨k1,v,rfl⟩:=k;have k1:v = .bool true:=k1;subst k1
 cases f1 with
 | ret hv=>
  have e:=hv.view;have e:_=Value.bool true:=e;rw[e];exact hq h'.ph
end
noncomputable def Hi(base:Heap):Fz:=⟨fun a=>match base.get? a with
 | some o=>.frz o
 | none=>.free,fun _ _=>none,none⟩
theorem Sy{base:Heap}{L:Addr}{m:Str→Option Value}(hL:base.objs.size≤L):(Hi base).le (pE base L m):=fun a o e=>qL hL a o (by
 have e:(match base.get? a with|some o=>bK.frz o|none=>.free) = .frz o:=e
 cases q:base.get? a with
 | none=>rw[q] at e;cases e
 | some o'=>rw[q] at e;cases e;rfl)
theorem Pb{W:Wd}{n:Nat}{O:Orc}{f:Addr}{fd:FuncData}{body:List PySem.Stmt}{x:Str}{v:V}{r:Value}{s:Shared}{R:Result→Shared→Prop}(Y:nQ W n 0 O)(FF:hO W f fd body)(BD:pA W fd false ([x],[]))
  (hn:callerA.depth+1+8*(n+2)<recursionLimit) (hu:callerA.units+3+20*(n+2)<cLine) (hb:W.base=s.heap) (hg:s.gens = #[]) (ho:s.os=W.os) (hv:VR (Hi s.heap) v r)
  (hk:(evN O 60).execs fd.scope body ⟨[(x,.val v)],[],true⟩ Prop (fun f _=>xK f = .bool true∧∃v,f = .ret v) (fun _ _=>False) False) (hR:∀{s' F'},fZ W F' s'→R (.ok (.ret (.bool true))) s'):codeAny W.M callerA (.call (.ref f) ⟨[r],[]⟩) R s:=by
 have XK:W.K.In s.heap:=hb▸W.X;have kp:∀a o,W.base.get? a=some o→s.heap.get? a=some o:=fun a o e=>hb▸e
 obtain⟨binds,b1,b2,b3,_⟩:=BD (F:=Hi s.heap) (s:=s) (args:=[v]) (kw:=[]) (l:=[(x,v)]) (first:=[]) (rs:=[r]) (rks:=[]) (by rfl) XK (fun a o e=>by
  have e:=kp a o e;show (match s.heap.get? a with|some o=>bK.frz o|none=>.free) = .frz o
  rw[e]) rfl (.cons hv .nil) .nil
 refine jS FF.at_ fun oc od sl hof=>?_;refine codeAny_call_def (fd:=fd) (body:=body) (binds:=binds) (by exact Nat.le_add_left ..) (XK _ _ hof) rfl (hb▸W.nolimit) (codeRec_of XK FF.code) FF.body b1 FF.cell b2 (fun h₁ hns hk₁=>?_) FF.co FF.gen FF.kind;refine aB (b3 x v (if_pos rfl)) fun r' e1 e2=>?_
 have h0:Rel W ⟨s.heap.objs.size,0,[],[]⟩ (pE W.base s.heap.objs.size fun x=>binds.reverse.lookup x) ⟨[(x,.val v)],[],true⟩ {s with heap:=h₁,toks:=s.toks+binds.length}:=
  Jm hns (by rw[hb];exact aK _) (fun a o e=>hk₁ a o (kp a o e)) hg ho e1 (e2.mono (by rw[hb];exact Sy (aK _)))
 have C:Ctx (n+2) (callerA.deeper (callEnv fd s.heap.objs.size f)) (callEnv fd s.heap.objs.size f) ⟨s.heap.objs.size,0,[],[]⟩:=
  {kind:=FF.kind,locals:=rfl,frame:=rfl,globals:=FF.glob,builtins:=FF.blt,nodbg:=FF.nodbg,frames:=⟨[],Around.frames_deeper rfl,.nil⟩,handled:=rfl,
   depth:=hn,units:=hu}
 exact Uq Y C h0 rfl hk fun {s' F'} p=>hR p
end
noncomputable abbrev sT(x:Str)(t:Nat):Value:=.str x t
noncomputable def rW(vs:List Value):Obj:={cls:=.type "tuple", data:=.seq vs.toArray 0}
noncomputable def AD(vs:List Value):Obj:={cls:=.none,data:=.fields vs.toArray}
noncomputable def tyO(c:String)(vs:List Value):Obj:={cls:=.type c,data:=.fields vs.toArray}
noncomputable def nsO(es:List DictEntry)(n:Nat):Obj:={cls:=.type "dict", data:=.dict es.toArray n}
noncomputable def wS(l:List Str)(t:Nat):List Value:=match l with
 | []=>[]
 | x::r=>sT x t::wS r (t+1)
noncomputable def Du:List (Str×NameKind)→List Str
 | []=>[]
 | p::r=>match decide (p.2 = .local) with
  | true=>p.1::Du r
  | false=>Du r
noncomputable def wC:Str := "/claim/cut.py"
structure Df where
 name:Str
 ps:Arguments
 body:List Stmt
 sc:Scope
 line:Nat
noncomputable def Rt(l:List Expr)(a t:Nat):List Obj×List Value×Nat:=match l with
 | []=>([],[],t)
 | e::r=>match e with
  | .Constant c _ _=>match c with
   | .int i=>let q:=Rt r a (t+1);(q.1,.int i t::q.2.1,q.2.2)
   | .str x=>let q:=Rt r a (t+1);(q.1,sT x t::q.2.1,q.2.2)
   | _=>let q:=Rt r a t;(q.1,.none::q.2.1,q.2.2)
  | _=>let q:=Rt r (a+1) t;(rW []::q.1,.ref a::q.2.1,q.2.2)
structure Done where
 objs:List Obj
 at_:Nat
 tok:Nat
noncomputable def II(d:Df)(pre:Str)(modv:Value)(clo:Option Nat)(vars:Bool)(a t:Nat):Done:=
 let q:=Rt d.ps.defaults a t
 let o1:=match d.ps.defaults with
  | []=>[]
  | _=>q.1++[rW q.2.1]
 let dv:Value:=match d.ps.defaults with
  | []=>.none
  | _=>.ref (a+q.1.length)
 let a1:=a+o1.length
 let t1:=q.2.2
 let o2:=match clo with
  | some c=>[rW [.ref c]]
  | none=>[]
 let a2:=a1+o2.length
 let fv:List Str:=match clo with
  | some _=>["__class__"]
  | none=>[]
 let vs:=match vars with
  | true=>Du d.sc.names
  | false=>[]
 let o3:=match vars with
  | true=>[rW (wS vs (t1+3+fv.length)),rW []]
  | false=>[]
 let (v1,v2):Value×Value:=match vars with
  | true=>(.ref (a2+2),.ref (a2+3))
  | false=>(.none,.none)
 let a3:=a2+2+o3.length
 let t2:=t1+3+fv.length+vs.length
 let qual:=pre++d.name
 let code:Obj:=tyO "code" [sT d.name t1,sT qual (t1+1),sT wC (t1+2),.int d.line 0,.int d.ps.args.length 0,.int 0 0,.int 0 0,.int 3 0,.ref a2,.bool true,.int 181 0,.ref (a2+1),.none,v1,v2,.ref a3,.int t2 0,.int d.line 0,sT wC (t2+1)]
 let hold:Obj:={cls:=.none,data:=.func {name:=d.name,qualname:=qual,params:=d.ps,body:=.stmts d.body,scope:=d.sc,globals:=0,closure:=[],defaults:=.none,kwdefaults:=.none}}
 let fn:Obj:={cls:=.type "function", data:=.func {name:=d.name,qualname:=qual,params:=d.ps,body:=.stmts d.body,scope:=d.sc,globals:=3,closure:=(match clo with|some c=>[("__class__", c)]|none=>[]),defaults:=dv,kwdefaults:=.none,pyModule:=modv,code:=.ref (a3+1),closureTuple:=(match clo with|some _=>.ref a1|none=>.none)}}
 ⟨o1++(o2++([rW (wS fv (t1+3)),AD []]++(o3++[hold,code,fn]))),a3+2,t2+2⟩
noncomputable def jG(P:Params)(x:Str)(t:Nat)(v:Value):DictEntry:=⟨PyData.keyHash P x,sT x t,v⟩
structure Mem where
 objs:List Obj
 es:List DictEntry
 lines:List Value
 a:Nat
 t:Nat
noncomputable def Ha(P:Params):List Expr→List Expr→Nat→Nat→List DictEntry
 | k::ks,v::vs,t,st=>match k,v with
  | .Constant (.str x) _ _,.Constant (.str y) _ _=>jG P x t (sT y (t+1))::Ha P ks vs (t+st) st
  | .Constant (.str x) _ _,.Constant (.int y) _ _=>jG P x t (.int y (t+1))::Ha P ks vs (t+st) st
  | _,_=>[]
 | _,_,_,_=>[]
noncomputable def Jy(P:Params)(pre:Str)(modv:Value)(cell:Option Nat):List Stmt→Nat→Nat→Mem
 | [],a,t=>⟨[],[],[],a,t⟩
 | st::r,a,t=>match st with
  | .FunctionDef n ar b _ _ _ sc _ _ p=>
   let d:=II ⟨n,ar,b,sc,p.line⟩ pre modv (match (sc.names.lookup ("__class__" : Str)).isSome with|true=>cell|false=>none) true a t
   let q:=Jy P pre modv cell r (d.at_+1) (d.tok+1)
   ⟨d.objs++q.objs,jG P n d.tok (.ref d.at_)::q.es,.int p.line 0 :: .int p.col 0 :: .ref (d.at_-1)::q.lines,q.a,q.t⟩
  | .Assign [.Name x _] (.Constant (.str y) _ _) _=>
   let q:=Jy P pre modv cell r a (t+2)
   ⟨q.objs,jG P x (t+1) (sT y t)::q.es,q.lines,q.a,q.t⟩
  | .Assign [.Name x _] (.Dict ks vs _) _=>
   match Nat.ble 17 ks.length with
   | true=>
    let es:=Ha P (ks.filterMap id) vs t 3
    let q:=Jy P pre modv cell r (a+2) (t+3*ks.length+1)
    ⟨nsO es es.length::nsO (es.drop 17) (es.length-17)::q.objs,jG P x (t+3*ks.length) (.ref a)::q.es,q.lines,q.a,q.t⟩
   | false=>
    let es:=Ha P (ks.filterMap id) vs t 2
    let q:=Jy P pre modv cell r (a+1) (t+3*ks.length+1)
    ⟨nsO es es.length::q.objs,jG P x (t+3*ks.length) (.ref a)::q.es,q.lines,q.a,q.t⟩
  | _=>Jy P pre modv cell r a t
structure Kl where
 modv:Value
 bases:List Value
 expl:Bool
 mro:List Value
 kind:Nat
 new:String
 cell:Bool
structure Row where
 objs:List Obj
 cls:Nat
 key:Nat
 line:Nat
 code:Nat
 name:Str
noncomputable def clsB(P:Params)(k:Kl)(n:Str)(body:List Stmt)(stat:List Str)(subs:List Value)(line:Nat)(a t:Nat):Row:=
 let c0:=match k.cell with
  | true=>1
  | false=>0
 let m:=Jy P (n ++ ".") k.modv (match k.cell with|true=>some (a+3)|false=>none) body (a+7+c0) (t+12)
 let ts:=m.t+stat.length
 let cls:=m.a+2
 let e0:=jG P "__module__" (t+7) k.modv
 let e1:=jG P "__qualname__" (t+9) (sT n (t+8))
 let e2:=jG P "__firstlineno__" (t+11) (.int line (t+10))
 let e3:=jG P "__static_attributes__" ts (.ref m.a)
 let e4:=match k.cell with
  | true=>[jG P "__classcell__" (ts+1) (.ref (a+3))]
  | false=>[]
 let t4:=ts+1+c0
 let ns:=e0::e1::e2::(m.es++e3::e4)
 let wr:Nat→List DictEntry×List Obj×Nat:=fun t=>([jG P "__weakref__" (t+1) (.ref (cls+(match k.kind with|0=>2|_=>1)))],[tyO "getset_descriptor" [sT "__weakref__" t,.ref cls,.builtin "ExceptionGroup.__weakref__", .none]],t+2)
 let x:List DictEntry×List Obj×Nat:=match k.kind with
  | 0=>let w:=wr (t4+2);(jG P "__dict__" (t4+1) (.ref (cls+1))::w.1,tyO "getset_descriptor" [sT "__dict__" t4,.ref cls,.builtin "function.__dict__", .builtin "function.__dict__#set"]::w.2.1,w.2.2)
  | 1=>wr t4
  | _=>([],[],t4)
 let d2:=e0::e2::(m.es++e3::(x.1++[jG P "__doc__" x.2.2 .none]))
 let code:Obj:=tyO "code" [sT n (t+2),sT n (t+3),sT wC (t+4),.int line 0,.int 0 0,.int 0 0,.int 0 0,.int 0 0,.ref (a+3+c0),.bool false,.int 181 0,.ref (a+4+c0),.none,.none,.none,.none,.int (t+5) 0,.int line 0,sT wC (t+6)]
 let frame:Obj:={cls:=.type "frame", data:=.plain,slots:=#[some (.ref (a+5+c0)),some (.ref 3),some (.ref (a+2)),none,some k.modv,none,some (.ref 0)]}
 let ty:Obj:={cls:=.type "type", data:=.cls {name:=n,bases:=k.bases,mro:=.ref cls::k.mro,ns:=m.a+1,qualname:=n,subclasses:=subs},slots:=#[(match k.expl with|true=>some (.ref a)|false=>none),none,some (sT n t),some (sT n (t+8)),some (.builtin k.new),some (.bool true)]}
 ⟨rW (match k.expl with|true=>k.bases|false=>[])::tyO "builtin_function_or_method" [.builtin "type.__prepare__", .type "type"]::nsO ns ns.length ::
  ((match k.cell with|true=>[({cls:=.type "cell", data:=.cell (some (.ref cls))}:Obj)]|false=>[]) ++
  (rW []::AD m.lines::code::frame::(m.objs++(rW (wS stat m.t)::nsO d2 (x.1.length+2+c0)::ty::(x.2.1++[tyO "super" [.ref cls,.ref cls,.ref cls],tyO "builtin_function_or_method" [.builtin "object.__init_subclass__", .ref cls]]))))),cls,x.2.2+(match k.kind with|1=>4|_=>2),line,a+5+c0,n⟩
section
open PySem.Challenge
noncomputable def cI:List Stmt:=pw_qm0003_04.main.body
noncomputable def sC:List (Nat×Nat):=[(15,187),(15,189),(51,253),(64,273),(91,314),(91,316),(117,356),(124,363),(190,457),(190,459),(211,490),(230,523),(242,541),(254,559),(274,590),(286,608),(298,626),(310,644),(322,662),(334,680),(346,698),(358,716),(370,734),(382,752),(394,770),(406,788),(418,806),(437,837),(456,868),(475,899),(495,934),(495,936),(507,952),(528,991),(1044,1747),(1044,1749),(1053,1772),(1054,1801),(1054,1803),(1061,1811),(1068,1819),(1075,1832),(1080,1838),(1087,1850),(1094,1860),(1101,1871),(1106,1877)]
noncomputable def DU:List (Str×Nat):=[("YAMLError", 60),("MarkedYAMLError", 88),("Reader", 185),("Token", 206)]
noncomputable def clsA(x:Str):Option Nat:=DU.lookup x
noncomputable def mroT:Nat→List Value
 | 60=>[.ref 60,.type "Exception", .type "BaseException", .type "object"]
 | 88=>[.ref 88,.ref 60,.type "Exception", .type "BaseException", .type "object"]
 | n=>[.ref n,.type "object"]
noncomputable def Sx(bs:List Expr):Kl:=match bs with
 | .Name x _::_=>match clsA x with
  | some n=>⟨.none,[.ref n],true,mroT n,2,(match Nat.ble n 100 with|true => "Exception.__new__" | false => "object.__new__"),false⟩
  | none=>match decide (x = "Exception") with
   | true=>⟨.none,[.type "Exception"],true,[.type "Exception", .type "BaseException", .type "object"],1, "Exception.__new__", false⟩
   | false=>⟨.none,[.type "object"],true,[.type "object"],0, "object.__new__", false⟩
 | _=>⟨.none,[.type "object"],false,[.type "object"],0, "object.__new__", false⟩
noncomputable def rP:List Stmt→Bool
 | []=>false
 | s::r=>match s with
  | .FunctionDef _ _ _ _ _ _ sc _ _ _=>match (sc.names.lookup ("__class__" : Str)).isSome with
   | true=>true
   | false=>rP r
  | _=>rP r
noncomputable def Gm:List (Str×Const)→Bool
 | []=>false
 | p::r=>match decide (p.1 = "fast") with
  | true=>true
  | false=>Gm r
noncomputable def Aq(d:Value):List Stmt→List (Nat×Nat)→Nat→Value
 | s::r,q::t,n+1=>match s with
  | .Assign [.Name x _] (.Constant (.str y) _ _) _=>match decide (x = "__name__") with
   | true=>Aq (sT y q.2) r t n
   | false=>Aq d r t n
  | _=>Aq d r t n
 | _,_,_=>d
noncomputable def FY(n:Nat):Value:=Aq (sT "__main__" 164) cI sC n
noncomputable def wU(c:Str):List Stmt→List (Nat×Nat)→Nat→List Value
 | s::r,_::t,n+1=>match s with
  | .ClassDef _ (.Name x _::_) _ _ _ _ _ _ _ _ _=>match decide (x=c) with
   | true=>.ref ((t.headD (0,0)).1-3)::wU c r t n
   | false=>wU c r t n
  | _=>wU c r t n
 | _,_,_=>[]
noncomputable def ES:Nat→Expr→Nat→Nat→List Obj×Value×Nat
 | 0,_,_,t=>([],.none,t)
 | n+1,e,a,t=>
  let go:List Expr→Nat→Nat→List Obj×List Value×Nat:=fun es=>es.foldr (fun e k a t=>let q:=ES n e a t;let r:=k (a+q.1.length) q.2.2;(q.1++r.1,q.2.1::r.2.1,r.2.2)) (fun _ t=>([],[],t))
  match e with
  | .Constant (.str x) _ _=>([],sT x t,t+1)
  | .List es _=>let q:=go es a t;(q.1++[{cls:=.type "list", data:=.seq q.2.1.toArray 0}],.ref (a+q.1.length),q.2.2)
  | .Tuple es _ _=>let q:=go es a t;(q.1++[rW q.2.1],.ref (a+q.1.length),q.2.2)
  | _=>([],.none,t)
noncomputable def GV(P:Params)(n:Nat)(s:Stmt)(q:Nat×Nat)(m:Value):List Obj:=match s with
 | .ClassDef x bs _ b _ _ _ _ _ stat p=>
  let k:=Sx bs
  (clsB P {k with modv:=m,cell:=rP b} x b stat (wU x cI sC n) p.line q.1 q.2).objs
 | .FunctionDef x ar b _ _ _ sc _ _ p=>(II ⟨x,ar,b,sc,p.line⟩ "" m none (!Gm sc.more) q.1 q.2).objs
 | .Assign _ e _=>match e with
  | .Constant _ _ _=>[]
  | e=>(ES 4 e q.1 q.2).1
 | _=>[]
noncomputable def Pn(P:Params)(n:Nat):List Stmt→List (Nat×Nat)→Value→Nat→List Obj
 | s::r,q::t,m,k+1=>GV P n s q m++Pn P n r t (Aq m [s] [q] 1) k
 | _,_,_,_=>[]
noncomputable def tV(P:Params):List Stmt→List (Nat×Nat)→Nat→List DictEntry
 | s::r,_::t,n+1=>let u:=t.headD (0,0);match s with
  | .ClassDef x bs _ _ _ _ _ _ _ _ _=>jG P x (u.2-1) (.ref (u.1-(match (Sx bs).kind with|0=>5|1=>4|_=>3)))::tV P r t n
  | .FunctionDef x _ _ _ _ _ _ _ _ _=>jG P x (u.2-1) (.ref (u.1-1))::tV P r t n
  | .Assign [.Name x _] e _=>match decide (x = "__name__") with
   | true=>tV P r t n
   | false=>match e with
    | .Constant (.str y) _ _=>jG P x (u.2-1) (sT y (u.2-2))::tV P r t n
    | _=>jG P x (u.2-1) (.ref (u.1-1))::tV P r t n
  | _=>tV P r t n
 | _,_,_=>[]
noncomputable def xY:List Stmt→List (Nat×Nat)→Nat→List Value
 | s::r,q::t,n+1=>let u:=t.headD (0,0);match s with
  | .ClassDef _ _ _ b _ _ _ _ _ _ p=>.int p.line 0 :: .int p.col 0 :: .ref (q.1+5+(match rP b with|true=>1|false=>0))::xY r t n
  | .FunctionDef _ _ _ _ _ _ _ _ _ p=>.int p.line 0 :: .int p.col 0 :: .ref (u.1-2)::xY r t n
  | _=>xY r t n
 | _,_,_=>[]
noncomputable def CO(o:Obj):List DictEntry:=match o.data with
 | .dict es _=>es.toList
 | _=>[]
noncomputable def setN(v:Value):List DictEntry→List DictEntry
 | e::r=>{e with val:=v}::r
 | []=>[]
noncomputable def Dj(n:Nat)(P:Params):List Obj:=
 let ge:=setN (FY n) (CO (boot_o_3 P))++tV P cI sC n
 [boot_o_0 P,boot_o_1 P,
  (match Nat.ble n 2 with
   | true=>boot_o_2 P
   | false=>{cls:=.none,data:=.dict #[jG P "type.__subclasses__.Exception.0" 269 (.int 60 0),jG P "type.__subclasses__.Exception.n" 270 (.int 1 0)] 2}),
  nsO ge ge.length,boot_o_4 P,boot_o_5 P,boot_o_6 P,boot_o_7 P,boot_o_8 P,boot_o_9 P,boot_o_10 P,
  rW [],AD (xY cI sC n),
  tyO "code" [sT "<module>" 182,sT "<module>" 183,sT wC 184,.int 1 0,.int 0 0,.int 0 0,.int 0 0,.int 0 0,.ref 11,.bool false,.int 181 0,.ref 12,.none,.none,.none,.none,.int 185 0,.int 1 0,sT wC 186],
  {cls:=.type "frame", data:=.plain,slots:=#[some (.ref 13),some (.ref 3),some (.ref 3),none,some (sT "__main__" 164),none,some (.ref 0)]}]++Pn P n cI sC (sT "__main__" 164) n
noncomputable def Eb:List Obj→List Obj×List Obj
 | []=>([],[])
 | o::r=>let q:=Eb r;(o::q.2,q.1)
noncomputable def rX:Nat→List Obj→BT
 | 0,_=>.nil
 | n+1,l=>match l with
  | []=>.nil
  | o::r=>.node o (rX n (Eb r).1) (rX n (Eb r).2)
noncomputable def stT(k n t:Nat)(w:World)(os:OsState):SharedT:={tree:=rX 12 (Dj k w.params),n:=n,life:={},gens:=Array.mk [],drawn:={},toks:=t,os:=os}
noncomputable def dS:Env:={scope:=pw_qm0003_04.main.scope,locals:=3,globals:=3,cells:=[],code:=.ref 13,frame:=some 14}
noncomputable def kD(i:Nat):Pos:=match cI.drop i with
 | .Assign [.Name _ p] _ _::_=>p
 | .ClassDef _ _ _ _ _ _ _ _ _ _ p::_=>p
 | .FunctionDef _ _ _ _ _ _ _ _ _ p::_=>p
 | _=>⟨0,0,0,0⟩
theorem pc0(w:World)(os:OsState):Fast.tw10110043849684766642 Fast.tw14364793385576792824 pw_qm0003_04 w 11 (some (.ref 6)) 1 400 (stT 0 15 187 w os) (piecesOf (cI.take 2) dS (.body cI dS) ⟨0,0,0,0⟩ [topFrame ⟨0,0,0,0⟩])
 = some (.next,stT 2 51 253 w os,.body cI dS,kD 1):=by kernel_rfl
theorem pc1(w:World)(os:OsState):Fast.tw10110043849684766642 Fast.tw14364793385576792824 pw_qm0003_04 w 11 (some (.ref 6)) 1 1311 (stT 2 51 253 w os) (piecesOf ((cI.drop 2).take 7) dS (.body cI dS) (kD 1) [topFrame ⟨0,0,0,0⟩])
 = some (.next,stT 9 190 459 w os,.body cI dS,kD 8):=by kernel_rfl
theorem pc2(w:World)(os:OsState):Fast.tw10110043849684766642 Fast.tw14364793385576792824 pw_qm0003_04 w 11 (some (.ref 6)) 1 2585 (stT 9 190 459 w os) (piecesOf ((cI.drop 9).take 11) dS (.body cI dS) (kD 8) [topFrame ⟨0,0,0,0⟩])
 = some (.next,stT 20 346 698 w os,.body cI dS,kD 19):=by kernel_rfl
theorem pc3(w:World)(os:OsState):Fast.tw10110043849684766642 Fast.tw14364793385576792824 pw_qm0003_04 w 11 (some (.ref 6)) 1 2901 (stT 20 346 698 w os) (piecesOf ((cI.drop 20).take 13) dS (.body cI dS) (kD 19) [topFrame ⟨0,0,0,0⟩])
 = some (.next,stT 33 528 991 w os,.body cI dS,kD 32):=by kernel_rfl
theorem pc4f(w:World)(os:OsState):Fast.tw10110043849684766642 Fast.tw14364793385576792824 pw_qm0003_04 (w.withFollow "special-get-raises" false) 11 (some (.ref 6)) 1 3020 (stT 33 528 991 (w.withFollow "special-get-raises" false) os) (piecesOf ((cI.drop 33).take 1) dS (.body cI dS) (kD 32) [topFrame ⟨0,0,0,0⟩])
 = some (.next,stT 34 1044 1747 (w.withFollow "special-get-raises" false) os,.body cI dS,kD 33):=by kernel_rfl
theorem pc4t(w:World)(os:OsState):Fast.tw10110043849684766642 Fast.tw14364793385576792824 pw_qm0003_04 (w.withFollow "special-get-raises" true) 11 (some (.ref 6)) 1 3020 (stT 33 528 991 (w.withFollow "special-get-raises" true) os) (piecesOf ((cI.drop 33).take 1) dS (.body cI dS) (kD 32) [topFrame ⟨0,0,0,0⟩])
 = some (.next,stT 34 1044 1747 (w.withFollow "special-get-raises" true) os,.body cI dS,kD 33):=by kernel_rfl
theorem pc5(w:World)(os:OsState):Fast.tw10110043849684766642 Fast.tw14364793385576792824 pw_qm0003_04 w 11 (some (.ref 6)) 1 410 (stT 34 1044 1747 w os) (piecesOf ((cI.drop 34).take 12) dS (.body cI dS) (kD 33) [topFrame ⟨0,0,0,0⟩])
 = some (.next,stT 46 1106 1877 w os,.body cI dS,kD 45):=by kernel_rfl
end
section
open PySem.Challenge PySem.Calls
theorem pre(w:World)(os:OsState):topGo treeTable pw_qm0003_04 w 11 (some (.ref 6)) 12 ⟨boot_heap w.params,Array.mk [],boot_drawn,boot_toks,os⟩ (topStub pw_qm0003_04)=some ((stT 0 15 187 w os).abs,⟨denote treeTable (.body cI dS),.body cI dS,⟨0,0,0,0⟩,[topFrame ⟨0,0,0,0⟩]⟩):=by kernel_rfl
theorem blk(w:World)(os:OsState):segRun treeTable pw_qm0003_04 w 11 (some (.ref 6)) 1 5 (stT 0 15 187 w os).abs (blockOf cI dS (.body cI dS) ⟨0,0,0,0⟩ [topFrame ⟨0,0,0,0⟩])=some (.next,(stT 0 15 187 w os).abs,.body cI dS,⟨0,0,0,0⟩):=by kernel_rfl
theorem fin(w:World)(os:OsState):topRun treeTable pw_qm0003_04 w 11 (some (.ref 6)) 3 (stT 46 1106 1877 w os).abs (restOf [] dS (.body cI dS) (kD 45) [topFrame ⟨0,0,0,0⟩])=some (stT 46 1106 1877 w os).abs:=by kernel_rfl
section
variable{w:World}{os:OsState}
theorem vL{n:Nat}{s s':SharedT}{t:Thread}{c:Code}{q:Pos}(h:Fast.tw10110043849684766642 Fast.tw14364793385576792824 pw_qm0003_04 w 11 (some (.ref 6)) 1 n s t=some (.next,s',c,q)):segRun treeTable pw_qm0003_04 w 11 (some (.ref 6)) 1 n s.abs t=some (.next,s'.abs,c,q):=by
 rw[←Fast.te10110043849684766642,←Fast.te14364793385576792824] at h;exact segRun_of h
theorem kO(i j:Nat):cI.drop i=(cI.drop i).take j++cI.drop (i+j):=by rw[←List.drop_drop,List.take_append_drop]
end
theorem pc4(w:World)(os:OsState):Fast.tw10110043849684766642 Fast.tw14364793385576792824 pw_qm0003_04 w 11 (some (.ref 6)) 1 3020 (stT 33 528 991 w os) (piecesOf ((cI.drop 33).take 1) dS (.body cI dS) (kD 32) [topFrame ⟨0,0,0,0⟩])
 = some (.next,stT 34 1044 1747 w os,.body cI dS,kD 33):=
 byRow2 "special-get-raises" (P:=fun w=>Fast.tw10110043849684766642 Fast.tw14364793385576792824 pw_qm0003_04 w 11 (some (.ref 6)) 1 3020 (stT 33 528 991 w os) (piecesOf ((cI.drop 33).take 1) dS (.body cI dS) (kD 32) [topFrame ⟨0,0,0,0⟩])=some (.next,stT 34 1044 1747 w os,.body cI dS,kD 33)) (fun w=>pc4f w os) (fun w=>pc4t w os) w
noncomputable def H1(P:Params):Heap:=absHeap (rX 12 (Dj 46 P)) 1106 {}
theorem Up(w:World)(os:OsState):topRun treeTable pw_qm0003_04 w 11 (some (.ref 6)) 10647 ⟨boot_heap w.params,Array.mk [],boot_drawn,boot_toks,os⟩ (topStub pw_qm0003_04)=some ⟨H1 w.params,Array.mk [],{},1877,os⟩:=by
 refine go_top (n:=12) (N:=10635) (pre w os) ?_;refine piece_block (n:=5) (N:=10630) (blk w os) ?_
 have s0:restOf cI dS (.body cI dS) ⟨0,0,0,0⟩ [topFrame ⟨0,0,0,0⟩]=restOf (cI.take 2++cI.drop 2) dS (.body cI dS) ⟨0,0,0,0⟩ [topFrame ⟨0,0,0,0⟩]:=by rw[List.take_append_drop]
 rw[s0];refine piece_app (n:=400) (N:=10230) (vL (pc0 w os)) ?_;rw[kO 2 7];refine piece_app (n:=1311) (N:=8919) (vL (pc1 w os)) ?_;rw[kO 9 11];refine piece_app (n:=2585) (N:=6334) (vL (pc2 w os)) ?_;rw[kO 20 13];refine piece_app (n:=2901) (N:=3433) (vL (pc3 w os)) ?_;rw[kO 33 1];refine piece_app (n:=3020) (N:=413) (vL (pc4 w os)) ?_;rw[kO 34 12];refine piece_app (n:=410) (N:=3) (vL (pc5 w os)) ?_;exact fin w os
theorem opn(w:World):(fencedOpening treeTable pw_qm0003_04 w 10647).map (fun s=>(s.heap,s.gens,s.drawn,s.toks))=some (boot_heap w.params,Array.mk [],boot_drawn,boot_toks):=boot_open (by kernel_rfl) (by kernel_rfl) (fun s=>by kernel_rfl) w
theorem szo(w:World):((boot_heap w.params).isNs mainGlobals&&(Array.mk []:Array GenState).size==0,(boot_heap w.params).objs.size,(boot_heap w.params).nsMap mainGlobals "__annotations__")=(true,11,some (.ref 6)):=by kernel_rfl
noncomputable def GU:List Stmt:=([1,2,3,5,6,7,9,10,11,12,13,14,15,16,17,18,19,20,21,22,23,24,25,26,27,28,29,31,32,33,35,36,37,38,39,40,41,42,43,44,45]:List Nat).flatMap fun i=>(cI.drop i).take 1
noncomputable def qv:Program:={pw_qm0003_04 with main:={pw_qm0003_04.main with body:=GU}}
noncomputable def fU:List Str:=["MarkedYAMLError", "Reader", "DirectiveToken", "DocumentStartToken", "DocumentEndToken", "StreamStartToken", "StreamEndToken", "BlockSequenceStartToken", "BlockMappingStartToken", "BlockEndToken", "FlowSequenceStartToken", "FlowMappingStartToken", "FlowSequenceEndToken", "FlowMappingEndToken", "KeyToken", "ValueToken", "BlockEntryToken", "FlowEntryToken", "AliasToken", "AnchorToken", "TagToken", "ScalarToken", "Scanner", "_law_HEADS", "_law_SIGNS"]
theorem lk1(w:World):(staticsOk (importedModules pw_qm0003_04.main.body) (boot_heap w.params) (H1 w.params)&&namesBound pw_qm0003_04 (H1 w.params)&&laidKept (boot_heap w.params) (H1 w.params))=true:=by kernel_rfl
theorem lk1b(w:World)(os:OsState):gensDone ⟨H1 w.params,Array.mk [],{},1877,os⟩=true:=by kernel_rfl
end
section
open PySem.Challenge PySem.Calls PyProof.Rows
noncomputable abbrev sF(w:World)(os:OsState):Shared:=⟨H1 w.params,Array.mk [],{},1877,os⟩
theorem hc2(w:World)(os:OsState):(sF w os).heap.bltView=bltViewBooted:=by kernel_rfl
theorem c3a(w:World)(os:OsState):((sF w os).heap.keysOk (looseW qv fU) ((recsOf qv).map (·.name)) ((litsOf qv).map (·.1)) ((clssOf qv (looseW qv fU)).map (·.name)))=true:=by kernel_rfl
theorem c3b(w:World)(os:OsState):((sF w os).heap.accountedOkI (importedModules pw_qm0003_04.main.body)&&(sF w os).heap.isNs mainGlobals&&(sF w os).heap.isNs builtinsNs&&tablesOk qv (sF w os).heap)=true:=by kernel_rfl
theorem c4(w:World)(os:OsState):tabsOk qv (sF w os)=true:=by kernel_rfl
theorem c5(w:World)(os:OsState):pinSeenD qv (drecsOf qv) (sF w os)=pinGoodD (drecsOf qv):=by kernel_rfl
theorem c6(w:World)(os:OsState):plainSeenE qv (looseW qv fU) (sF w os)=plainGoodE qv (looseW qv fU):=by kernel_rfl
theorem c7(w:World)(os:OsState):plainSeenD qv fU (sF w os)=plainGoodD qv fU:=by kernel_rfl
theorem c8(w:World)(os:OsState):wideSeen qv (sF w os)=wideGood qv:=by kernel_rfl
theorem c9(w:World)(os:OsState):clsSeenW qv fU (sF w os)=clsGoodW qv fU:=by kernel_rfl
theorem hc1(w:World)(os:OsState):seen ((recsOf qv).map (·.name)) (ownsOf qv) [] {sF w os with gens:=#[]}=expectedOf qv:=by kernel_rfl
noncomputable def kAs:List Nat:=[2,3,27,28,29,35,36,42,43,45,46,59,60,71,77,78,84,85,87,88,103,104,110,111,113,114,122,123,136,137,138,144,145,146,152,153,154,160,161,167,168,174,175,181,182,184,185,202,203,205,206,223,224,226,227,238,239,250,251,261,267,268,270,271,282,283,294,295,306,307,318,319,330,331,342,343,354,355,366,367,378,379,390,391,402,403,414,415,430,431,433,434,449,450,452,453,468,469,471,472,482,488,489,491,492,503,504,519,520,522,523,531,542,543,544,545,551,552,558,559,565,566,572,573,579,580,586,587,593,594,600,601,607,608,614,615,621,622,628,629,635,636,642,643,649,650,656,657,663,664,670,671,677,678,684,685,691,692,698,699,705,706,712,713,719,720,726,727,733,734,740,741,747,748,754,755,761,762,768,769,775,776,782,783,789,790,796,797,803,804,810,811,817,818,824,825,831,832,838,839,845,846,852,853,859,860,866,867,873,874,880,881,887,888,894,895,901,902,908,909,915,916,922,923,929,930,936,937,943,944,950,951,957,958,964,965,971,972,981,982,988,989,995,996,1002,1003,1009,1010,1016,1017,1023,1024,1030,1031,1037,1038,1040,1041,1044,1045,1046,1047,1048,1049,1050,1051,1052,1053,1059,1060,1066,1067,1073,1074,1078,1079,1085,1086,1092,1093,1099,1100,1104,1105]
noncomputable def Bg(P:Params):BT:=rX 12 (Dj 46 P)
noncomputable def KK(P:Params):Frag:=kAs.map fun i=>(i,((Bg P).get i).getD default)
theorem BN(P:Params):kAs=(KK P).map (·.1):=by kernel_rfl
noncomputable abbrev lJ:Hook:=kHook KK kAs BN
noncomputable abbrev xtK(s:Shared):Bool:=xlAt qv [] s&&recOk (RowW.records rw_qm0003_04.row.toRowW) s
theorem xt1(w:World)(os:OsState):xtK (sF w os)=true:=by kernel_rfl
noncomputable def Qi(P:Params)(a:Nat):Bool:=Nat.blt a 1106&&(match (Bg P).get a with
 | some o=>(alive o).isSome
 | none=>false)
theorem BM(P:Params):kAs.all (Qi P)=true:=by kernel_rfl
theorem at_k{P:Params}{a:Nat}(h:Qi P a=true):(H1 P).get? a=some (((Bg P).get a).getD default):=by
 unfold Qi at h;rw[Bool.and_eq_true] at h;have h1:=h.2;unfold H1;show (absHeap (Bg P) 1106 {}).get? a=_
 cases e:(Bg P).get a with
 | none=>rw[e] at h1;cases h1
 | some o=>
  rw[e] at h1;rw[abs_get (eQ h.1) e];unfold alive at h1 ⊢;obtain⟨c,d,dt,sl⟩:=o
  cases dt<;>first|rfl|cases h1
theorem yf1(w:World)(os:OsState):lJ.obs (sF w os)=lJ.val w:=by
 show kAs.map (H1 w.params).get? = (KK w.params).map fun p=>some p.2;unfold KK;rw[List.map_map];exact List.map_congr_left fun a m=>at_k (List.all_eq_true.mp (BM w.params) a m)
theorem Jh{q:Program}{loose mods:List Str}{Xt:Shared→Bool}{s:Shared}(h1:seen ((recsOf q).map (·.name)) (ownsOf q) [] {s with gens:=#[]}=expectedOf q)(h2:s.heap.bltView=bltViewBooted)
  (h3:(s.heap.keysOk (looseW q loose) ((recsOf q).map (·.name)) ((litsOf q).map (·.1)) ((clssOf q (looseW q loose)).map (·.name)))=true) (h3b:(s.heap.accountedOkI mods&&s.heap.isNs mainGlobals&&s.heap.isNs builtinsNs&&tablesOk q s.heap)=true) (hx:Xt s=true) (hg:(s.gens.size==0)=true)
  (h4:tabsOk q s=true) (h5:pinSeenD q (drecsOf q) s=pinGoodD (drecsOf q)) (h6:plainSeenE q (looseW q loose) s=plainGoodE q (looseW q loose)) (h7:plainSeenD q loose s=plainGoodD q loose) (h8:wideSeen q s=wideGood q) (h9:clsSeenW q loose s=clsGoodW q loose) :
  openSeen q loose mods Xt true s=openGood q loose:=by
 unfold openSeen openGood
 have h3c:(s.heap.keysOk (looseW q loose) ((recsOf q).map (·.name)) ((litsOf q).map (·.1)) ((clssOf q (looseW q loose)).map (·.name))&&s.heap.accountedOkI mods&&s.heap.isNs mainGlobals&&s.heap.isNs builtinsNs&&tablesOk q s.heap&&Xt s&&(if true then s.gens.size==0 else !leftWithCleanup s.gens))=true:=by
  simp only[Bool.and_eq_true] at h3b ⊢;exact⟨⟨⟨⟨⟨⟨h3,h3b.1.1.1⟩,h3b.1.1.2⟩,h3b.1.2⟩,h3b.2⟩,hx⟩,hg⟩
 rw[h1,h2,h3c,h4,h5,h6,h7,h8,h9]
theorem Nm(w:World)(os:OsState):openSeen qv fU (importedModules pw_qm0003_04.main.body) xtK true (sF w os)=openGood qv fU:=
 Jh (hc1 w os) (hc2 w os) (c3a w os) (c3b w os) (xt1 w os) rfl (c4 w os) (c5 w os) (c6 w os) (c7 w os) (c8 w os) (c9 w os)
theorem and4{a b c d:Bool}(h:(a&&b&&d)=true)(h2:c=true):(a&&b&&c&&d)=true:=by
 subst h2;revert h
 cases a<;>cases b<;>cases d<;>simp
theorem Kc(w:World)(os:OsState):(staticsOk (importedModules pw_qm0003_04.main.body) (boot_heap w.params) (H1 w.params)&&namesBound pw_qm0003_04 (H1 w.params)&&gensDone (sF w os)&&laidKept (boot_heap w.params) (H1 w.params))=true:=and4 (lk1 w) (lk1b w os)
theorem left:LeftO pw_qm0003_04 qv fU xtK lJ.obs lJ.val 10647:=
 LeftO.of_pieces (M:=10647) opn szo Up rfl fun w=>funext fun os=>Prod.ext (Kc w os) (Prod.ext (Nm w os) (yf1 w os))
theorem z1:sreFenced pw_qm0003_04.main=true:=by kernel_rfl
theorem z2:((moduleNames pw_qm0003_04.main.body).isEmpty||lookedIntoSs (moduleNames pw_qm0003_04.main.body) pw_qm0003_04.main.body)=true:=by kernel_rfl
theorem z3:namesResolve pw_qm0003_04=true:=(congrFun Fast.te8377067652309620493 _).trans (by kernel_rfl)
theorem z4:pw_qm0003_04.boundNames.all (fun n=>!worldNames.contains n)=true:=by kernel_rfl
theorem z5a:(["vars", "dir", "locals"]:List Str).filter (readsOut pw_qm0003_04 pw_qm0003_04.main.body)=[]:=by kernel_rfl
theorem z5b:(!(importedModules pw_qm0003_04.main.body).all cThrough.contains)=false:=by kernel_rfl
theorem z5c:noRoadLSs {strict:=false,foot:=none,bare:=[]} (pw_qm0003_04.main.body.take 33)=true:=(congrFun (congrFun Fast.te8326940854005059898 _) _).trans (by kernel_rfl)
theorem z5d:noRoadLSs {strict:=false,foot:=none,bare:=[]} ((pw_qm0003_04.main.body.drop 33).take 1)=true:=(congrFun (congrFun Fast.te8326940854005059898 _) _).trans (by kernel_rfl)
theorem z5e:noRoadLSs {strict:=false,foot:=none,bare:=[]} (pw_qm0003_04.main.body.drop 34)=true:=(congrFun (congrFun Fast.te8326940854005059898 _) _).trans (by kernel_rfl)
theorem z6:(namesMeet pw_qm0003_04 pw_qm0003_04.main.body fun _ n=>attrL n)=true:=(congrFun (congrFun (congrFun Fast.te17119622794617984870 _) _) _).trans (by kernel_rfl)
theorem Ai{lk:Look}{a b:List Stmt}(ha:noRoadLSs lk a=true)(hb:noRoadLSs lk b=true):noRoadLSs lk (a++b)=true:=by
 induction a with
 | nil=>exact hb
 | cons s a ih=>
  have ha:(noRoadLS lk s&&noRoadLSs lk a)=true:=ha;rw[Bool.and_eq_true] at ha;show (noRoadLS lk s&&noRoadLSs lk (a++b))=true;rw[ha.1,ih ha.2];rfl
theorem z5:noRoadLSs {strict:=!(importedModules pw_qm0003_04.main.body).all cThrough.contains,foot:=none,bare:=(["vars", "dir", "locals"]:List Str).filter (readsOut pw_qm0003_04 pw_qm0003_04.main.body)} pw_qm0003_04.main.body=true:=by
 rw[z5a,z5b]
 have e:pw_qm0003_04.main.body=pw_qm0003_04.main.body.take 33++((pw_qm0003_04.main.body.drop 33).take 1++pw_qm0003_04.main.body.drop 34):=by
  rw[show pw_qm0003_04.main.body.drop 34=(pw_qm0003_04.main.body.drop 33).drop 1 from by rw[List.drop_drop],List.take_append_drop,List.take_append_drop]
 rw[e];exact Ai z5c (Ai z5d z5e)
theorem GE:looksOpen pw_qm0003_04=true:=by
 unfold looksOpen;exact look_both (look_both (look_both (look_both (look_both z1 z2) z3) z4) z5) z6
theorem FP:rw_qm0003_04.row.partSaid=true:=by
 unfold OpenRow.partSaid
 iterate 13 (refine look_both ?_ ?_)
 ·exact GE
 all_goals kernel_rfl
theorem row1:rw_qm0003_04.row.wellSaid=true:=by
 unfold OpenRow.wellSaid
 iterate 2 (refine look_both ?_ ?_)
 ·exact FP
 all_goals kernel_rfl
theorem FG:rw_qm0003_04.wellSaid=true:=by
 unfold OpenLaw.wellSaid
 iterate 18 (refine look_both ?_ ?_)
 ·exact row1
 all_goals kernel_rfl
theorem EQ(call:∀(d:DefRec) (kwd:List (Str×Expr)),defOf qv rw_qm0003_04.row.name=some (d,kwd)→WalkO qv fU (XL qv []) lJ.says rw_qm0003_04.row.toRowW d kwd fun f vs=>PySem.call f vs):rw_qm0003_04.Holds:=by
 refine holds_law FG fun said=>?_;refine holds_open (q:=qv) (loose:=fU) (Xt:=xtK) (XP:=XL qv []) (Yf:=lJ.obs) (Ya:=lJ.val) (YP:=lJ.says) (N:=10647) left lJ.of lJ.keeps (fun s e=>xl_of s (Bool.and_eq_true_iff.mp e).1) XL.keeps (by rfl) (by rfl) (by rfl) (fun s e=>recFacts_of (Bool.and_eq_true_iff.mp e).2) (by rfl) said (by decide +kernel) ⟨rfl,rfl,rfl,rfl,rfl,by decide +kernel⟩ ?hw (call _ _ (by rfl))
 w_witness2
end
section
open PySem.Calls PyProof.Rows PySem.Challenge
noncomputable abbrev Dn:=Scope×fM×List Stmt
noncomputable def qD(e:PySem.Expr):V:=match e with
 | .Constant c _ _=>(En c).getD .any
 | .Tuple [] _ _=>.tup []
 | _=>.any
noncomputable def DM(e:PySem.Expr):V:=match e with
 | .Tuple [a,.List l _] _ _=>.tup [qD a,.lst (l.map qD)]
 | e=>qD e
noncomputable def DN(e:PySem.Expr):V:=match e with
 | .List es _=>.lst (es.map DM)
 | e=>qD e
noncomputable def DL:Stmt→Dn
 | .FunctionDef _ a b _ _ _ sc _ _ _=>(sc,((a.args.map (·.arg)).drop 1,((a.args.map (·.arg)).drop (a.args.length-a.defaults.length)).zip (a.defaults.map qD)),b)
 | _=>default
noncomputable def oR(k:Nat)(x:Str):List Stmt→Dn
 | []=>default
 | s::r=>match s with
  | .FunctionDef n a b _ _ _ sc _ _ _=>match decide (n=x) with
   | true=>(sc,((a.args.map (·.arg)).drop k,((a.args.map (·.arg)).drop (a.args.length-a.defaults.length)).zip (a.defaults.map qD)),b)
   | false=>oR k x r
  | _=>oR k x r
noncomputable def rU(x:Str):List Stmt→V
 | []=>.any
 | s::r=>match s with
  | .Assign ts e _=>match decide (((one ts).bind cR)=some x) with
   | true=>DN e
   | false=>rU x r
  | _=>rU x r
noncomputable def Hf(i:Nat):List Stmt:=match (cI.drop i).headD default with
 | .ClassDef _ _ _ b _ _ _ _ _ _ _=>b
 | _=>[]
noncomputable def vI:List Stmt:=Hf 33
noncomputable def sU:List Stmt:=Hf 7
noncomputable def ixA(a:Nat):Nat:=cond (Nat.ble a 200) ((a-137) / 7) ((a-545) / 7+cond (Nat.ble a 975) 0 2)
noncomputable def oS(a:Addr)(b:List Stmt):Dn:=DL ((b.drop (ixA a)).headD default)
noncomputable def AR:List (Str×Addr):=[(nm [99,104,101,99,107,95,116,111,107,101,110],552),(nm [112,101,101,107,95,116,111,107,101,110],559),(nm [103,101,116,95,116,111,107,101,110],566),(nm [110,101,101,100,95,109,111,114,101,95,116,111,107,101,110,115],573),(nm [102,101,116,99,104,95,109,111,114,101,95,116,111,107,101,110,115],580),(nm [110,101,120,116,95,112,111,115,115,105,98,108,101,95,115,105,109,112,108,101,95,107,101,121],587),(nm [115,116,97,108,101,95,112,111,115,115,105,98,108,101,95,115,105,109,112,108,101,95,107,101,121,115],594),(nm [115,97,118,101,95,112,111,115,115,105,98,108,101,95,115,105,109,112,108,101,95,107,101,121],601),(nm [114,101,109,111,118,101,95,112,111,115,115,105,98,108,101,95,115,105,109,112,108,101,95,107,101,121],608),(nm [117,110,119,105,110,100,95,105,110,100,101,110,116],615),(nm [97,100,100,95,105,110,100,101,110,116],622),(nm [102,101,116,99,104,95,115,116,114,101,97,109,95,115,116,97,114,116],629),(nm [102,101,116,99,104,95,115,116,114,101,97,109,95,101,110,100],636),(nm [102,101,116,99,104,95,100,105,114,101,99,116,105,118,101],643),(nm [102,101,116,99,104,95,100,111,99,117,109,101,110,116,95,115,116,97,114,116],650),(nm [102,101,116,99,104,95,100,111,99,117,109,101,110,116,95,101,110,100],657)]
noncomputable def AQ:List (Str×Addr):=[(nm [102,101,116,99,104,95,100,111,99,117,109,101,110,116,95,105,110,100,105,99,97,116,111,114],664),(nm [102,101,116,99,104,95,102,108,111,119,95,115,101,113,117,101,110,99,101,95,115,116,97,114,116],671),(nm [102,101,116,99,104,95,102,108,111,119,95,109,97,112,112,105,110,103,95,115,116,97,114,116],678),(nm [102,101,116,99,104,95,102,108,111,119,95,99,111,108,108,101,99,116,105,111,110,95,115,116,97,114,116],685),(nm [102,101,116,99,104,95,102,108,111,119,95,115,101,113,117,101,110,99,101,95,101,110,100],692),(nm [102,101,116,99,104,95,102,108,111,119,95,109,97,112,112,105,110,103,95,101,110,100],699),(nm [102,101,116,99,104,95,102,108,111,119,95,99,111,108,108,101,99,116,105,111,110,95,101,110,100],706),(nm [102,101,116,99,104,95,102,108,111,119,95,101,110,116,114,121],713),(nm [102,101,116,99,104,95,98,108,111,99,107,95,101,110,116,114,121],720),(nm [102,101,116,99,104,95,107,101,121],727),(nm [102,101,116,99,104,95,118,97,108,117,101],734),(nm [102,101,116,99,104,95,97,108,105,97,115],741),(nm [102,101,116,99,104,95,97,110,99,104,111,114],748),(nm [102,101,116,99,104,95,116,97,103],755),(nm [102,101,116,99,104,95,108,105,116,101,114,97,108],762),(nm [102,101,116,99,104,95,98,108,111,99,107,95,115,99,97,108,97,114],776)]
noncomputable def AP:List (Str×Addr):=[(nm [102,101,116,99,104,95,115,105,110,103,108,101],783),(nm [102,101,116,99,104,95,100,111,117,98,108,101],790),(nm [102,101,116,99,104,95,102,108,111,119,95,115,99,97,108,97,114],797),(nm [102,101,116,99,104,95,112,108,97,105,110],804),(nm [99,104,101,99,107,95,100,105,114,101,99,116,105,118,101],811),(nm [99,104,101,99,107,95,100,111,99,117,109,101,110,116,95,115,116,97,114,116],818),(nm [99,104,101,99,107,95,100,111,99,117,109,101,110,116,95,101,110,100],825),(nm [99,104,101,99,107,95,98,108,111,99,107,95,101,110,116,114,121],832),(nm [99,104,101,99,107,95,107,101,121],839),(nm [99,104,101,99,107,95,118,97,108,117,101],846),(nm [99,104,101,99,107,95,112,108,97,105,110],853),(nm [115,99,97,110,95,116,111,95,110,101,120,116,95,116,111,107,101,110],860),(nm [115,99,97,110,95,100,105,114,101,99,116,105,118,101],867),(nm [115,99,97,110,95,100,105,114,101,99,116,105,118,101,95,110,97,109,101],874),(nm [115,99,97,110,95,100,105,114,101,99,116,105,118,101,95,105,103,110,111,114,101,100,95,108,105,110,101],916),(nm [115,99,97,110,95,97,110,99,104,111,114],923)]
noncomputable def AO:List (Str×Addr):=[(nm [115,99,97,110,95,116,97,103],930),(nm [115,99,97,110,95,98,108,111,99,107,95,115,99,97,108,97,114],937),(nm [115,99,97,110,95,98,108,111,99,107,95,115,99,97,108,97,114,95,105,110,100,105,99,97,116,111,114,115],944),(nm [115,99,97,110,95,98,108,111,99,107,95,115,99,97,108,97,114,95,105,103,110,111,114,101,100,95,108,105,110,101],951),(nm [115,99,97,110,95,98,108,111,99,107,95,115,99,97,108,97,114,95,105,110,100,101,110,116,97,116,105,111,110],958),(nm [115,99,97,110,95,98,108,111,99,107,95,115,99,97,108,97,114,95,98,114,101,97,107,115],965),(nm [115,99,97,110,95,102,108,111,119,95,115,99,97,108,97,114],972),(nm [115,99,97,110,95,102,108,111,119,95,115,99,97,108,97,114,95,110,111,110,95,115,112,97,99,101,115],982),(nm [115,99,97,110,95,102,108,111,119,95,115,99,97,108,97,114,95,115,112,97,99,101,115],989),(nm [115,99,97,110,95,102,108,111,119,95,115,99,97,108,97,114,95,98,114,101,97,107,115],996),(nm [115,99,97,110,95,112,108,97,105,110],1003),(nm [115,99,97,110,95,112,108,97,105,110,95,115,112,97,99,101,115],1010),(nm [115,99,97,110,95,116,97,103,95,104,97,110,100,108,101],1017),(nm [115,99,97,110,95,116,97,103,95,117,114,105],1024),(nm [115,99,97,110,95,108,105,110,101,95,98,114,101,97,107],1038)]
noncomputable def Gb:List (Str×Addr):=AR++AQ++AP++AO
noncomputable def Gc:List (Str×Addr):=[(nm [112,101,101,107],145),(nm [112,114,101,102,105,120],153),(nm [102,111,114,119,97,114,100],161),(nm [103,101,116,95,109,97,114,107],168),(nm [117,112,100,97,116,101],182)]
noncomputable def As(b:List Stmt):List (Str×Addr)→List (Str×Dn)
 | []=>[]
 | p::r=>(p.1,oS p.2 b)::As b r
noncomputable def Aj:List (Str×Addr×Nat×Addr):=[("Mark", 46,1,28),("DirectiveToken", 227,10,224),("DocumentStartToken", 239,9,203),("DocumentEndToken", 251,9,203),("StreamStartToken", 271,13,268),("StreamEndToken", 283,9,203),("BlockSequenceStartToken", 295,9,203),("BlockMappingStartToken", 307,9,203),("BlockEndToken", 319,9,203),("FlowSequenceStartToken", 331,9,203),("FlowMappingStartToken", 343,9,203),("FlowSequenceEndToken", 355,9,203),("FlowMappingEndToken", 367,9,203),("KeyToken", 379,9,203),("ValueToken", 391,9,203),("BlockEntryToken", 403,9,203),("FlowEntryToken", 415,9,203),("AliasToken", 434,26,431),("AnchorToken", 453,27,450),("TagToken", 472,28,469),("ScalarToken", 492,29,489),("SimpleKey", 523,32,520)]
noncomputable def Mc:List (Nat×Addr):=[(10,227),(11,239),(12,251),(13,271),(14,283),(15,295),(16,307),(17,319),(18,331),(19,343),(20,355),(21,367),(22,379),(23,391),(24,403),(25,415),(26,434),(27,453),(28,472),(29,492)]
noncomputable def lH(i:Nat):Dn:=oR 1 "__init__" (Hf i)
noncomputable def GD:List (Nat×fM):=Aj.map fun q=>(q.2.1,(lH q.2.2.1).2.1)
noncomputable def HK:List (Nat×fM):=[(504,(lH 3).2.1)]
noncomputable def Sh:List (Nat×List (Str×V)):=Mc.map fun q=>(q.2,[(("id" : Str),rU "id" (Hf q.1))])
noncomputable def pI:List Str:=[fN0,fN1,fN2,fN3,fN4,fN5,fN6,fN7,fN8,fN9,CK,CJ,CI,CH,CG,CF,CE,CD,CC,CB]
noncomputable def Sz:List (Nat×List Str):=(1041,pI)::(46,["index"])::(523,["token_number", "required", "index", "line", "column", "mark"])::Mc.map fun q=>(q.2,["id", "start_mark", "end_mark", "value", "plain", "style"])
noncomputable def Qk:List (Str×V):=(Aj.map fun q=>(q.1,V.cls q.2.1))++[(("ScannerError" : Str),.cls 504),(("Scanner" : Str),.cls 1041),(("_law_HEADS" : Str),rU "_law_HEADS" cI),(("_law_SIGNS" : Str),rU "_law_SIGNS" cI),(("_law_ENDS" : Str),rU "_law_ENDS" cI)]
noncomputable def FV:List (Nat×Nat):=Mc.flatMap fun c=>([492,434,453,472]:List Nat).filterMap fun d=>cV (!Nat.beq c.2 d) (c.2,d)
noncomputable def TT(N:Nat):Tb:=⟨Qk,GD,HK,Sh,Sz,[(504,["problem_mark"])],1041,fun l=>Nat.beq l 953,FV,N,As vI Gb++As sU Gc⟩
end
noncomputable abbrev Res.go(r:Res)(k:V→Sc→Res):Res:=r.on k .err .bad
noncomputable def kH(m:Str):Dn:=(look m (TT 0).mths).getD default
noncomputable def br:PySem.Stmt→Nat→List PySem.Stmt
 | .While _ b _ _,_=>b
 | .For _ _ b _ _,_=>b
 | .If _ a b _,i=>match i with
  | 0=>a
  | _=>b
 | .Try b _ _ _ _,_=>b
 | _,_=>[]
noncomputable def stm(i:Nat)(l:List PySem.Stmt):PySem.Stmt:=(l.drop i).headD default
noncomputable def lS:List (Nat×Nat)→List PySem.Stmt→List PySem.Stmt
 | [],l=>l
 | p::r,l=>lS r (br (stm p.1 l) p.2)
noncomputable abbrev OO(N:Nat)(f:Str→MFn):Orc:=(TT N).mo f
noncomputable def XR(N:Nat)(f:Str→MFn)(m:Str)(w:List (Nat×Nat))(i:Nat)(st:St):R Fl:=(evN (OO N f) (60-2*w.length)).execs (kH m).1 ((lS w (kH m).2.2).drop i) st
noncomputable abbrev X(N:Nat)(f:Str→MFn)(m:Str)(w:List (Nat×Nat))(i:Nat)(st:St)(k:Fl→St→Res):Res:=XR N f m w i st Res k (fun e _=>.err e) .bad
noncomputable def Cq:PySem.Stmt→PySem.Expr
 | .While t _ _ _=>t
 | _=>default
noncomputable def LP(N:Nat)(f:Str→MFn)(m:Str)(w:List (Nat×Nat))(i n:Nat)(ks:List Str)(st:St)(k:Fl→St→Res):Res:=
 tJ n ((evN (OO N f) (58-2*w.length)).test (kH m).1 (Cq (stm i (lS w (kH m).2.2)))) (fun s=>R.keep ks ((evN (OO N f) (58-2*w.length)).execs (kH m).1 (br (stm i (lS w (kH m).2.2)) 0) s)) st Res k (fun e _=>.err e) .bad
noncomputable def bB(f:Fl)(st:St):Res:=onO (toS st.flds) (fun S=>.ok (xK f) S) .bad
noncomputable abbrev s0(l:List (Str×V))(S:Sc):St:=⟨(("self" : Str),Slot.self)::fN l,mkF S,true⟩
noncomputable abbrev tx(N:Nat)(f:Str→MFn)(m:Str)(args:List V)(S:Sc):Res:=(TT N).text f m args [] S
section
variable(N:Nat)(f:Str→MFn)(S:Sc)
theorem Rb(k:V):tx N f "update" [k] S = .ok .none S:=by kernel_rfl
theorem CW(k:Int):tx N f "peek" [.int k] S=onO (dN (.str S.text) (.int (S.ptr+k))) (fun v=>.ok v S) .bad:=by kernel_rfl
theorem Wt:tx N f "peek" [] S=onO (dN (.str S.text) (.int (S.ptr+0))) (fun v=>.ok v S) .bad:=by kernel_rfl
end
section
noncomputable abbrev O1{α:Type}(o:Option α)(k:α→Res):Res:=onO o k .bad
noncomputable abbrev T:=Sc→(Bool→Sc→Res)→Res
noncomputable abbrev tC(o:Option Bool):T:=fun S K=>onO o (fun b=>K b S) .bad
noncomputable abbrev tB(b:Bool):T:=fun S K=>K b S
noncomputable abbrev tM(r:Sc→Res):T:=fun S K=>(r S).go fun v S=>onO (cF v) (fun b=>K b S) .bad
noncomputable abbrev tP(r:Sc→Res)(g:V→Option Bool):T:=fun S K=>(r S).go fun v S=>onO (g v) (fun b=>K b S) .bad
noncomputable abbrev gO(A B:T):T:=fun S K=>A S fun a S=>onB (!a) (K a S) (B S fun b S=>onB (!b) (K b S) (K true S))
noncomputable abbrev tOr(A B:T):T:=fun S K=>A S fun a S=>onB a (K a S) (B S fun b S=>onB b (K b S) (K false S))
noncomputable abbrev tIf(A:T)(S:Sc)(x y:Sc→Res):Res:=A S fun b S=>onB b (x S) (y S)
set_option backward.match.sparseCases true in
noncomputable def pN(fl:Fl)(st:St)(r:R Fl):R Fl:=match fl with
 | .next=>r
 | f=>R.ok f st
noncomputable abbrev nxt(N:Nat)(f:Str→MFn)(m:Str)(w:List (Nat×Nat))(i:Nat)(K:Fl→St→Res):Fl→St→Res:=fun fl st=>pN fl st (XR N f m w i st) Res K (fun e _=>.err e) .bad
noncomputable abbrev vs(s:Str):V:=.str s.cps.toList
noncomputable abbrev ok0(S:Sc):Res:=.ok .none S
noncomputable def mkV(S:Sc):V:=.obj 46 [("name", .str lW),("index", .int S.idx),("line", .int S.line),("column", .int S.col),("buffer", .str S.text),("pointer", .int S.ptr)]
noncomputable def fO(c:Nat)(a b:V):V:=.obj c [("start_mark", a),("end_mark", b)]
noncomputable abbrev cN(S:Sc)(v:V)(k:Sc→Res):Res:=onB (Nat.ble (S.toks++[v]).length aO) (k {S with toks:=S.toks++[v]}) .bad
noncomputable def nF(a b c d:V):V:=.exc 504 [("context", a),("context_mark", b),("problem", c),("problem_mark", d),("note", .none)]
variable(N:Nat)(f:Str→MFn)(S:Sc)
theorem Rh(k:Int):tx N f "prefix" [.int k] S=onB (decide ((S.text.length:Int)≤S.ptr+k)) ((f "update" [.int k] [] S).go fun _ S=>.ok (.str (cS S.text (some S.ptr) (some (S.ptr+k)))) S) (.ok (.str (cS S.text (some S.ptr) (some (S.ptr+k)))) S):=by kernel_rfl
theorem Le(k:Int):tx N f "forward" [.int k] S=onB (decide ((S.text.length:Int)≤S.ptr+k+1)) ((f "update" [.int (k+1)] [] S).go fun _ S=>X N f "forward" [] 1 (s0 [("length", .int k)] S) bB) (X N f "forward" [] 1 (s0 [("length", .int k)] S) bB):=by kernel_rfl
theorem Ej:tx N f "forward" [] S=tx N f "forward" [.int 1] S:=by kernel_rfl
theorem Hu(k:Int)(K:Fl→St→Res):X N f "forward" [] 1 (s0 [("length", .int k)] S) K=LP N f "forward" [] 1 N ["self", "length"] (s0 [("length", .int k)] S) (nxt N f "forward" [] 2 K):=by kernel_rfl
theorem vQ(n:Nat)(k:Int)(K:Fl→St→Res):LP N f "forward" [] 1 (n+1) ["self", "length"] (s0 [("length", .int k)] S) K=onB (!decide (k=0))
 (O1 (dN (.str S.text) (.int S.ptr)) fun ch=>tOr (tC (aG .In ch (vs "\n\u0085\u2028\u2029"))) (gO (tC (aG .Eq ch (vs "\r"))) fun S K=>O1 (dN (.str S.text) (.int S.ptr)) fun d=>tC (aG .NotEq d (vs "\n")) S K) {S with ptr:=S.ptr+1,idx:=S.idx+1} fun b S=>
  onB b (LP N f "forward" [] 1 n ["self", "length"] (s0 [("length", .int (k-1))] {S with line:=S.line+1,col:=0}) K)
   (O1 (aG .NotEq ch (vs "\ufeff")) fun b=>onB b (LP N f "forward" [] 1 n ["self", "length"] (s0 [("length", .int (k-1))] {S with col:=S.col+1}) K) (LP N f "forward" [] 1 n ["self", "length"] (s0 [("length", .int (k-1))] S) K)))
 (K .next (s0 [("length", .int k)] S)):=by kernel_rfl
theorem CX:tx N f "get_mark" [] S = .ok (mkV S) S:=by kernel_rfl
theorem Ei:tx N f "need_more_tokens" [] S=onB S.done (.ok (.bool false) S) (onB (!!bU S.toks) (.ok (.bool true) S) ((f "stale_possible_simple_keys" [] [] S).go fun _ S=>(f "next_possible_simple_key" [] [] S).go fun v S=>
 O1 (aG .Eq v (.int S.taken)) fun b=>onB b (.ok (.bool true) S) (ok0 S))):=by kernel_rfl
end
section
noncomputable abbrev sl(l:aL)(S:Sc):St:=⟨(("self" : Str),Slot.self)::l,mkF S,true⟩
noncomputable abbrev slF(l:aL)(S:Sc):St:=⟨(("self" : Str),Slot.self)::l,mkF S,false⟩
noncomputable def jZ:PySem.Stmt→PySem.Expr×List PySem.Stmt
 | .For t _ b _ _=>(t,b)
 | _=>default
noncomputable def LF(N:Nat)(f:Str→MFn)(m:Str)(w:List (Nat×Nat))(i:Nat)(ks:List Str)(l:List V)(st:St)(k:Fl→St→Res):Res:=
 eU (iR (evN (OO N f) (58-2*w.length)) (kH m).1 (jZ (stm i (lS w (kH m).2.2))).1 (jZ (stm i (lS w (kH m).2.2))).2 ks) l st Res k (fun e _=>.err e) .bad
noncomputable def LD(N:Nat)(f:Str→MFn)(m:Str)(w:List (Nat×Nat))(i:Nat)(ks:List Str)(l:List V)(st:St)(k:Fl→St→Res):Res:=
 eU (mZ (evN (OO N f) (58-2*w.length)) (kH m).1 (jZ (stm i (lS w (kH m).2.2))).1 (jZ (stm i (lS w (kH m).2.2))).2 ks) l st Res k (fun e _=>.err e) .bad
noncomputable abbrev c0(f:Str→MFn)(m:Str)(S:Sc)(k:V→Sc→Res):Res:=(f m [] [] S).go k
noncomputable abbrev c1(f:Str→MFn)(m:Str)(a:V)(S:Sc)(k:V→Sc→Res):Res:=(f m [a] [] S).go k
noncomputable abbrev at_(N:Nat)(f:Str→MFn)(v:V)(a:Str)(k:V→Res):Res:=O1 (eJ (OO N f) v a) k
variable(N:Nat)(f:Str→MFn)(S:Sc)
theorem Xd(c:V):tx N f "check_token" [c] S=LP N f "check_token" [] 0 N ["self", "choices"] (s0 [("choices", c)] S) (nxt N f "check_token" [] 1 bB):=by kernel_rfl
theorem Rn:tx N f "check_token" [] S=tx N f "check_token" [.tup []] S:=by kernel_rfl
theorem Vs(n:Nat)(c:V)(K:Fl→St→Res):LP N f "check_token" [] 0 (n+1) ["self", "choices"] (s0 [("choices", c)] S) K=c0 f "need_more_tokens" S fun v S=>O1 (cF v) fun b=>onB b (c0 f "fetch_more_tokens" S fun _ S=>
 LP N f "check_token" [] 0 n ["self", "choices"] (s0 [("choices", c)] S) K) (K .next (s0 [("choices", c)] S)):=by kernel_rfl
theorem Ws:tx N f "peek_token" [] S=LP N f "peek_token" [] 0 N ["self"] (s0 [] S) (nxt N f "peek_token" [] 1 bB):=by kernel_rfl
theorem Vr(n:Nat)(K:Fl→St→Res):LP N f "peek_token" [] 0 (n+1) ["self"] (s0 [] S) K=c0 f "need_more_tokens" S fun v S=>O1 (cF v) fun b=>onB b (c0 f "fetch_more_tokens" S fun _ S=>
 LP N f "peek_token" [] 0 n ["self"] (s0 [] S) K) (K .next (s0 [] S)):=by kernel_rfl
theorem HQ:tx N f "get_token" [] S=LP N f "get_token" [] 0 N ["self"] (s0 [] S) (nxt N f "get_token" [] 1 bB):=by kernel_rfl
theorem GL(n:Nat)(K:Fl→St→Res):LP N f "get_token" [] 0 (n+1) ["self"] (s0 [] S) K=c0 f "need_more_tokens" S fun v S=>O1 (cF v) fun b=>onB b (c0 f "fetch_more_tokens" S fun _ S=>
 LP N f "get_token" [] 0 n ["self"] (s0 [] S) K) (K .next (s0 [] S)):=by kernel_rfl
theorem Ld:tx N f "next_possible_simple_key" [] S=LD N f "next_possible_simple_key" [] 1 ["self", "min_token_number"] (S.keys.map fun p=>.int p.1) (slF [("min_token_number", .val .none)] S) (fun fl st=>nxt N f "next_possible_simple_key" [] 2 bB fl ⟨st.loc,st.flds,true⟩):=by kernel_rfl
theorem Hp(v:V)(K:Fl→St→Res):LD N f "next_possible_simple_key" [] 1 ["self", "min_token_number"] [] (slF [("min_token_number", .val v)] S) K=K .next (slF [("min_token_number", .val v)] S):=by kernel_rfl
theorem Km(i:Int)(l:List V)(v:V)(K:Fl→St→Res):LD N f "next_possible_simple_key" [] 1 ["self", "min_token_number"] (.int i::l) (slF [("min_token_number", .val v)] S) K=O1 (cX i S.keys) fun key=>
 tOr (tC (aG .Is v .none)) (fun S K=>at_ N f key "token_number" fun n=>tC (aG .Lt n v) S K) S fun b S=>
  onB b (at_ N f key "token_number" fun n=>LD N f "next_possible_simple_key" [] 1 ["self", "min_token_number"] l (slF [("min_token_number", .val n)] S) K) (LD N f "next_possible_simple_key" [] 1 ["self", "min_token_number"] l (slF [("min_token_number", .val v)] S) K):=by kernel_rfl
theorem Wp:tx N f "stale_possible_simple_keys" [] S=LF N f "stale_possible_simple_keys" [] 0 ["self"] (S.keys.map fun p=>.int p.1) (sl [] S) (nxt N f "stale_possible_simple_keys" [] 1 bB):=by kernel_rfl
theorem Tq(K:Fl→St→Res):LF N f "stale_possible_simple_keys" [] 0 ["self"] [] (sl [] S) K=K .next (sl [] S):=by kernel_rfl
noncomputable def Fx:V:=vs "could not find expected ':'"
theorem Vq(i:Int)(l:List V)(K:Fl→St→Res):LF N f "stale_possible_simple_keys" [] 0 ["self"] (.int i::l) (sl [] S) K=O1 (cX i S.keys) fun key=>
 tOr (fun S K=>at_ N f key "line" fun n=>tC (aG .NotEq n (.int S.line)) S K) (fun S K=>at_ N f key "index" fun n=>O1 (Mj (.int S.idx) n) fun d=>tC (aG .Gt d (.int 1024)) S K) S fun b S=>
  onB b (at_ N f key "required" fun r=>O1 (cF r) fun b=>onB b (at_ N f key "mark" fun m=>c0 f "get_mark" S fun e _=>.err (nF (vs "while scanning a simple key") m Fx e))
   (onB (cX i S.keys).isSome (LF N f "stale_possible_simple_keys" [] 0 ["self"] l (sl [] {S with keys:=nO i S.keys}) K) .bad)) (LF N f "stale_possible_simple_keys" [] 0 ["self"] l (sl [] S) K):=by kernel_rfl
end
section
variable(N:Nat)(f:Str→MFn)(S:Sc)
noncomputable def Vu(n req i l c m:V):V:=.obj 523 [("token_number", n),("required", req),("index", i),("line", l),("column", c),("mark", m)]
noncomputable abbrev c1r(f:Str→MFn)(m:Str)(a:V)(S:Sc)(k:Sc→Res):Res:=(f m [a] [] S).go fun _ S=>k S
noncomputable abbrev c0r(f:Str→MFn)(m:Str)(S:Sc)(k:Sc→Res):Res:=(f m [] [] S).go fun _ S=>k S
noncomputable abbrev Jk(f:Str→MFn)(m:Str)(S:Sc):Res:=(f m [] [] S).go fun v S=>.ok v S
noncomputable abbrev Lc(f:Str→MFn)(m:Str)(a:V)(S:Sc):Res:=(f m [a] [] S).go fun _ S=>ok0 S
theorem CV:tx N f "save_possible_simple_key" [] S=(fun K:V→Res=>onB (!!(!decide (S.flow=0))) (K (.bool (!(!decide (S.flow=0))))) (K (.bool (decide (S.indent=S.col))))) (fun req=>onB S.allow (c0r f "remove_possible_simple_key" S fun S=>c0 f "get_mark" S fun m S'=>
 onB (Nat.ble (S'.keys.length+1) aO) (ok0 {S' with keys:=sW S'.flow (Vu (.int (S.taken+(S.toks.length:Int))) req (.int S.idx) (.int S.line) (.int S.col) m) S'.keys}) .bad) (ok0 S)):=by kernel_rfl
theorem Rg:tx N f "remove_possible_simple_key" [] S=onB (cX S.flow S.keys).isSome (O1 (cX S.flow S.keys) fun key=>at_ N f key "required" fun r=>O1 (cF r) fun b=>onB b (at_ N f key "mark" fun m=>c0 f "get_mark" S fun e _=>.err (nF (vs "while scanning a simple key") m Fx e))
 (onB (cX S.flow S.keys).isSome (ok0 {S with keys:=nO S.flow S.keys}) .bad)) (ok0 S):=by kernel_rfl
theorem Rc(c:Int):tx N f "unwind_indent" [.int c] S=onB (!decide (S.flow=0)) (ok0 S) (LP N f "unwind_indent" [] 1 N ["self", "column"] (s0 [("column", .int c)] S) (nxt N f "unwind_indent" [] 2 bB)):=by kernel_rfl
theorem Pd(n:Nat)(c:Int)(K:Fl→St→Res):LP N f "unwind_indent" [] 1 (n+1) ["self", "column"] (s0 [("column", .int c)] S) K=onB (decide (c<S.indent)) (c0 f "get_mark" S fun m S=>O1 (iB S.inds) fun p=>
 onB (Nat.ble (S.toks++[fO 319 m m]).length aO) (LP N f "unwind_indent" [] 1 n ["self", "column"] ⟨[("self", .self),("column", .val (.int c))],put "indent" (.val p.2) (mkF {S with inds:=p.1,toks:=S.toks++[fO 319 m m]}),true⟩ K) .bad) (K .next (s0 [("column", .int c)] S)):=by kernel_rfl
theorem Rq(c:Int):tx N f "add_indent" [.int c] S=onB (decide (S.indent<c)) (onB (Nat.ble (S.inds++[V.int S.indent]).length aO) (.ok (.bool true) {S with inds:=S.inds++[V.int S.indent],indent:=c}) .bad) (.ok (.bool false) S):=by kernel_rfl
theorem CS:tx N f "fetch_stream_end" [] S=c1r f "unwind_indent" (.int (-1)) S fun S=>c0r f "remove_possible_simple_key" S fun S=>c0 f "get_mark" {S with allow:=false,keys:=[]} fun m S=>cN S (fO 283 m m) fun S=>ok0 {S with done:=true}:=by kernel_rfl
theorem IA:tx N f "fetch_directive" [] S=c1r f "unwind_indent" (.int (-1)) S fun S=>c0r f "remove_possible_simple_key" S fun S=>c0 f "scan_directive" {S with allow:=false} fun v S=>cN S v ok0:=by kernel_rfl
theorem Ri:tx N f "fetch_document_start" [] S=Lc f "fetch_document_indicator" (.cls 239) S:=by kernel_rfl
theorem DF:tx N f "fetch_document_end" [] S=Lc f "fetch_document_indicator" (.cls 251) S:=by kernel_rfl
noncomputable abbrev mT(f:Str→MFn)(S:Sc)(k:V→V→Sc→Res):Res:=c0 f "get_mark" S fun a S=>c0r f "forward" S fun S=>c0 f "get_mark" S fun b S=>k a b S
theorem Wy:tx N f "fetch_document_indicator" [.cls 239] S=c1r f "unwind_indent" (.int (-1)) S fun S=>c0r f "remove_possible_simple_key" S fun S=>c0 f "get_mark" {S with allow:=false} fun a S=>c1r f "forward" (.int 3) S fun S=>c0 f "get_mark" S fun b S=>cN S (fO 239 a b) ok0:=by kernel_rfl
theorem Wx:tx N f "fetch_document_indicator" [.cls 251] S=c1r f "unwind_indent" (.int (-1)) S fun S=>c0r f "remove_possible_simple_key" S fun S=>c0 f "get_mark" {S with allow:=false} fun a S=>c1r f "forward" (.int 3) S fun S=>c0 f "get_mark" S fun b S=>cN S (fO 251 a b) ok0:=by kernel_rfl
theorem HS:tx N f "fetch_flow_sequence_start" [] S=Lc f "fetch_flow_collection_start" (.cls 331) S:=by kernel_rfl
theorem HY:tx N f "fetch_flow_mapping_start" [] S=Lc f "fetch_flow_collection_start" (.cls 343) S:=by kernel_rfl
theorem DB:tx N f "fetch_flow_collection_start" [.cls 331] S=c0r f "save_possible_simple_key" S fun S=>mT f {S with flow:=S.flow+1,allow:=true} fun a b S=>cN S (fO 331 a b) ok0:=by kernel_rfl
theorem DA:tx N f "fetch_flow_collection_start" [.cls 343] S=c0r f "save_possible_simple_key" S fun S=>mT f {S with flow:=S.flow+1,allow:=true} fun a b S=>cN S (fO 343 a b) ok0:=by kernel_rfl
theorem HU:tx N f "fetch_flow_sequence_end" [] S=Lc f "fetch_flow_collection_end" (.cls 355) S:=by kernel_rfl
theorem HZ:tx N f "fetch_flow_mapping_end" [] S=Lc f "fetch_flow_collection_end" (.cls 367) S:=by kernel_rfl
theorem DD:tx N f "fetch_flow_collection_end" [.cls 355] S=c0r f "remove_possible_simple_key" S fun S=>mT f {S with flow:=S.flow-1,allow:=false} fun a b S=>cN S (fO 355 a b) ok0:=by kernel_rfl
theorem DC:tx N f "fetch_flow_collection_end" [.cls 367] S=c0r f "remove_possible_simple_key" S fun S=>mT f {S with flow:=S.flow-1,allow:=false} fun a b S=>cN S (fO 367 a b) ok0:=by kernel_rfl
theorem CZ:tx N f "fetch_flow_entry" [] S=c0r f "remove_possible_simple_key" {S with allow:=true} fun S=>mT f S fun a b S=>cN S (fO 415 a b) ok0:=by kernel_rfl
noncomputable abbrev Yh(f:Str→MFn)(c:Nat)(msg:Str)(S:Sc)(k:Sc→Res):Res:=onB (!S.allow) (c0 f "get_mark" S fun e _=>.err (nF .none .none (vs msg) e)) (c1 f "add_indent" (.int S.col) S fun v S=>O1 (cF v) fun b=>onB b (c0 f "get_mark" S fun m S=>cN S (fO c m m) k) (k S))
theorem DG:tx N f "fetch_block_entry" [] S=(fun K:Sc→Res=>onB (!(!decide (S.flow=0))) (Yh f 295 "sequence entries are not allowed here" S K) (K S)) fun S=>c0r f "remove_possible_simple_key" {S with allow:=true} fun S=>mT f S fun a b S=>cN S (fO 403 a b) ok0:=by kernel_rfl
theorem HP:tx N f "fetch_key" [] S=(fun K:Sc→Res=>onB (!(!decide (S.flow=0))) (Yh f 307 "mapping keys are not allowed here" S K) (K S)) fun S=>c0r f "remove_possible_simple_key" {S with allow:=!(!decide (S.flow=0))} fun S=>mT f S fun a b S=>cN S (fO 379 a b) ok0:=by kernel_rfl
noncomputable abbrev Vx(N:Nat)(f:Str→MFn)(key:V)(c:Nat)(S:Sc)(k:Sc→Res):Res:=at_ N f key "token_number" fun n=>O1 (Mj n (.int S.taken)) fun i=>at_ N f key "mark" fun a=>at_ N f key "mark" fun b=>O1 (asInt i) fun i=>onB (Yi S.toks i) (onB (Nat.ble (Vy S.toks i (fO c a b)).length aO) (k {S with toks:=Vy S.toks i (fO c a b)}) .bad) .bad
theorem Wn:tx N f "fetch_value" [] S=(fun K:Sc→Res=>onB (cX S.flow S.keys).isSome (O1 (cX S.flow S.keys) fun key=>onB (cX S.flow S.keys).isSome (Vx N f key 379 {S with keys:=nO S.flow S.keys} fun S=>(fun J:Sc→Res=>onB (!(!decide (S.flow=0))) (at_ N f key "column" fun c=>c1 f "add_indent" c S fun v S=>O1 (cF v) fun b=>onB b (Vx N f key 307 S J) (J S)) (J S))
  fun S=>K {S with allow:=false}) .bad) ((fun J:Sc→Res=>onB (!(!decide (S.flow=0))) (onB (!S.allow) (c0 f "get_mark" S fun e _=>.err (nF .none .none (vs "mapping values are not allowed here") e)) (J S)) (J S)) fun S=>(fun J:Sc→Res=>onB (!(!decide (S.flow=0))) (c1 f "add_indent" (.int S.col) S fun v S=>O1 (cF v) fun b=>onB b (c0 f "get_mark" S fun m S=>cN S (fO 307 m m) J) (J S)) (J S))
  fun S=>c0r f "remove_possible_simple_key" {S with allow:=!(!decide (S.flow=0))} K)) fun S=>mT f S fun a b S=>cN S (fO 391 a b) ok0:=by kernel_rfl
noncomputable abbrev vJ(f:Str→MFn)(S:Sc)(k:Sc→Res):Res:=c0r f "save_possible_simple_key" S fun S=>k {S with allow:=false}
theorem Xg:tx N f "fetch_alias" [] S=vJ f S fun S=>c1 f "scan_anchor" (.cls 434) S fun v S=>cN S v ok0:=by kernel_rfl
theorem Rp:tx N f "fetch_anchor" [] S=vJ f S fun S=>c1 f "scan_anchor" (.cls 453) S fun v S=>cN S v ok0:=by kernel_rfl
theorem HN:tx N f "fetch_tag" [] S=vJ f S fun S=>c0 f "scan_tag" S fun v S=>cN S v ok0:=by kernel_rfl
theorem Wr:tx N f "fetch_plain" [] S=vJ f S fun S=>c0 f "scan_plain" S fun v S=>cN S v ok0:=by kernel_rfl
theorem Gx(y:V):tx N f "fetch_flow_scalar" [y] S=vJ f S fun S=>c1 f "scan_flow_scalar" y S fun v S=>cN S v ok0:=by kernel_rfl
theorem Xe(y:V):tx N f "fetch_block_scalar" [y] S=c0r f "remove_possible_simple_key" {S with allow:=true} fun S=>c1 f "scan_block_scalar" y S fun v S=>cN S v ok0:=by kernel_rfl
theorem HO:tx N f "fetch_literal" [] S=(f "fetch_block_scalar" [] [("style", vs "|")] S).go fun _ S=>ok0 S:=by kernel_rfl
theorem Rf:tx N f "fetch_single" [] S=(f "fetch_flow_scalar" [] [("style", vs "'")] S).go fun _ S=>ok0 S:=by kernel_rfl
theorem Rj:tx N f "fetch_double" [] S=(f "fetch_flow_scalar" [] [("style", vs "\"")] S).go fun _ S=>ok0 S:=by kernel_rfl
theorem Bw(y:V):(TT N).text f "fetch_flow_scalar" [] [("style", y)] S=tx N f "fetch_flow_scalar" [y] S:=by kernel_rfl
theorem Ro(y:V):(TT N).text f "fetch_block_scalar" [] [("style", y)] S=tx N f "fetch_block_scalar" [y] S:=by kernel_rfl
noncomputable abbrev zB:V:=vs "\x00 \t\r\n\u0085\u2028\u2029"
noncomputable abbrev zE:V:=vs "\x00\r\n\u0085\u2028\u2029"
noncomputable abbrev zF:V:=vs "\x00 \r\n\u0085\u2028\u2029"
noncomputable abbrev lB:V:=vs "\r\n\u0085\u2028\u2029"
theorem Rm:tx N f "check_directive" [] S=onB (decide (S.col=0)) (.ok (.bool true) S) (ok0 S):=by kernel_rfl
noncomputable abbrev pk(f:Str→MFn)(i:Int)(g:V→Option Bool):T:=tP (fun S=>f "peek" [.int i] [] S) g
noncomputable abbrev pk0(f:Str→MFn)(g:V→Option Bool):T:=tP (fun S=>f "peek" [] [] S) g
noncomputable abbrev pf(f:Str→MFn)(i:Int)(g:V→Option Bool):T:=tP (fun S=>f "prefix" [.int i] [] S) g
theorem Xa:tx N f "check_document_start" [] S=onB (decide (S.col=0)) (tIf (gO (pf f 3 fun v=>aG .Eq v (vs "---")) (pk f 3 fun v=>aG .In v zB)) S (fun S=>.ok (.bool true) S) ok0) (ok0 S):=by kernel_rfl
theorem Xb:tx N f "check_document_end" [] S=onB (decide (S.col=0)) (tIf (gO (pf f 3 fun v=>aG .Eq v (vs "...")) (pk f 3 fun v=>aG .In v zB)) S (fun S=>.ok (.bool true) S) ok0) (ok0 S):=by kernel_rfl
theorem Xc:tx N f "check_block_entry" [] S=c1 f "peek" (.int 1) S fun v S=>O1 (aG .In v zB) fun b=>.ok (.bool b) S:=by kernel_rfl
theorem Rl:tx N f "check_key" [] S=onB (!decide (S.flow=0)) (.ok (.bool true) S) (c1 f "peek" (.int 1) S fun v S=>O1 (aG .In v zB) fun b=>.ok (.bool b) S):=by kernel_rfl
theorem Rk:tx N f "check_value" [] S=onB (!decide (S.flow=0)) (.ok (.bool true) S) (c1 f "peek" (.int 1) S fun v S=>O1 (aG .In v zB) fun b=>.ok (.bool b) S):=by kernel_rfl
noncomputable abbrev zP:V:=vs "\x00 \t\r\n\u0085\u2028\u2029-?:,[]{}#&*!|>'\"%@`"
theorem Wz:tx N f "check_plain" [] S=c0 f "peek" S fun ch S=>O1 (aG .NotIn ch zP) fun b=>onB b (.ok (.bool b) S) (c1 f "peek" (.int 1) S fun d S=>O1 (aG .NotIn d zB) fun b=>onB (!b) (.ok (.bool b) S) (O1 (aG .Eq ch (vs "-")) fun b=>
 onB b (.ok (.bool b) S) (onB (!(!(!decide (S.flow=0)))) (.ok (.bool (!(!decide (S.flow=0)))) S) (O1 (aG .In ch (vs "?:")) fun b=>.ok (.bool b) S)))):=by kernel_rfl
noncomputable abbrev mB(f:Str→MFn)(ch:V)(x:Str)(m:Str)(S:Sc)(r:Sc→Res):Res:=O1 (aG .Eq ch (vs x)) fun b=>onB b (Jk f m S) (r S)
noncomputable abbrev mC(f:Str→MFn)(ch:V)(x:Str)(c m:Str)(S:Sc)(r:Sc→Res):Res:=tIf (gO (tC (aG .Eq ch (vs x))) (tM fun S=>f c [] [] S)) S (Jk f m) r
noncomputable abbrev mF(f:Str→MFn)(ch:V)(x:Str)(m:Str)(S:Sc)(r:Sc→Res):Res:=tIf (gO (tC (aG .Eq ch (vs x))) (fun S K=>K (!(!decide (S.flow=0))) S)) S (Jk f m) r
theorem Wu:tx N f "fetch_more_tokens" [] S=c0r f "scan_to_next_token" S fun S=>c0r f "stale_possible_simple_keys" S fun S=>c1r f "unwind_indent" (.int S.col) S fun S=>c0 f "peek" S fun ch S=>
 mB f ch "\x00" "fetch_stream_end" S fun S=>mC f ch "%" "check_directive" "fetch_directive" S fun S=>mC f ch "-" "check_document_start" "fetch_document_start" S fun S=>mC f ch "." "check_document_end" "fetch_document_end" S fun S=>
 mB f ch "[" "fetch_flow_sequence_start" S fun S=>mB f ch "{" "fetch_flow_mapping_start" S fun S=>mB f ch "]" "fetch_flow_sequence_end" S fun S=>mB f ch "}" "fetch_flow_mapping_end" S fun S=>mB f ch "," "fetch_flow_entry" S fun S=>
 mC f ch "-" "check_block_entry" "fetch_block_entry" S fun S=>mC f ch "?" "check_key" "fetch_key" S fun S=>mC f ch ":" "check_value" "fetch_value" S fun S=>mB f ch "*" "fetch_alias" S fun S=>mB f ch "&" "fetch_anchor" S fun S=>mB f ch "!" "fetch_tag" S fun S=>
 mF f ch "|" "fetch_literal" S fun S=>tIf (gO (tC (aG .Eq ch (vs ">"))) (fun S K=>K (!(!decide (S.flow=0))) S)) S (fun _=>.bad) fun S=>mB f ch "'" "fetch_single" S fun S=>mB f ch "\"" "fetch_double" S fun S=>tIf (tM fun S=>f "check_plain" [] [] S) S (Jk f "fetch_plain") fun S=>
 O1 (hE (.str mK) ch) fun m=>c0 f "get_mark" S fun e _=>.err (nF (vs "while scanning for the next token") .none m e):=by kernel_rfl
noncomputable abbrev mN:Str := "scan_to_next_token"
theorem Re:tx N f mN [] S=tIf (gO (tB (decide (S.idx=0))) (pk0 f fun v=>aG .Eq v (vs "\ufeff"))) S (fun S=>c0r f "forward" S fun S=>LP N f mN [] 2 N ["self", "found"] (s0 [("found", .bool false)] S) (nxt N f mN [] 3 bB)) fun S=>LP N f mN [] 2 N ["self", "found"] (s0 [("found", .bool false)] S) (nxt N f mN [] 3 bB):=by kernel_rfl
set_option backward.match.sparseCases true in
noncomputable def uX(fl:Fl)(st:St)(r:R Fl):R Fl:=match fl with
 | .brk=>R.ok .next st
 | .ret v=>R.ok (.ret v) st
 | _=>r
noncomputable abbrev aft(N:Nat)(f:Str→MFn)(m:Str)(w:List (Nat×Nat))(i n:Nat)(ks:List Str)(K:Fl→St→Res):Fl→St→Res:=fun fl st=>uX fl (st.keep ks) (tJ n ((evN (OO N f) (58-2*w.length)).test (kH m).1 (Cq (stm i (lS w (kH m).2.2)))) (fun s=>R.keep ks ((evN (OO N f) (58-2*w.length)).execs (kH m).1 (br (stm i (lS w (kH m).2.2)) 0) s)) (st.keep ks)) Res K (fun e _=>.err e) .bad
theorem Bf(n:Nat)(b:Bool)(K:Fl→St→Res):LP N f mN [] 2 (n+1) ["self", "found"] (s0 [("found", .bool b)] S) K=onB (!b) (X N f mN [(2,0)] 0 (s0 [("found", .bool b)] S) (aft N f mN [] 2 n ["self", "found"] K)) (K .next (s0 [("found", .bool b)] S)):=by kernel_rfl
theorem Hs(v:V)(K:Fl→St→Res):X N f mN [(2,0)] 0 (s0 [("found", v)] S) K=LP N f mN [(2,0)] 0 N ["self", "found"] (s0 [("found", v)] S) (nxt N f mN [(2,0)] 1 K):=by kernel_rfl
theorem Kk(n:Nat)(v:V)(K:Fl→St→Res):LP N f mN [(2,0)] 0 (n+1) ["self", "found"] (s0 [("found", v)] S) K=c0 f "peek" S fun ch S=>O1 (aG .Eq ch (vs " ")) fun b=>onB b (c0r f "forward" S fun S=>LP N f mN [(2,0)] 0 n ["self", "found"] (s0 [("found", v)] S) K) (K .next (s0 [("found", v)] S)):=by kernel_rfl
theorem Hr(v:V)(K:Fl→St→Res):X N f mN [(2,0)] 1 (s0 [("found", v)] S) K=c0 f "peek" S fun ch S=>O1 (aG .Eq ch (vs "#")) fun b=>onB b (LP N f mN [(2,0),(1,0)] 0 N ["self", "found"] (s0 [("found", v)] S) (nxt N f mN [(2,0),(1,0)] 1 (nxt N f mN [(2,0)] 2 K))) (X N f mN [(2,0)] 2 (s0 [("found", v)] S) K):=by kernel_rfl
theorem Kj(n:Nat)(v:V)(K:Fl→St→Res):LP N f mN [(2,0),(1,0)] 0 (n+1) ["self", "found"] (s0 [("found", v)] S) K=c0 f "peek" S fun ch S=>O1 (aG .NotIn ch zE) fun b=>onB b (c0r f "forward" S fun S=>LP N f mN [(2,0),(1,0)] 0 n ["self", "found"] (s0 [("found", v)] S) K) (K .next (s0 [("found", v)] S)):=by kernel_rfl
theorem Hq(v:V)(K:Fl→St→Res):X N f mN [(2,0)] 2 (s0 [("found", v)] S) K=c0 f "scan_line_break" S fun x S=>O1 (cF x) fun b=>onB b (onB (!(!decide (S.flow=0))) (K .next (s0 [("found", v)] {S with allow:=true})) (K .next (s0 [("found", v)] S))) (K .next (s0 [("found", .bool true)] S)):=by kernel_rfl
theorem Xf:tx N f "scan_line_break" [] S=c0 f "peek" S fun ch S=>O1 (aG .In ch (vs "\r\n\u0085")) fun b=>onB b (c1 f "prefix" (.int 2) S fun v S=>O1 (aG .Eq v (vs "\r\n")) fun b=>onB b (c1r f "forward" (.int 2) S fun S=>.ok (vs "\n") S) (c0r f "forward" S fun S=>.ok (vs "\n") S))
 (O1 (aG .In ch (vs "\u2028\u2029")) fun b=>onB b (c0r f "forward" S fun S=>.ok ch S) (.ok (.str []) S)):=by kernel_rfl
noncomputable abbrev mD:Str := "scan_directive"
noncomputable abbrev mDn:Str := "scan_directive_name"
noncomputable abbrev mDi:Str := "scan_directive_ignored_line"
noncomputable abbrev mAn:Str := "scan_anchor"
noncomputable abbrev mTg:Str := "scan_tag"
noncomputable abbrev mTh:Str := "scan_tag_handle"
noncomputable abbrev mTu:Str := "scan_tag_uri"
noncomputable abbrev uC(f:Str→MFn)(w mk:V)(msg:Str)(ch:V)(S:Sc):Res:=O1 (hE (vs msg) ch) fun m=>c0 f "get_mark" S fun e _=>.err (nF w mk m e)
noncomputable abbrev gS(a ch b:V):T:=fun S K=>O1 (aG .LtE a ch) fun c=>onB c (O1 (aG .LtE ch b) fun b=>K b S) (K false S)
noncomputable abbrev Ub(A B C D:T):T:=fun S K=>A S fun a S=>onB a (K a S) (B S fun b S=>onB b (K b S) (C S fun c S=>onB c (K c S) (D S fun d S=>onB d (K d S) (K false S))))
noncomputable abbrev lF(ch:V):T:=Ub (gS (vs "0") ch (vs "9")) (gS (vs "A") ch (vs "Z")) (gS (vs "a") ch (vs "z")) (tC (aG .In ch (vs "-_")))
theorem CU:tx N f mD [] S=c0 f "get_mark" S fun a S=>c0r f "forward" S fun S=>c1 f mDn a S fun x S=>O1 (aG .Eq x (vs "YAML")) fun b=>onB b .bad (O1 (aG .Eq x (vs "TAG")) fun b=>onB b .bad (c0 f "get_mark" S fun e S=>
 LP N f mD [(4,1),(0,1)] 1 N ["self", "start_mark", "name", "value", "end_mark"] (s0 [("start_mark", a),("name", x),("value", .none),("end_mark", e)] S) (nxt N f mD [(4,1),(0,1)] 2 (nxt N f mD [(4,1)] 1 (nxt N f mD [] 5 bB))))):=by kernel_rfl
theorem AY(n:Nat)(a x y e:V)(K:Fl→St→Res):LP N f mD [(4,1),(0,1)] 1 (n+1) ["self", "start_mark", "name", "value", "end_mark"] (s0 [("start_mark", a),("name", x),("value", y),("end_mark", e)] S) K=c0 f "peek" S fun ch S=>O1 (aG .NotIn ch zE) fun b=>
 onB b (c0r f "forward" S fun S=>LP N f mD [(4,1),(0,1)] 1 n ["self", "start_mark", "name", "value", "end_mark"] (s0 [("start_mark", a),("name", x),("value", y),("end_mark", e)] S) K) (K .next (s0 [("start_mark", a),("name", x),("value", y),("end_mark", e)] S)):=by kernel_rfl
theorem Zj(a x y e:V):X N f mD [] 5 (s0 [("start_mark", a),("name", x),("value", y),("end_mark", e)] S) bB=c1r f mDi a S fun S=>.ok (.obj 227 [("name", x),("value", y),("start_mark", a),("end_mark", e)]) S:=by kernel_rfl
theorem Zg(st:St)(K:Fl→St→Res):X N f mD [(4,1),(0,1)] 2 st (nxt N f mD [(4,1)] 1 K)=K .next st:=by kernel_rfl
theorem Ww(a:V):tx N f mDn [a] S=c1 f "peek" (.int 0) S fun ch S=>LP N f mDn [] 2 N ["self", "start_mark", "length", "ch"] (s0 [("start_mark", a),("length", .int 0),("ch", ch)] S) (nxt N f mDn [] 3 bB):=by kernel_rfl
theorem Gi(n:Nat)(a ch:V)(k:Int)(K:Fl→St→Res):LP N f mDn [] 2 (n+1) ["self", "start_mark", "length", "ch"] (s0 [("start_mark", a),("length", .int k),("ch", ch)] S) K=lF ch S fun b S=>onB b (c1 f "peek" (.int (k+1)) S fun ch S=>LP N f mDn [] 2 n ["self", "start_mark", "length", "ch"] (s0 [("start_mark", a),("length", .int (k+1)),("ch", ch)] S) K)
 (K .next (s0 [("start_mark", a),("length", .int k),("ch", ch)] S)):=by kernel_rfl
theorem Tt(a ch:V)(k:Int):X N f mDn [] 3 (s0 [("start_mark", a),("length", .int k),("ch", ch)] S) bB=onB (!(!decide (k=0))) (uC f (vs "while scanning a directive") a "expected alphabetic or numeric character, but found %r" ch S)
 (c1 f "prefix" (.int k) S fun v S=>c1r f "forward" (.int k) S fun S=>c0 f "peek" S fun ch S=>O1 (aG .NotIn ch zF) fun b=>onB b (uC f (vs "while scanning a directive") a "expected alphabetic or numeric character, but found %r" ch S) (.ok v S)):=by kernel_rfl
theorem DE(a:V):tx N f mDi [a] S=LP N f mDi [] 0 N ["self", "start_mark"] (s0 [("start_mark", a)] S) (nxt N f mDi [] 1 bB):=by kernel_rfl
theorem BA(n:Nat)(a:V)(K:Fl→St→Res):LP N f mDi [] 0 (n+1) ["self", "start_mark"] (s0 [("start_mark", a)] S) K=c0 f "peek" S fun ch S=>O1 (aG .Eq ch (vs " ")) fun b=>onB b (c0r f "forward" S fun S=>LP N f mDi [] 0 n ["self", "start_mark"] (s0 [("start_mark", a)] S) K) (K .next (s0 [("start_mark", a)] S)):=by kernel_rfl
theorem Zl(a:V):X N f mDi [] 1 (s0 [("start_mark", a)] S) bB=c0 f "peek" S fun ch S=>O1 (aG .Eq ch (vs "#")) fun b=>onB b (X N f mDi [(1,0)] 0 (s0 [("start_mark", a)] S) (nxt N f mDi [] 2 bB)) (X N f mDi [] 2 (s0 [("start_mark", a)] S) bB):=by kernel_rfl
theorem Tu(a:V):X N f mDi [] 2 (s0 [("start_mark", a)] S) bB=c0 f "peek" S fun ch S=>O1 (aG .NotIn ch zE) fun b=>onB b (uC f (vs "while scanning a directive") a "expected a comment or a line break, but found %r" ch S) (c0r f "scan_line_break" S ok0):=by kernel_rfl
noncomputable abbrev anL(c a i nm k ch:V):List (Str×V):=[("TokenClass", c),("start_mark", a),("indicator", i),("name", nm),("length", k),("ch", ch)]
noncomputable abbrev anK:List Str:=["self", "TokenClass", "start_mark", "indicator", "name", "length", "ch"]
theorem DI(c:V):tx N f mAn [c] S=c0 f "get_mark" S fun a S=>c0 f "peek" S fun i S=>O1 (aG .Eq i (vs "*")) fun b=>(fun K:V→Res=>onB b (K (vs "alias")) (K (vs "anchor"))) fun nm=>c0r f "forward" S fun S=>c1 f "peek" (.int 0) S fun ch S=>
 LP N f mAn [] 6 N anK (s0 (anL c a i nm (.int 0) ch) S) (nxt N f mAn [] 7 bB):=by kernel_rfl
theorem Pf(n:Nat)(c a i nm ch:V)(k:Int)(K:Fl→St→Res):LP N f mAn [] 6 (n+1) anK (s0 (anL c a i nm (.int k) ch) S) K=lF ch S fun b S=>onB b (c1 f "peek" (.int (k+1)) S fun ch S=>LP N f mAn [] 6 n anK (s0 (anL c a i nm (.int (k+1)) ch) S) K) (K .next (s0 (anL c a i nm (.int k) ch) S)):=by kernel_rfl
noncomputable abbrev Tf(f:Str→MFn)(c:Nat)(a nm ch:V)(k:Int)(S:Sc):Res:=onB (!(!decide (k=0))) (O1 (hE (vs "while scanning an %s") nm) fun w=>uC f w a "expected alphabetic or numeric character, but found %r" ch S)
 (c1 f "prefix" (.int k) S fun v S=>c1r f "forward" (.int k) S fun S=>c0 f "peek" S fun ch S=>O1 (aG .NotIn ch (vs "\x00 \t\r\n\u0085\u2028\u2029?:,]}%@`")) fun b=>onB b (O1 (hE (vs "while scanning an %s") nm) fun w=>uC f w a "expected alphabetic or numeric character, but found %r" ch S)
  (c0 f "get_mark" S fun e S=>.ok (.obj c [("value", v),("start_mark", a),("end_mark", e)]) S))
theorem Ty(a i nm ch:V)(k:Int):X N f mAn [] 7 (s0 (anL (.cls 434) a i nm (.int k) ch) S) bB=Tf f 434 a nm ch k S:=by kernel_rfl
theorem Tw(a i nm ch:V)(k:Int):X N f mAn [] 7 (s0 (anL (.cls 453) a i nm (.int k) ch) S) bB=Tf f 453 a nm ch k S:=by kernel_rfl
theorem CQ:tx N f mTg [] S=c0 f "get_mark" S fun a S=>c1 f "peek" (.int 1) S fun ch S=>O1 (aG .Eq ch (vs "<")) fun b=>onB b (X N f mTg [(2,0)] 0 (s0 [("start_mark", a),("ch", ch)] S) (nxt N f mTg [] 3 bB)) (O1 (aG .In ch zB) fun b=>onB b
 (X N f mTg [(2,1),(0,0)] 0 (s0 [("start_mark", a),("ch", ch)] S) (nxt N f mTg [(2,1)] 1 (nxt N f mTg [] 3 bB)))
 (LP N f mTg [(2,1),(0,1)] 2 N ["self", "start_mark", "ch", "length", "use_handle"] (s0 [("start_mark", a),("ch", ch),("length", .int 1),("use_handle", .bool false)] S) (nxt N f mTg [(2,1),(0,1)] 3 (nxt N f mTg [(2,1)] 1 (nxt N f mTg [] 3 bB))))):=by kernel_rfl
theorem Dv(n:Nat)(a ch:V)(k:Int)(u:V)(K:Fl→St→Res):LP N f mTg [(2,1),(0,1)] 2 (n+1) ["self", "start_mark", "ch", "length", "use_handle"] (s0 [("start_mark", a),("ch", ch),("length", .int k),("use_handle", u)] S) K=O1 (aG .NotIn ch zF) fun b=>onB b
 (O1 (aG .Eq ch (vs "!")) fun b=>onB b (K .next (s0 [("start_mark", a),("ch", ch),("length", .int k),("use_handle", .bool true)] S)) (c1 f "peek" (.int (k+1)) S fun ch S=>LP N f mTg [(2,1),(0,1)] 2 n ["self", "start_mark", "ch", "length", "use_handle"] (s0 [("start_mark", a),("ch", ch),("length", .int (k+1)),("use_handle", u)] S) K))
 (K .next (s0 [("start_mark", a),("ch", ch),("length", .int k),("use_handle", u)] S)):=by kernel_rfl
noncomputable abbrev Md(f:Str→MFn)(a h:V)(S:Sc):Res:=(f mTu [vs "tag", a] [] S).go fun s S=>c0 f "peek" S fun ch S=>O1 (aG .NotIn ch zF) fun b=>onB b (uC f (vs "while scanning a tag") a "expected ' ', but found %r" ch S) (c0 f "get_mark" S fun e S=>.ok (.obj 472 [("value", .tup [h,s]),("start_mark", a),("end_mark", e)]) S)
theorem Tr(a ch:V)(k:Int):X N f mTg [(2,1),(0,1)] 3 (s0 [("start_mark", a),("ch", ch),("length", .int k),("use_handle", .bool true)] S) (nxt N f mTg [(2,1)] 1 (nxt N f mTg [] 3 bB))=(f mTh [vs "tag", a] [] S).go fun h S=>Md f a h S:=by kernel_rfl
theorem Ts(a ch:V)(k:Int):X N f mTg [(2,1),(0,1)] 3 (s0 [("start_mark", a),("ch", ch),("length", .int k),("use_handle", .bool false)] S) (nxt N f mTg [(2,1)] 1 (nxt N f mTg [] 3 bB))=c0r f "forward" S fun S=>Md f a (vs "!") S:=by kernel_rfl
noncomputable abbrev thL(nm a k ch:V):List (Str×V):=[("name", nm),("start_mark", a),("ch", ch),("length", k)]
theorem Wo(nm a:V):tx N f mTh [nm,a] S=c0 f "peek" S fun ch S=>O1 (aG .NotEq ch (vs "!")) fun b=>onB b (O1 (hE (vs "while scanning a %s") nm) fun w=>uC f w a "expected '!', but found %r" ch S) (c1 f "peek" (.int 1) S fun ch S=>O1 (aG .NotEq ch (vs " ")) fun b=>
 onB b (LP N f mTh [(4,0)] 0 N ["self", "name", "start_mark", "ch", "length"] (s0 (thL nm a (.int 1) ch) S) (nxt N f mTh [(4,0)] 1 (nxt N f mTh [] 5 bB))) (X N f mTh [] 5 (s0 (thL nm a (.int 1) ch) S) bB)):=by kernel_rfl
theorem Vp(n:Nat)(nm a ch:V)(k:Int)(K:Fl→St→Res):LP N f mTh [(4,0)] 0 (n+1) ["self", "name", "start_mark", "ch", "length"] (s0 (thL nm a (.int k) ch) S) K=lF ch S fun b S=>onB b (c1 f "peek" (.int (k+1)) S fun ch S=>LP N f mTh [(4,0)] 0 n ["self", "name", "start_mark", "ch", "length"] (s0 (thL nm a (.int (k+1)) ch) S) K) (K .next (s0 (thL nm a (.int k) ch) S)):=by kernel_rfl
theorem Ly(nm a ch:V)(k:Int):X N f mTh [(4,0)] 1 (s0 (thL nm a (.int k) ch) S) (nxt N f mTh [] 5 bB)=O1 (aG .NotEq ch (vs "!")) fun b=>onB b (c1r f "forward" (.int k) S fun S=>O1 (hE (vs "while scanning a %s") nm) fun w=>uC f w a "expected '!', but found %r" ch S) (X N f mTh [] 5 (s0 (thL nm a (.int (k+1)) ch) S) bB):=by kernel_rfl
theorem Lx(nm a ch:V)(k:Int):X N f mTh [] 5 (s0 (thL nm a (.int k) ch) S) bB=c1 f "prefix" (.int k) S fun v S=>c1r f "forward" (.int k) S fun S=>.ok v S:=by kernel_rfl
noncomputable abbrev tuL(nm a:V)(l:List V)(k ch:V):aL:=[("name", .val nm),("start_mark", .val a),("chunks", .lst l),("length", .val k),("ch", .val ch)]
noncomputable abbrev tuK:List Str:=["self", "name", "start_mark", "chunks", "length", "ch"]
theorem CP(nm a:V):tx N f mTu [nm,a] S=c1 f "peek" (.int 0) S fun ch S=>LP N f mTu [] 3 N tuK (sl (tuL nm a [] (.int 0) ch) S) (nxt N f mTu [] 4 bB):=by kernel_rfl
theorem Pe(n:Nat)(nm a ch:V)(k:Int)(K:Fl→St→Res):LP N f mTu [] 3 (n+1) tuK (sl (tuL nm a [] (.int k) ch) S) K=Ub (gS (vs "0") ch (vs "9")) (gS (vs "A") ch (vs "Z")) (gS (vs "a") ch (vs "z")) (tC (aG .In ch (vs "-;/?:@&=+$,_.!~*'()[]%"))) S fun b S=>onB b
 (O1 (aG .Eq ch (vs "%")) fun b=>onB b (X N f mTu [(3,0),(0,0)] 0 (sl (tuL nm a [] (.int k) ch) S) (nxt N f mTu [(3,0)] 1 (aft N f mTu [] 3 n tuK K))) (c1 f "peek" (.int (k+1)) S fun ch S=>LP N f mTu [] 3 n tuK (sl (tuL nm a [] (.int (k+1)) ch) S) K))
 (K .next (sl (tuL nm a [] (.int k) ch) S)):=by kernel_rfl
theorem Zi(nm a ch:V)(k:Int):X N f mTu [] 4 (sl (tuL nm a [] (.int k) ch) S) bB=onB (!decide (k=0)) (c1 f "prefix" (.int k) S fun v S=>c1r f "forward" (.int k) S fun S=>O1 (jY (.lst [v])) fun r=>.ok r S) (O1 (hE (vs "while parsing a %s") nm) fun w=>uC f w a "expected URI, but found %r" ch S):=by kernel_rfl
noncomputable abbrev mBs:Str := "scan_block_scalar"
noncomputable abbrev mBi:Str := "scan_block_scalar_indicators"
noncomputable abbrev mBl:Str := "scan_block_scalar_ignored_line"
noncomputable abbrev mBn:Str := "scan_block_scalar_indentation"
noncomputable abbrev mBb:Str := "scan_block_scalar_breaks"
noncomputable def tgts:PySem.Stmt→List PySem.Expr
 | .Assign ts _ _=>match ts with
  | [.Tuple xs _ _]=>xs
  | _=>[]
 | _=>[]
noncomputable def TA(N:Nat)(f:Str→MFn)(m:Str)(w:List (Nat×Nat))(i:Nat)(q:V)(st:St)(k:Fl→St→Res):Res:=gF (kH m).1 (tgts (stm i (lS w (kH m).2.2))) q st Res (nxt N f m w (i+1) k) (fun e _=>.err e) .bad
noncomputable abbrev bsL(a:V)(mi:Int)(cs bk:List V)(mx:Int)(e:V)(ind:Int)(lb:V):aL:=[("style", .val (vs "|")),("folded", .val (.bool false)),("chunks", .lst cs),("start_mark", .val a),("chomping", .val .none),("increment", .val .none),("min_indent", .val (.int mi)),("breaks", .val (.lst bk)),("max_indent", .val (.int mx)),("end_mark", .val e),("indent", .val (.int ind)),("line_break", .val lb)]
noncomputable abbrev bsK:List Str:=["self", "style", "folded", "chunks", "start_mark", "chomping", "increment", "min_indent", "breaks", "max_indent", "end_mark", "indent", "line_break"]
noncomputable abbrev bsA(a:V):aL:=[("style", .val (vs "|")),("folded", .val (.bool false)),("chunks", .lst []),("start_mark", .val a)]
noncomputable abbrev bsB(a:V)(mi:Int):aL:=[("style", .val (vs "|")),("folded", .val (.bool false)),("chunks", .lst []),("start_mark", .val a),("chomping", .val .none),("increment", .val .none),("min_indent", .val (.int mi))]
noncomputable abbrev Sn:List Str:=["self", "style", "folded", "chunks", "start_mark", "chomping", "increment", "min_indent", "breaks", "max_indent", "end_mark", "indent", "line_break", "leading_non_space", "length"]
noncomputable abbrev bsM(a:V)(mi:Int)(cs bk:List V)(mx:Int)(e:V)(ind:Int)(lb l:V)(k:Int):aL:=[("style", .val (vs "|")),("folded", .val (.bool false)),("chunks", .lst cs),("start_mark", .val a),("chomping", .val .none),("increment", .val .none),("min_indent", .val (.int mi)),("breaks", .val (.lst bk)),("max_indent", .val (.int mx)),("end_mark", .val e),("indent", .val (.int ind)),("line_break", .val lb),("leading_non_space", .val l),("length", .val (.int k))]
theorem e_bs:tx N f mBs [vs "|"] S=c0 f "get_mark" S fun a S=>c0r f "forward" S fun S=>c1 f mBi a S fun q S=>TA N f mBs [] 4 q (sl (bsA a) S) bB:=by kernel_rfl
theorem FA(a:V):TA N f mBs [] 4 (.tup [.none,.none]) (sl (bsA a) S) bB=c1r f mBl a S fun S=>(fun K:Int→Res=>onB (decide (S.indent+1<1)) (K 1) (K (S.indent+1))) fun mi=>c0 f mBn S fun q S=>
 TA N f mBs [(8,0)] 0 q (sl (bsB a mi) S) (nxt N f mBs [] 9 bB):=by kernel_rfl
theorem EY(a:V)(mi mx:Int)(bk:List V)(e:V):TA N f mBs [(8,0)] 0 (.tup [.lst bk,.int mx,e]) (sl (bsB a mi) S) (nxt N f mBs [] 9 bB) =
 LP N f mBs [] 10 N bsK (sl (bsL a mi [] bk mx e (if mi<mx then mx else mi) (.str [])) S) (nxt N f mBs [] 11 bB):=by kernel_rfl
theorem l_bs(n:Nat)(a:V)(mi mx ind:Int)(cs bk:List V)(e lb:V)(K:Fl→St→Res):LP N f mBs [] 10 (n+1) bsK (sl (bsL a mi cs bk mx e ind lb) S) K=tIf (gO (tB (decide (S.col=ind))) (pk0 f fun v=>aG .NotEq v (vs "\x00"))) S
 (fun S=>onB (Nat.ble (cs++bk).length aO) (c0 f "peek" S fun ch S=>O1 (aG .NotIn ch (vs " \t")) fun b=>LP N f mBs [(10,0)] 3 N Sn (sl (bsM a mi (cs++bk) bk mx e ind lb (.bool b) 0) S) (nxt N f mBs [(10,0)] 4 (aft N f mBs [] 10 n bsK K))) .bad)
 (fun S=>K .next (sl (bsL a mi cs bk mx e ind lb) S)):=by kernel_rfl
theorem GR(n:Nat)(a:V)(mi mx ind k:Int)(cs bk:List V)(e lb l:V)(K:Fl→St→Res):LP N f mBs [(10,0)] 3 (n+1) Sn (sl (bsM a mi cs bk mx e ind lb l k) S) K=c1 f "peek" (.int k) S fun ch S=>O1 (aG .NotIn ch zE) fun b=>onB b
 (LP N f mBs [(10,0)] 3 n Sn (sl (bsM a mi cs bk mx e ind lb l (k+1)) S) K) (K .next (sl (bsM a mi cs bk mx e ind lb l k) S)):=by kernel_rfl
theorem EO(a:V)(mi mx ind k:Int)(cs bk:List V)(e lb l:V)(K:Fl→St→Res):X N f mBs [(10,0)] 4 (sl (bsM a mi cs bk mx e ind lb l k) S) K=c1 f "prefix" (.int k) S fun v S=>onB (Nat.ble (cs++[v]).length aO) (c1r f "forward" (.int k) S fun S=>c0 f "scan_line_break" S fun lb S=>c1 f mBb (.int ind) S fun q S=>
 TA N f mBs [(10,0)] 7 q (sl (bsM a mi (cs++[v]) bk mx e ind lb l k) S) K) .bad:=by kernel_rfl
theorem EZ(a:V)(mi mx ind k:Int)(cs bk bk':List V)(e e' lb l:V)(K:Fl→St→Res):TA N f mBs [(10,0)] 7 (.tup [.lst bk',e']) (sl (bsM a mi cs bk mx e ind lb l k) S) K=tIf (gO (tB (decide (S.col=ind))) (pk0 f fun v=>aG .NotEq v (vs "\x00"))) S
 (fun S=>onB (Nat.ble (cs++[lb]).length aO) (K .next (sl (bsM a mi (cs++[lb]) bk' mx e' ind lb l k) S)) .bad) (fun S=>K .brk (sl (bsM a mi cs bk' mx e' ind lb l k) S)):=by kernel_rfl
theorem Zo(a:V)(mi mx ind:Int)(cs bk:List V)(e lb:V):X N f mBs [] 11 (sl (bsL a mi cs bk mx e ind lb) S) bB=onB (Nat.ble (cs++[lb]).length aO) (O1 (jY (.lst (cs++[lb]))) fun r=>.ok (.obj 492 [("value", r),("plain", .bool false),("start_mark", a),("end_mark", e),("style", vs "|")]) S) .bad:=by kernel_rfl
theorem ID(a:V):tx N f mBi [a] S=c0 f "peek" S fun ch S=>O1 (aG .In ch (vs "+-")) fun b=>onB b (X N f mBi [(3,0)] 0 (s0 [("start_mark", a),("chomping", .none),("increment", .none),("ch", ch)] S) (nxt N f mBi [] 4 bB)) (O1 (aG .In ch (vs "0123456789")) fun b=>onB b
 (X N f mBi [(3,1),(0,0)] 0 (s0 [("start_mark", a),("chomping", .none),("increment", .none),("ch", ch)] S) (nxt N f mBi [(3,1)] 1 (nxt N f mBi [] 4 bB))) (c0 f "peek" S fun ch S=>O1 (aG .NotIn ch zF) fun b=>onB b (uC f (vs "while scanning a block scalar") a "expected chomping or indentation indicators, but found %r" ch S) (.ok (.tup [.none,.none]) S))):=by kernel_rfl
theorem IC(a:V):tx N f mBl [a] S=LP N f mBl [] 0 N ["self", "start_mark"] (s0 [("start_mark", a)] S) (nxt N f mBl [] 1 bB):=by kernel_rfl
theorem GQ(n:Nat)(a:V)(K:Fl→St→Res):LP N f mBl [] 0 (n+1) ["self", "start_mark"] (s0 [("start_mark", a)] S) K=c0 f "peek" S fun ch S=>O1 (aG .Eq ch (vs " ")) fun b=>onB b (c0r f "forward" S fun S=>LP N f mBl [] 0 n ["self", "start_mark"] (s0 [("start_mark", a)] S) K) (K .next (s0 [("start_mark", a)] S)):=by kernel_rfl
theorem EN(a:V):X N f mBl [] 1 (s0 [("start_mark", a)] S) bB=c0 f "peek" S fun ch S=>O1 (aG .Eq ch (vs "#")) fun b=>onB b (X N f mBl [(1,0)] 0 (s0 [("start_mark", a)] S) (nxt N f mBl [] 2 bB)) (c0 f "peek" S fun ch S=>O1 (aG .NotIn ch zE) fun b=>
 onB b (uC f (vs "while scanning a block scalar") a "expected a comment or a line break, but found %r" ch S) (c0r f "scan_line_break" S ok0)):=by kernel_rfl
noncomputable abbrev bnL(l:List V)(k:Int)(e:V):aL:=[("chunks", .lst l),("max_indent", .val (.int k)),("end_mark", .val e)]
noncomputable abbrev bnK:List Str:=["self", "chunks", "max_indent", "end_mark"]
theorem IB:tx N f mBn [] S=c0 f "get_mark" S fun e S=>LP N f mBn [] 3 N bnK (sl (bnL [] 0 e) S) (nxt N f mBn [] 4 bB):=by kernel_rfl
theorem GP(n:Nat)(l:List V)(k:Int)(e:V)(K:Fl→St→Res):LP N f mBn [] 3 (n+1) bnK (sl (bnL l k e) S) K=c0 f "peek" S fun ch S=>O1 (aG .In ch (vs " \r\n\u0085\u2028\u2029")) fun b=>onB b (c0 f "peek" S fun ch S=>O1 (aG .NotEq ch (vs " ")) fun b=>
 onB b (c0 f "scan_line_break" S fun v S=>onB (Nat.ble (l++[v]).length aO) (c0 f "get_mark" S fun e S=>LP N f mBn [] 3 n bnK (sl (bnL (l++[v]) k e) S) K) .bad)
  (c0r f "forward" S fun S=>onB (decide (k<S.col)) (LP N f mBn [] 3 n bnK (sl (bnL l S.col e) S) K) (LP N f mBn [] 3 n bnK (sl (bnL l k e) S) K))) (K .next (sl (bnL l k e) S)):=by kernel_rfl
theorem EM(l:List V)(k:Int)(e:V):X N f mBn [] 4 (sl (bnL l k e) S) bB = .ok (.tup [.lst l,.int k,e]) S:=by kernel_rfl
noncomputable abbrev bbL(i:Int)(l:List V)(e:V):aL:=[("indent", .val (.int i)),("chunks", .lst l),("end_mark", .val e)]
noncomputable abbrev bbK:List Str:=["self", "indent", "chunks", "end_mark"]
theorem IE(i:Int):tx N f mBb [.int i] S=c0 f "get_mark" S fun e S=>LP N f mBb [] 2 N bbK (sl (bbL i [] e) S) (nxt N f mBb [] 3 bB):=by kernel_rfl
theorem BC(n:Nat)(i:Int)(l:List V)(e:V)(K:Fl→St→Res):LP N f mBb [] 2 (n+1) bbK (sl (bbL i l e) S) K=tIf (gO (tB (decide (S.col<i))) (pk0 f fun v=>aG .Eq v (vs " "))) S (fun S=>c0r f "forward" S fun S=>LP N f mBb [] 2 n bbK (sl (bbL i l e) S) K) (fun S=>K .next (sl (bbL i l e) S)):=by kernel_rfl
theorem Zn(st:St)(K:Fl→St→Res):X N f mBb [] 3 st K=LP N f mBb [] 3 N st.names st (nxt N f mBb [] 4 K):=by kernel_rfl
theorem BB(n:Nat)(i:Int)(l:List V)(e:V)(K:Fl→St→Res):LP N f mBb [] 3 (n+1) bbK (sl (bbL i l e) S) K=c0 f "peek" S fun ch S=>O1 (aG .In ch lB) fun b=>onB b (c0 f "scan_line_break" S fun v S=>onB (Nat.ble (l++[v]).length aO) (c0 f "get_mark" S fun e S=>
 LP N f mBb [(3,0)] 2 N bbK (sl (bbL i (l++[v]) e) S) (nxt N f mBb [(3,0)] 3 (aft N f mBb [] 3 n bbK K))) .bad) (K .next (sl (bbL i l e) S)):=by kernel_rfl
theorem Vt(n:Nat)(i:Int)(l:List V)(e:V)(K:Fl→St→Res):LP N f mBb [(3,0)] 2 (n+1) bbK (sl (bbL i l e) S) K=tIf (gO (tB (decide (S.col<i))) (pk0 f fun v=>aG .Eq v (vs " "))) S (fun S=>c0r f "forward" S fun S=>LP N f mBb [(3,0)] 2 n bbK (sl (bbL i l e) S) K) (fun S=>K .next (sl (bbL i l e) S)):=by kernel_rfl
theorem Tv(n:Nat)(i:Int)(l:List V)(e:V)(K:Fl→St→Res):nxt N f mBb [(3,0)] 3 (aft N f mBb [] 3 n bbK K) .next (sl (bbL i l e) S)=LP N f mBb [] 3 n bbK (sl (bbL i l e) S) K:=by kernel_rfl
theorem Zm(i:Int)(l:List V)(e:V):X N f mBb [] 4 (sl (bbL i l e) S) bB = .ok (.tup [.lst l,e]) S:=by kernel_rfl
noncomputable abbrev mFs:Str := "scan_flow_scalar"
noncomputable abbrev mFn:Str := "scan_flow_scalar_non_spaces"
noncomputable abbrev mFp:Str := "scan_flow_scalar_spaces"
noncomputable abbrev mFb:Str := "scan_flow_scalar_breaks"
noncomputable abbrev mPl:Str := "scan_plain"
noncomputable abbrev mPs:Str := "scan_plain_spaces"
noncomputable abbrev Mh(A B C:T):T:=fun S K=>A S fun a S=>onB (!a) (K a S) (B S fun b S=>onB (!b) (K b S) (C S fun c S=>onB (!c) (K c S) (K true S)))
noncomputable abbrev Uc(A B C:T):T:=fun S K=>A S fun a S=>onB a (K a S) (B S fun b S=>onB b (K b S) (C S fun c S=>onB c (K c S) (K false S)))
noncomputable abbrev c2(f:Str→MFn)(m:Str)(a b:V)(S:Sc)(k:V→Sc→Res):Res:=(f m [a,b] [] S).go k
noncomputable abbrev Ef(l:List V)(v:V)(k:List V→Res):Res:=O1 (asLst v) fun l'=>onB (Nat.ble (l++l').length aO) (k (l++l')) .bad
noncomputable abbrev Ex(l:List V)(v:V)(k:List V→Res):Res:=onB (Nat.ble (l++[v]).length aO) (k (l++[v])) .bad
noncomputable abbrev fsL(y:V)(d:Bool)(l:List V)(a q:V):aL:=[("style", .val y),("double", .val (.bool d)),("chunks", .lst l),("start_mark", .val a),("quote", .val q)]
noncomputable abbrev fsK:List Str:=["self", "style", "double", "chunks", "start_mark", "quote"]
noncomputable abbrev Qs(N:Nat)(f:Str→MFn)(S:Sc)(y:V)(d:Bool):Res:=c0 f "get_mark" S fun a S=>c0 f "peek" S fun q S=>c0r f "forward" S fun S=>c2 f mFn (.bool d) a S fun v S=>Ef [] v fun l=>LP N f mFs [] 6 N fsK (sl (fsL y d l a q) S) (nxt N f mFs [] 7 bB)
theorem HW:tx N f mFs [vs "'"] S=Qs N f S (vs "'") false:=by kernel_rfl
theorem HV:tx N f mFs [vs "\""] S=Qs N f S (vs "\"") true:=by kernel_rfl
theorem l_fs(n:Nat)(y:V)(d:Bool)(l:List V)(a q:V)(K:Fl→St→Res):LP N f mFs [] 6 (n+1) fsK (sl (fsL y d l a q) S) K=c0 f "peek" S fun ch S=>O1 (aG .NotEq ch q) fun b=>onB b (c2 f mFp (.bool d) a S fun v S=>Ef l v fun l=>c2 f mFn (.bool d) a S fun v S=>Ef l v fun l=>
 LP N f mFs [] 6 n fsK (sl (fsL y d l a q) S) K) (K .next (sl (fsL y d l a q) S)):=by kernel_rfl
theorem x_fs(y:V)(d:Bool)(l:List V)(a q:V):X N f mFs [] 7 (sl (fsL y d l a q) S) bB=c0r f "forward" S fun S=>c0 f "get_mark" S fun e S=>O1 (jY (.lst l)) fun r=>.ok (.obj 492 [("value", r),("plain", .bool false),("start_mark", a),("end_mark", e),("style", y)]) S:=by kernel_rfl
noncomputable abbrev fnL(d:Bool)(a:V)(l:List V):aL:=[("double", .val (.bool d)),("start_mark", .val a),("chunks", .lst l)]
noncomputable abbrev qA(d:Bool)(a:V)(l:List V)(k:Int):aL:=[("double", .val (.bool d)),("start_mark", .val a),("chunks", .lst l),("length", .val (.int k))]
noncomputable abbrev fnK:List Str:=["self", "double", "start_mark", "chunks"]
noncomputable abbrev uW:List Str:=["self", "double", "start_mark", "chunks", "length"]
theorem e_fn(d:Bool)(a:V):tx N f mFn [.bool d,a] S=LP N f mFn [] 1 N fnK (sl (fnL d a []) S) (nxt N f mFn [] 2 bB):=by kernel_rfl
theorem l_fn(n:Nat)(d:Bool)(a:V)(l:List V)(K:Fl→St→Res):LP N f mFn [] 1 (n+1) fnK (sl (fnL d a l) S) K=LP N f mFn [(1,0)] 1 N uW (sl (qA d a l 0) S) (nxt N f mFn [(1,0)] 2 (aft N f mFn [] 1 n fnK K)):=by kernel_rfl
theorem GN(n:Nat)(d:Bool)(a:V)(l:List V)(k:Int)(K:Fl→St→Res):LP N f mFn [(1,0)] 1 (n+1) uW (sl (qA d a l k) S) K=c1 f "peek" (.int k) S fun ch S=>O1 (aG .NotIn ch (vs "'\"\\\x00 \t\r\n\u0085\u2028\u2029")) fun b=>onB b (LP N f mFn [(1,0)] 1 n uW (sl (qA d a l (k+1)) S) K) (K .next (sl (qA d a l k) S)):=by kernel_rfl
theorem EK(d:Bool)(a:V)(l:List V)(k:Int)(K:Fl→St→Res):X N f mFn [(1,0)] 2 (sl (qA d a l k) S) K=onB (!decide (k=0)) (c1 f "prefix" (.int k) S fun v S=>Ex l v fun l=>c1r f "forward" (.int k) S fun S=>X N f mFn [(1,0)] 3 (sl (qA d a l k) S) K) (X N f mFn [(1,0)] 3 (sl (qA d a l k) S) K):=by kernel_rfl
noncomputable abbrev Qu(d:Bool)(a:V)(l:List V)(k:Int)(ch:V):aL:=[("double", .val (.bool d)),("start_mark", .val a),("chunks", .lst l),("length", .val (.int k)),("ch", .val ch)]
noncomputable abbrev BU(d:Bool)(a:V)(l:List V)(k:Int)(ch:V):aL:=[("double", .val (.bool d)),("start_mark", .val a),("chunks", .val (.lst l)),("length", .val (.int k)),("ch", .val ch)]
theorem EJ(d:Bool)(a:V)(l:List V)(k:Int)(K:Fl→St→Res):X N f mFn [(1,0)] 3 (sl (qA d a l k) S) K=c0 f "peek" S fun ch S=>tIf (Mh (tB (!d)) (tC (aG .Eq ch (vs "'"))) (pk f 1 fun v=>aG .Eq v (vs "'"))) S
 (fun S=>Ex l (vs "'") fun l=>c1r f "forward" (.int 2) S fun S=>K .next (sl (Qu d a l k ch) S))
 (fun S=>tIf (tOr (gO (tB d) (tC (aG .Eq ch (vs "'")))) (gO (tB (!d)) (tC (aG .In ch (vs "\"\\"))))) S (fun S=>Ex l ch fun l=>c0r f "forward" S fun S=>K .next (sl (Qu d a l k ch) S))
  (fun S=>tIf (gO (tB d) (tC (aG .Eq ch (vs "\\")))) S (fun S=>X N f mFn [(1,0),(4,1),(0,1),(0,0)] 0 (sl (Qu d a l k ch) S) (nxt N f mFn [(1,0),(4,1),(0,1)] 1 (nxt N f mFn [(1,0),(4,1)] 1 (nxt N f mFn [(1,0)] 5 K)))) (fun S=>K (.ret (.lst l)) (sl (BU d a l k ch) S)))):=by kernel_rfl
noncomputable abbrev fpL(d:Bool)(a:V)(k:Int):aL:=[("double", .val (.bool d)),("start_mark", .val a),("chunks", .lst []),("length", .val (.int k))]
theorem e_fp(d:Bool)(a:V):tx N f mFp [.bool d,a] S=LP N f mFp [] 2 N uW (sl (fpL d a 0) S) (nxt N f mFp [] 3 bB):=by kernel_rfl
theorem l_fp(n:Nat)(d:Bool)(a:V)(k:Int)(K:Fl→St→Res):LP N f mFp [] 2 (n+1) uW (sl (fpL d a k) S) K=c1 f "peek" (.int k) S fun ch S=>O1 (aG .In ch (vs " \t")) fun b=>onB b (LP N f mFp [] 2 n uW (sl (fpL d a (k+1)) S) K) (K .next (sl (fpL d a k) S)):=by kernel_rfl
theorem x_fp(d:Bool)(a:V)(k:Int):X N f mFp [] 3 (sl (fpL d a k) S) bB=c1 f "prefix" (.int k) S fun w S=>c1r f "forward" (.int k) S fun S=>c0 f "peek" S fun ch S=>O1 (aG .Eq ch (vs "\x00")) fun b=>onB b
 (c0 f "get_mark" S fun e _=>.err (nF (vs "while scanning a quoted scalar") a (vs "found unexpected end of stream") e)) (O1 (aG .In ch lB) fun b=>onB b (c0 f "scan_line_break" S fun lb S=>c2 f mFb (.bool d) a S fun bk S=>O1 (aG .NotEq lb (vs "\n")) fun b=>
  (fun J:List V→Res=>onB b (J [lb]) (O1 (cF bk) fun t=>onB (!t) (J [vs " "]) (J []))) fun l=>Ef l bk fun l=>.ok (.lst l) S) (.ok (.lst [w]) S)):=by kernel_rfl
theorem e_fb(d:Bool)(a:V):tx N f mFb [.bool d,a] S=LP N f mFb [] 1 N fnK (sl (fnL d a []) S) (nxt N f mFb [] 2 bB):=by kernel_rfl
noncomputable abbrev fbL(d:Bool)(a:V)(l:List V)(p:V):aL:=[("double", .val (.bool d)),("start_mark", .val a),("chunks", .lst l),("prefix", .val p)]
noncomputable abbrev fbK:List Str:=["self", "double", "start_mark", "chunks", "prefix"]
noncomputable abbrev Bj(f:Str→MFn)(p:V):T:=gO (tOr (tC (aG .Eq p (vs "---"))) (tC (aG .Eq p (vs "...")))) (pk f 3 fun v=>aG .In v zB)
theorem l_fb(n:Nat)(d:Bool)(a:V)(l:List V)(K:Fl→St→Res):LP N f mFb [] 1 (n+1) fnK (sl (fnL d a l) S) K=c1 f "prefix" (.int 3) S fun p S=>tIf (Bj f p) S (fun S=>c0 f "get_mark" S fun e _=>.err (nF (vs "while scanning a quoted scalar") a (vs "found unexpected document separator") e))
 (fun S=>LP N f mFb [(1,0)] 2 N fbK (sl (fbL d a l p) S) (nxt N f mFb [(1,0)] 3 (aft N f mFb [] 1 n fnK K))):=by kernel_rfl
theorem GO(n:Nat)(d:Bool)(a:V)(l:List V)(p:V)(K:Fl→St→Res):LP N f mFb [(1,0)] 2 (n+1) fbK (sl (fbL d a l p) S) K=c0 f "peek" S fun ch S=>O1 (aG .In ch (vs " \t")) fun b=>onB b (c0r f "forward" S fun S=>LP N f mFb [(1,0)] 2 n fbK (sl (fbL d a l p) S) K) (K .next (sl (fbL d a l p) S)):=by kernel_rfl
theorem EL(n:Nat)(d:Bool)(a:V)(l:List V)(p:V):X N f mFb [(1,0)] 3 (sl (fbL d a l p) S) (aft N f mFb [] 1 n fnK (nxt N f mFb [] 2 bB))=c0 f "peek" S fun ch S=>O1 (aG .In ch lB) fun b=>onB b (c0 f "scan_line_break" S fun v S=>Ex l v fun l=>LP N f mFb [] 1 n fnK (sl (fnL d a l) S) (nxt N f mFb [] 2 bB)) (.ok (.lst l) S):=by kernel_rfl
noncomputable abbrev plL(l:List V)(a e:V)(i:Int)(s:V):aL:=[("chunks", .lst l),("start_mark", .val a),("end_mark", .val e),("indent", .val (.int i)),("spaces", .val s)]
noncomputable abbrev plK:List Str:=["self", "chunks", "start_mark", "end_mark", "indent", "spaces"]
noncomputable abbrev pK(l:List V)(a e:V)(i:Int)(s:V)(k:Int):aL:=[("chunks", .lst l),("start_mark", .val a),("end_mark", .val e),("indent", .val (.int i)),("spaces", .val s),("length", .val (.int k))]
noncomputable abbrev Dh:List Str:=["self", "chunks", "start_mark", "end_mark", "indent", "spaces", "length"]
theorem e_pl:tx N f mPl [] S=c0 f "get_mark" S fun a S=>LP N f mPl [] 5 N plK (sl (plL [] a a (S.indent+1) (.lst [])) S) (nxt N f mPl [] 6 bB):=by kernel_rfl
theorem l_pl(n:Nat)(l:List V)(a e:V)(i:Int)(s:V)(K:Fl→St→Res):LP N f mPl [] 5 (n+1) plK (sl (plL l a e i s) S) K=c0 f "peek" S fun ch S=>O1 (aG .Eq ch (vs "#")) fun b=>onB b (K .next (sl (plL l a e i s) S)) (LP N f mPl [(5,0)] 2 N Dh (sl (pK l a e i s 0) S) (nxt N f mPl [(5,0)] 3 (aft N f mPl [] 5 n plK K))):=by kernel_rfl
theorem GK(n:Nat)(l:List V)(a e:V)(i:Int)(s:V)(k:Int)(K:Fl→St→Res):LP N f mPl [(5,0)] 2 (n+1) Dh (sl (pK l a e i s k) S) K=c1 f "peek" (.int k) S fun ch S=>Uc (tC (aG .In ch zB)) (gO (tC (aG .Eq ch (vs ":"))) fun S J=>c1 f "peek" (.int (k+1)) S fun d S=>onB (!decide (S.flow=0)) (O1 (aG .In d (vs "\x00 \t\r\n\u0085\u2028\u2029,[]{}")) fun b=>J b S) (O1 (aG .In d zB) fun b=>J b S))
 (gO (fun S J=>J (!decide (S.flow=0)) S) (tC (aG .In ch (vs ",?[]{}")))) S fun b S=>onB b (K .next (sl (pK l a e i s k) S)) (LP N f mPl [(5,0)] 2 n Dh (sl (pK l a e i s (k+1)) S) K):=by kernel_rfl
theorem EI(n:Nat)(l:List V)(a e:V)(i:Int)(s:V)(k:Int)(K:Fl→St→Res):X N f mPl [(5,0)] 3 (sl (pK l a e i s k) S) (aft N f mPl [] 5 n plK K)=onB (decide (k=0)) (K .next (sl (plL l a e i s) S)) (Ef l s fun l=>c1 f "prefix" (.int k) {S with allow:=false} fun v S=>Ex l v fun l=>c1r f "forward" (.int k) S fun S=>c0 f "get_mark" S fun e S=>
 c2 f mPs (.int i) a S fun s S=>tIf (Uc (fun S J=>O1 (cF s) fun b=>J (!b) S) (pk0 f fun v=>aG .Eq v (vs "#")) (gO (fun S J=>J (!(!decide (S.flow=0))) S) (fun S J=>J (decide (S.col<i)) S))) S (fun S=>K .next (sl (plL l a e i s) S)) (fun S=>LP N f mPl [] 5 n plK (sl (plL l a e i s) S) K)):=by kernel_rfl
theorem EH(l:List V)(a e:V)(i:Int)(s:V):X N f mPl [] 6 (sl (plL l a e i s) S) bB=O1 (jY (.lst l)) fun r=>.ok (.obj 492 [("value", r),("plain", .bool true),("start_mark", a),("end_mark", e),("style", .none)]) S:=by kernel_rfl
noncomputable abbrev psL(i:Int)(a:V)(k:Int):aL:=[("indent", .val (.int i)),("start_mark", .val a),("chunks", .lst []),("length", .val (.int k))]
noncomputable abbrev psK:List Str:=["self", "indent", "start_mark", "chunks", "length"]
theorem e_ps(i:Int)(a:V):tx N f mPs [.int i,a] S=LP N f mPs [] 2 N psK (sl (psL i a 0) S) (nxt N f mPs [] 3 bB):=by kernel_rfl
theorem l_ps(n:Nat)(i:Int)(a:V)(k:Int)(K:Fl→St→Res):LP N f mPs [] 2 (n+1) psK (sl (psL i a k) S) K=c1 f "peek" (.int k) S fun ch S=>O1 (aG .In ch (vs " ")) fun b=>onB b (LP N f mPs [] 2 n psK (sl (psL i a (k+1)) S) K) (K .next (sl (psL i a k) S)):=by kernel_rfl
noncomputable abbrev psM(i:Int)(a:V)(k:Int)(w ch lb p:V)(l:List V):aL:=[("indent", .val (.int i)),("start_mark", .val a),("chunks", .lst []),("length", .val (.int k)),("whitespaces", .val w),("ch", .val ch),("line_break", .val lb),("prefix", .val p),("breaks", .lst l)]
noncomputable abbrev Ob:List Str:=["self", "indent", "start_mark", "chunks", "length", "whitespaces", "ch", "line_break", "prefix", "breaks"]
theorem x_ps(i:Int)(a:V)(k:Int):X N f mPs [] 3 (sl (psL i a k) S) bB=c1 f "prefix" (.int k) S fun w S=>c1r f "forward" (.int k) S fun S=>c0 f "peek" S fun ch S=>O1 (aG .In ch lB) fun b=>onB b
 (c0 f "scan_line_break" S fun lb S=>c1 f "prefix" (.int 3) {S with allow:=true} fun p S=>tIf (Bj f p) S (fun S=>.ok .none S) (fun S=>LP N f mPs [(6,0)] 5 N Ob (sl (psM i a k w ch lb p []) S) (nxt N f mPs [(6,0)] 6 (nxt N f mPs [] 7 bB))))
 (O1 (cF w) fun b=>onB b (.ok (.lst [w]) S) (.ok (.lst []) S)):=by kernel_rfl
theorem GJ(n:Nat)(i:Int)(a:V)(k:Int)(w ch lb p:V)(l:List V):LP N f mPs [(6,0)] 5 (n+1) Ob (sl (psM i a k w ch lb p l) S) (nxt N f mPs [(6,0)] 6 (nxt N f mPs [] 7 bB))=c0 f "peek" S fun c S=>O1 (aG .In c (vs " \r\n\u0085\u2028\u2029")) fun b=>onB b (c0 f "peek" S fun c S=>O1 (aG .Eq c (vs " ")) fun b=>
 onB b (c0r f "forward" S fun S=>LP N f mPs [(6,0)] 5 n Ob (sl (psM i a k w ch lb p l) S) (nxt N f mPs [(6,0)] 6 (nxt N f mPs [] 7 bB))) (c0 f "scan_line_break" S fun v S=>Ex l v fun l=>c1 f "prefix" (.int 3) S fun p S=>tIf (Bj f p) S (fun S=>.ok .none S)
  (fun S=>LP N f mPs [(6,0)] 5 n Ob (sl (psM i a k w ch lb p l) S) (nxt N f mPs [(6,0)] 6 (nxt N f mPs [] 7 bB))))) (X N f mPs [(6,0)] 6 (sl (psM i a k w ch lb p l) S) (nxt N f mPs [] 7 bB)):=by kernel_rfl
theorem EG(i:Int)(a:V)(k:Int)(w ch lb p:V)(l:List V):X N f mPs [(6,0)] 6 (sl (psM i a k w ch lb p l) S) (nxt N f mPs [] 7 bB)=O1 (aG .NotEq lb (vs "\n")) fun b=>(fun J:List V→Res=>onB b (J [lb]) (onB (!!bU l) (J [vs " "]) (J []))) fun c=>Ef c (.lst l) fun c=>.ok (.lst c) S:=by kernel_rfl
end
noncomputable def Vv(c d:Nat):Bool:=decide (c∈([10,133,8232,8233]:List Nat))||(decide (c=13) && !decide (d=10))
noncomputable def lC(c d:Nat)(q:Int×Int):Int×Int:=match Vv c d with
 | true=>(q.1+1,0)
 | false=>match decide (c=65279) with
  | true=>q
  | false=>(q.1,q.2+1)
noncomputable def fwd:Nat→List Nat→Int×Int→Option (Int×Int)
 | 0,_,q=>some q
 | n+1,u,q=>match u with
  | []=>none
  | c::r=>match r with
   | []=>none
   | d::_=>fwd n r (lC c d q)
noncomputable def Dl(i:Int):Option Nat:=match i with
 | .ofNat n=>some n
 | .negSucc _=>none
noncomputable def Xw(d:Int)(args:List V):Option Nat:=match args with
 | []=>Dl d
 | a::r=>match r with
  | []=>(asInt a).bind Dl
  | _::_=>none
noncomputable def Ye:MFn:=fun args kw S=>onB (bU kw) (onO (Xw 0 args) (fun k=>onO (Dl S.ptr) (fun p=>onO S.text[p+k]? (fun c=>.ok (.str [c]) S) .bad) .bad) .bad) .bad
noncomputable def Rx{α:Type}:List α→Bool
 | []=>false
 | _::_=>true
noncomputable def Fq:MFn:=fun args kw S=>onB (bU kw) (onO (Xw 1 args) (fun k=>onO (Dl S.ptr) (fun p=>onB (Rx (S.text.drop p)) (.ok (.str ((S.text.drop p).take k)) S) .bad) .bad) .bad) .bad
noncomputable def Al:MFn:=fun args kw S=>onB (bU kw) (onO (Xw 1 args) (fun k=>onB (Nat.ble k 300) (onO (Dl S.ptr) (fun p=>onO (fwd k (S.text.drop p) (S.line,S.col)) (fun q=>.ok .none {S with ptr:=S.ptr+(k:Int),idx:=S.idx+(k:Int),line:=q.1,col:=q.2}) .bad) .bad) .bad) .bad) .bad
noncomputable def Yg:MFn:=fun args kw S=>onB (bU kw&&bU args) (.ok (mkV S) S) .bad
noncomputable def Ak:List (Str×MFn):=[("peek", Ye),("prefix", Fq),("forward", Al),("get_mark", Yg)]
theorem rG(N n:Nat)(m:Str):(TT N).tt (n+1) m=(TT N).text ((TT N).tt n) m:=by rfl
theorem jC{i:Int}{n:Nat}(h:Dl i=some n):i=n:=by
 cases i<;>first|(cases h;rfl)|exact ox h
theorem gK{α:Type}{l:List α}(h:bU l=true):l=[]:=by
 cases l<;>first|rfl|exact bx h
theorem uN{d:Int}{args:List V}{k:Nat}(h:Xw d args=some k):(args=[]∧d=k)∨args=[.int k]:=by
 cases args with
 | nil=>exact .inl ⟨rfl,jC h⟩
 | cons a r=>cases r with
  | nil=>
   refine aB (aD (show (asInt a).bind Dl=some k from h)) fun i e1 e2=>?_;rw[qH e1,jC e2];exact .inr rfl
  | cons=>exact ox h
noncomputable abbrev pB(a b:Res):Prop:=a=b∨a = .bad
theorem fH{α:Type}{o:Option α}{k:α→Res}{r:Res}(h:∀a,o=some a→pB (k a) r):pB (onO o k .bad) r:=by
 cases o with
 | none=>exact .inr rfl
 | some a=>exact h a rfl
theorem hX{c:Bool}{k r:Res}(h:c=true→pB k r):pB (onB c k .bad) r:=by
 cases c with
 | false=>exact .inr rfl
 | true=>exact h rfl
theorem Ko{l:List Nat}{p k:Nat}{c:Nat}(h:l[p+k]? = some c):iF l ((p:Int)+(k:Int))=some c:=by
 have e:(p:Int)+(k:Int)=((p+k:Nat):Int):=by rfl
 rw[e];exact h
theorem AH(N n:Nat)(args:List V)(kw:List (Str×V))(S:Sc):pB (Ye args kw S) ((TT N).tt (n+2) "peek" args kw S):=by
 refine hX fun h=>?_;rw[gK h];refine fH fun k hk=>fH fun p hp=>fH fun c hc=>.inl ?_;rw[rG];have e:=Ko hc
 rcases uN hk with ⟨rfl,e0⟩|rfl
 ·rw[show (TT N).text ((TT N).tt (n+1)) "peek" [] [] S=tx N ((TT N).tt (n+1)) "peek" [] S from rfl,Wt,jC hp,e0]
  show _=onO ((iF S.text _).map _) _ _;rw[e];rfl
 ·rw[show (TT N).text ((TT N).tt (n+1)) "peek" [.int k] [] S=tx N ((TT N).tt (n+1)) "peek" [.int k] S from rfl,CW,jC hp]
  show _=onO ((iF S.text _).map _) _ _;rw[e];rfl
theorem AI(N n:Nat)(args:List V)(kw:List (Str×V))(S:Sc):pB (Yg args kw S) ((TT N).tt (n+2) "get_mark" args kw S):=by
 refine hX fun h=>.inl ?_;refine aE (aA h) fun h1 h2=>?_;rw[gK h1,gK h2,rG];exact (CX N _ S).symm
theorem zJ(N n:Nat)(S:Sc)(v:V):(TT N).tt (n+1) "update" [v] [] S = .ok .none S:=Rb N _ S v
theorem Ln{c:Bool}{a b:Res}(h:a=b):onB c a b=b:=by
 cases c with
 | true=>exact h
 | false=>rfl
theorem Ce(n j:Nat):(max (0:Int) (min (j:Int) (n:Int))).toNat=min j n:=by
 rcases Nat.le_total j n with h|h
 ·rw[Nat.min_eq_left h,Int.min_eq_left (Int.ofNat_le.mpr h),Int.max_eq_right (Int.natCast_nonneg _)];rfl
 ·rw[Nat.min_eq_right h,Int.min_eq_right (Int.ofNat_le.mpr h),Int.max_eq_right (Int.natCast_nonneg _)];rfl
theorem eI(n j:Nat):clipAt n (j:Int)=min j n:=by
 unfold clipAt;rw[if_neg (Int.not_lt.mpr (Int.natCast_nonneg j)),Ce]
theorem Cd(n:Nat):clipAt (n+2) (-1)=n+1:=by
 unfold clipAt;rw[if_pos (by decide),show (-1:Int)+((n+2:Nat):Int)=((n+1:Nat):Int) by omega,Ce,Nat.min_eq_left (Nat.le_succ _)]
theorem yQ(n:Nat):clipAt (n+1) 1=1:=(eI (n+1) 1).trans (Nat.min_eq_left (Nat.succ_pos n))
theorem Jd{l:List Nat}{p k:Nat}(h:Rx (l.drop p)=true):cS l (some (p:Int)) (some ((p:Int)+(k:Int)))=(l.drop p).take k:=by
 have lt:p<l.length:=by
  rcases Nat.lt_or_ge p l.length with q|q
  ·exact q
  ·rw[List.drop_eq_nil_of_le q] at h;exact bx h
 show (l.drop (clipAt l.length (p:Int))).take (clipAt l.length ((p+k:Nat):Int)-clipAt l.length (p:Int))=_;rw[eI,eI,Nat.min_eq_left (bA lt)]
 rcases Nat.le_total (p+k) l.length with q|q
 ·rw[Nat.min_eq_left q,Nat.add_sub_cancel_left]
 ·rw[Nat.min_eq_right q]
  rw[List.take_of_length_le (by rw[List.length_drop];exact aK _),List.take_of_length_le (by rw[List.length_drop];lia)]
theorem Of(N n:Nat)(args:List V)(kw:List (Str×V))(S:Sc):pB (Fq args kw S) ((TT N).tt (n+2) "prefix" args kw S):=by
 refine hX fun h=>?_;rw[gK h];refine fH fun k hk=>fH fun p hp=>hX fun hc=>.inl ?_;have hp:=jC hp
 have main:Res.ok (.str ((S.text.drop p).take k)) S=tx N ((TT N).tt (n+1)) "prefix" [.int k] S:=by
  rw[Rh,zJ];refine Eq.trans ?_ (Ln rfl).symm;show _=Res.ok (.str (cS S.text (some S.ptr) (some (S.ptr+(k:Int))))) S;rw[hp,Jd hc]
 rw[rG]
 rcases uN hk with ⟨rfl,e0⟩|rfl
 ·rw[←e0] at main
  refine main.trans ?_
  kernel_rfl
 ·exact main
theorem cIn(c:Nat)(l:List Nat):aG .In (.str [c]) (.str l)=some (decide (c∈l)):=rfl
theorem cEq(c d:List Nat):aG .Eq (.str c) (.str d)=some (decide (c=d)):=rfl
theorem cNe(c d:List Nat):aG .NotEq (.str c) (.str d)=some (!decide (c=d)):=rfl
theorem xO(c d:Nat):decide ([c]=[d])=decide (c=d):=decide_eq_decide.mpr ⟨fun h=>(List.cons.inj h).1,fun h=>by rw[h]⟩
theorem eW(c d:Nat):aG .Eq (.str [c]) (.str [d])=some (decide (c=d)):=congrArg some (xO c d)
theorem yU(c d:Nat):aG .NotEq (.str [c]) (.str [d])=some (!decide (c=d)):=congrArg (fun b=>some (!b)) (xO c d)
theorem eP{P:Type}(x y:P):onB true x y=x:=rfl
theorem bI{P:Type}(x y:P):onB false x y=y:=rfl
theorem aX{α P:Type}(a:α)(k:α→P)(z:P):onO (some a) k z=k a:=rfl
theorem Gz{l u:List Nat}{p c:Nat}(h:l.drop p=c::u):l[p]? = some c∧l.drop (p+1)=u:=by
 constructor
 ·have:=List.getElem?_drop (xs:=l) (i:=p) (j:=0)
  rw[h] at this;exact this.symm
 ·rw[←List.drop_drop,h];rfl
theorem yB{l u:List Nat}{p c:Nat}(h:l.drop p=c::u):dN (.str l) (.int (p:Int))=some (.str [c]):=by
 have e:=(Gz h).1;show (iF l ((p:Nat):Int)).map _=_;have e2:iF l ((p:Nat):Int)=some c:=e;rw[e2];rfl
theorem FB{v:V}{g:V→Res}{z:Res}:onB (!false) (O1 (some v) g) z=g v:=rfl
theorem xV(N:Nat)(f:Str→MFn){q:Int×Int}{K:Fl→St→Res}:∀(k n p:Nat) (S:Sc),k<n→fwd k (S.text.drop p) (S.line,S.col)=some q→S.ptr=(p:Int)→
  LP N f "forward" [] 1 n ["self", "length"] (s0 [("length", .int (k:Int))] S) K=K .next (s0 [("length", .int 0)] {S with ptr:=S.ptr+(k:Int),idx:=S.idx+(k:Int),line:=q.1,col:=q.2}):=by
 intro k
 induction k with
 | zero=>
  intro n p S hn h hp;obtain⟨n,rfl⟩:∃m,n=m+1:=⟨n-1,by exact pm (by assumption)⟩;obtain rfl:=so h;rw[vQ];show K .next (s0 [("length", .int 0)] S)=_;rw[show S.ptr+((0:Nat):Int)=S.ptr by lia,show S.idx+((0:Nat):Int)=S.idx by lia]
 | succ k ih=>
  intro n p S hn h hp;obtain⟨n,rfl⟩:∃m,n=m+1:=⟨n-1,by exact pm (by lia)⟩;rw[vQ]
  cases hu:S.text.drop p with
  | nil=>rw[hu] at h;exact ox h
  | cons c r=>
   rw[hu] at h
   cases hr:r with
   | nil=>rw[hr] at h;exact ox h
   | cons d r'=>
    subst hr;have h:fwd k (d::r') (lC c d (S.line,S.col))=some q:=h;refine aE (Gz hu) fun _ h2=>?_
    have ei:dN (.str S.text) (.int S.ptr)=some (.str [c]):=by rw[hp];exact yB hu
    rw[cE (show ¬(((k+1:Nat):Int)=0) by lia),ei];rw[FB]
    have ex:dN (.str S.text) (.int (S.ptr+1))=some (.str [d]):=by
     rw[hp,show (p:Int)+1=((p+1:Nat):Int) by rfl];exact yB h2
    have e1:((k+1:Nat):Int)-1=(k:Int):=by lia
    have e2:S.ptr+1+(k:Int)=S.ptr+((k+1:Nat):Int):=by lia
    have e3:S.idx+1+(k:Int)=S.idx+((k+1:Nat):Int):=by lia
    have ih2:=fun (S':Sc) (h:fwd k (S'.text.drop (p+1)) (S'.line,S'.col)=some q) h1=>ih n (p+1) S' (by exact Nat.le_of_lt_succ ‹_›) h h1;rw[e1]
    have key:∀b:Bool,b=Vv c d→(onB b (LP N f "forward" [] 1 n ["self", "length"] (s0 [("length", .int (k:Int))] {S with ptr:=S.ptr+1,idx:=S.idx+1,line:=S.line+1,col:=0}) K)
   (O1 (aG .NotEq (.str [c]) (vs "\ufeff")) fun b=>onB b (LP N f "forward" [] 1 n ["self", "length"] (s0 [("length", .int (k:Int))] {S with ptr:=S.ptr+1,idx:=S.idx+1,col:=S.col+1}) K) (LP N f "forward" [] 1 n ["self", "length"] (s0 [("length", .int (k:Int))] {S with ptr:=S.ptr+1,idx:=S.idx+1}) K))) =
      K .next (s0 [("length", .int 0)] {S with ptr:=S.ptr+((k+1:Nat):Int),idx:=S.idx+((k+1:Nat):Int),line:=q.1,col:=q.2}):=by
     intro b hb;unfold lC at h;rw[←hb] at h
     cases b with
     | true=>
      refine (ih2 {S with ptr:=S.ptr+1,idx:=S.idx+1,line:=S.line+1,col:=0} (by rw[h2];exact h) (by show S.ptr+1=_;lia)).trans ?_;show K .next (s0 _ {S with ptr:=S.ptr+1+(k:Int),idx:=S.idx+1+(k:Int),line:=q.1,col:=q.2})=_;rw[e2,e3]
     | false=>
      rw[cNe];show onB (!decide ([c]=[65279])) _ _=_;rw[xO]
      cases hc:decide (c=65279) with
      | true=>
       rw[hc] at h;refine (ih2 {S with ptr:=S.ptr+1,idx:=S.idx+1} (by rw[h2];exact h) (by show S.ptr+1=_;lia)).trans ?_;show K .next (s0 _ {S with ptr:=S.ptr+1+(k:Int),idx:=S.idx+1+(k:Int),line:=q.1,col:=q.2})=_;rw[e2,e3]
      | false=>
       rw[hc] at h;refine (ih2 {S with ptr:=S.ptr+1,idx:=S.idx+1,col:=S.col+1} (by rw[h2];exact h) (by show S.ptr+1=_;lia)).trans ?_;show K .next (s0 _ {S with ptr:=S.ptr+1+(k:Int),idx:=S.idx+1+(k:Int),line:=q.1,col:=q.2})=_;rw[e2,e3]
    unfold Vv at key;unfold tOr gO tC;rw[show aG .In (.str [c]) (vs "\n\u0085\u2028\u2029")=some (decide (c∈([10,133,8232,8233]:List Nat))) by rfl,show aG .Eq (.str [c]) (vs "\r")=some (decide (c=13)) from eW c 13];dsimp only[aX];rw[ex];dsimp only[aX];rw[show aG .NotEq (.str [d]) (vs "\n")=some (!decide (d=10)) from yU d 10];dsimp only[aX];revert key
    cases decide (c∈([10,133,8232,8233]:List Nat)) with
    | true=>intro key;exact key _ rfl
    | false=>
     cases decide (c=13) with
     | false=>intro key;exact key _ rfl
     | true=>
      cases decide (d=10) with
      | true=>intro key;exact key _ rfl
      | false=>intro key;exact key _ rfl
theorem Js(n:Nat)(args:List V)(kw:List (Str×V))(S:Sc):pB (Al args kw S) ((TT 400).tt (n+2) "forward" args kw S):=by
 refine hX fun h=>?_;rw[gK h];refine fH fun k hk=>hX fun hb=>fH fun p hp=>fH fun q hq=>.inl ?_;have hp:=jC hp;have hb:=eQ hb
 have main:Res.ok .none {S with ptr:=S.ptr+(k:Int),idx:=S.idx+(k:Int),line:=q.1,col:=q.2}=tx 400 ((TT 400).tt (n+1)) "forward" [.int k] S:=by
  rw[Le,zJ];refine Eq.trans ?_ (Ln rfl).symm;show _=X 400 ((TT 400).tt (n+1)) "forward" [] 1 (s0 [("length", .int (k:Int))] S) bB;rw[Hu,xV 400 _ k 400 p S (by lia) hq hp]
  kernel_rfl
 rw[rG]
 rcases uN hk with ⟨rfl,e0⟩|rfl
 ·rw[←e0] at main
  rw[e0] at main;refine main.trans ?_;rw[←e0];exact (Ej 400 _ S).symm
 ·exact main
section
open PySem.Calls PyProof.Rows
noncomputable def uu:Nat→Str→MFn
 | 0=>(TT 400).tt 2
 | n+1=>fun m=>(look m Ak).elim ((TT 400).text (uu n) m) id
theorem rO{α:Type}{m y:Str}{w g:α}{r:List (Str×α)}{P:Prop}(h:look m ((y,w)::r)=some g)(a:y=m→w=g→P)(b:look m r=some g→P):P:=by
 have h:(if y=m then some w else look m r)=some g:=h
 by_cases q:y=m
 ·rw[if_pos q] at h;exact a q (so h)
 ·rw[if_neg q] at h;exact b h
theorem FS{m:Str}{g:MFn}(h:look m Ak=some g)(n:Nat)(args:List V)(kw:List (Str×V))(S:Sc):pB (g args kw S) ((TT 400).tt (n+2) m args kw S):=by
 refine rO h (fun e1 e2=>?_) fun h=>rO h (fun e1 e2=>?_) fun h=>rO h (fun e1 e2=>?_) fun h=>rO h (fun e1 e2=>?_) fun h=>ox h
 all_goals rw[←e1,←e2]
 ·exact AH 400 n args kw S
 ·exact Of 400 n args kw S
 ·exact Js n args kw S
 ·exact AI 400 n args kw S
theorem Mb{W:Wd}(H:Lr W (TT 400))(n:Nat):∀m d,look m (TT 400).mths=some d→∃f,gV W.K W.scan m f=true∧aW W (n+4) f true (tQ (uu n m)):=by
 induction n with
 | zero=>exact H.tower 2
 | succ n ih=>
  intro m d e
  cases q:look m Ak with
  | some g=>
   refine aB (H.tower (n+3) m d e) fun f h1 h2=>?_;refine⟨f,h1,?_⟩
   have e2:uu (n+1) m=g:=by show (look m Ak).elim _ _=_;rw[q];rfl
   rw[e2];have S:aW W (n+3+2) f true (tQ g):=Ib h2 fun args kw S=>FS q (n+1) args kw S;exact @S
  | none=>
   have e2:uu (n+1) m=(TT 400).text (uu n) m:=by show (look m Ak).elim _ _=_;rw[q];rfl
   refine DK (H.mths m d e) fun f fd h1 h2 h3 h4=>?_;refine⟨f,h2,?_⟩
   have Y:nQ W (n+2) 1 ((TT 400).mo (uu n)):=H.hyps (Nat.lt_succ_self _) (fun m sp q=>by
    obtain⟨rfl,d,q⟩:=kX q
    exact ih m d q) (fun x sp q=>nomatch q) (fun q=>nomatch q)
   have S:aW W (n+2+1+2) f true (tQ (Ah (eC (evN ((TT 400).mo (uu n)) 60) true fd.scope d.2.1 d.2.2))):=sD (eT (slf:=true) pS h3 h4 (nM Y 60).HXs);rw[h1] at S
   have e3:(TT 400).text (uu n) m=Ah (eC (evN ((TT 400).mo (uu n)) 60) true d.1 d.2.1 d.2.2):=by
    show (match look m (TT 400).mths with|some d=>Ah (eC (evN ((TT 400).mo (uu n)) 60) true d.1 d.2.1 d.2.2)|none=>fun _ _ _=>.bad)=_;rw[e]
   rw[e2,e3];exact @S
noncomputable def lI(f:Str→MFn):Nat→Sc→Option (List V)
 | 0,_=>some []
 | n+1,S=>match f "get_token" [] [] S with
  | .ok v S'=>(eJ (OO 400 f) v "id").bind fun i=>(lI f n S').map fun r=>i::r
  | _=>none
noncomputable def dO(t:List Nat):Sc:=⟨t,0,0,0,0,false,0,[.obj 271 [("start_mark", mkV ⟨t,0,0,0,0,false,0,[],0,0,[],false,[]⟩),("end_mark", mkV ⟨t,0,0,0,0,false,0,[],0,0,[],false,[]⟩),("encoding", .none)]],0,-1,[],true,[]⟩
theorem BI(t:List Nat):lI (uu 12) 3 (dO (45::32::t))=some [vs "<stream start>", vs "<block sequence start>", vs "-"]:=by kernel_rfl
theorem BJ(t:List Nat):lI (uu 12) 3 (dO (65279::45::32::t))=some [vs "<stream start>", vs "<block sequence start>", vs "-"]:=by kernel_rfl
theorem BK(t:List Nat):lI (uu 12) 5 (dO (107::58::32::118::t))=some [vs "<stream start>", vs "<block mapping start>", vs "?", vs "<scalar>", vs ":"]:=by kernel_rfl
theorem BH(t:List Nat):lI (uu 12) 7 (dO (63::32::91::107::93::10::58::32::t))=some [vs "<stream start>", vs "<block mapping start>", vs "?", vs "[", vs "<scalar>", vs "]", vs ":"]:=by kernel_rfl
end
noncomputable def ch(t:List Nat)(i:Nat):Nat:=t[i]?.getD 0
noncomputable def isB(c:Nat):Bool:=decide (c∈([0,32,9,13,10,133,8232,8233]:List Nat))
noncomputable def isE(c:Nat):Bool:=decide (c∈([0,13,10,133,8232,8233]:List Nat))
noncomputable def isL(c:Nat):Bool:=decide (c∈([13,10,133,8232,8233]:List Nat))
noncomputable def cut(t:List Nat)(a b:Nat):List Nat:=(t.drop a).take (b-a)
noncomputable def lc(t:List Nat):Nat→Int×Int
 | 0=>(0,0)
 | p+1=>lC (ch t p) (ch t (p+1)) (lc t p)
noncomputable def mk(t:List Nat)(i:Nat):V:=.obj 46 [("name", .str lW),("index", .int i),("line", .int (lc t i).1),("column", .int (lc t i).2),("buffer", .str t),("pointer", .int i)]
inductive Tk where
 | two (c b e:Nat)
 | dir (b e:Nat)
 | nam (c:Nat) (v:List Nat) (b e:Nat)
 | tag (h x:List Nat) (b e:Nat)
 | sca (v:List Nat) (plain:Bool) (style:List Nat) (b e:Nat)
set_option genCtorIdx true in
gen_injective_theorems% Tk
noncomputable def Tk.b:Tk→Nat
 | .two _ b _=>b
 | .dir b _=>b
 | .nam _ _ b _=>b
 | .tag _ _ b _=>b
 | .sca _ _ _ b _=>b
noncomputable def Tk.e:Tk→Nat
 | .two _ _ e=>e
 | .dir _ e=>e
 | .nam _ _ _ e=>e
 | .tag _ _ _ e=>e
 | .sca _ _ _ _ e=>e
noncomputable def Ct(s:List Nat):V:=match s with
 | []=>.none
 | _::_=>.str s
noncomputable def tkV(t:List Nat):Tk→V
 | .two c b e=>fO c (mk t b) (mk t e)
 | .dir b e=>.obj 227 [("name", .str [68]),("value", .none),("start_mark", mk t b),("end_mark", mk t e)]
 | .nam c v b e=>.obj c [("value", .str v),("start_mark", mk t b),("end_mark", mk t e)]
 | .tag h x b e=>.obj 472 [("value", .tup [.str h,.str x]),("start_mark", mk t b),("end_mark", mk t e)]
 | .sca v p s b e=>.obj 492 [("value", .str v),("plain", .bool p),("start_mark", mk t b),("end_mark", mk t e),("style", Ct s)]
structure Ky where
 lv:Int
 i:Nat
 req:Bool
 at_:Nat
noncomputable def kyV(t:List Nat)(k:Ky):V:=Vu (.int ((k.i:Int)+1)) (.bool k.req) (.int k.at_) (.int (lc t k.at_).1) (.int (lc t k.at_).2) (mk t k.at_)
structure SS where
 p:Nat
 done:Bool
 flow:Int
 ts:List Tk
 taken:Nat
 ind:Int
 inds:List Int
 allow:Bool
 ks:List Ky
noncomputable def sc(t:List Nat)(s:SS):Sc:=⟨t,s.p,s.p,(lc t s.p).1,(lc t s.p).2,s.done,s.flow,s.ts.map (tkV t),s.taken,s.ind,s.inds.map .int,s.allow,s.ks.map fun k=>(k.lv,kyV t k)⟩
noncomputable def fJ:Bool→List Nat→Option Bool
 | r,[]=>some r
 | r,c::g=>match isL c with
  | true=>fJ false g
  | false=>match decide (c=35) with
   | true=>fJ true g
   | false=>match decide (c=32)||r with
    | true=>fJ r g
    | false=>none
noncomputable def gJ(bl en:List Nat):List Nat:=match en with
 | []=>bl
 | c::r=>match decide (c=10) with
  | false=>c::r
  | true=>match r with
   | []=>[32]
   | _::_=>r
noncomputable def dK(q:Nat):Nat→List Nat→List Nat→List Nat→List Nat→List Nat
 | 0,_,out,bl,en=>out++gJ bl en
 | _+1,[],out,bl,en=>out++gJ bl en
 | n+1,c::r,out,bl,en=>match decide (c=13)&&decide (r.head? = some 10) with
  | true=>dK q n r out bl en
  | false=>match decide (c∈([13,10,133]:List Nat)) with
   | true=>dK q n r out bl (en++[10])
   | false=>match decide (c∈([8232,8233]:List Nat)) with
    | true=>dK q n r out bl (en++[c])
    | false=>match decide (c=32) with
     | true=>dK q n r out (bl++[c]) en
     | false=>match decide (c=q) with
      | true=>dK q n r.tail (out++(gJ bl en++[c])) [] []
      | false=>dK q n r (out++(gJ bl en++[c])) [] []
noncomputable def Bu(q:Nat)(part:List Nat):List Nat:=dK q part.length part [] [] []
noncomputable def dF(part:List Nat):List Nat:=part.filter fun c=>!decide (c=32) && !isL c
noncomputable def iU(c:Nat):List Nat:=(([(331,[91]),(343,[123]),(355,[93]),(367,[125]),(415,[44]),(391,[58]),(403,[45]),(239,[45,45,45]),(251,[46,46,46])]:List (Nat×List Nat)).lookup c).getD []
noncomputable def kM:List Nat:=[283,295,307,319,331,343,355,367,379,391,403,415,239,251]
noncomputable def spelt(k:Tk)(part:List Nat):Prop:=match k with
 | .two c _ _=>c∈kM∧(part=iU c∨(c=379∧part=[63]))
 | .dir _ _=>part=[37,68]
 | .nam c v _ _=>(c=434∧part=42::v)∨(c=453∧part=38::v)
 | .tag h x _ _=>part=h++x
 | .sca v p s _ _=>(p=true∧s=[]∧v≠[]∧v=Bu 0 part)∨(p=false∧s=[124]∧∃r,part=124::r∧dF v=dF r∧v.length≤9000)∨(p=false∧∃q r,(q=34∨q=39)∧s=[q]∧part=q::(r++[q])∧v=Bu q r)
noncomputable def dC(t:List Nat)(at_:Nat)(level:Int):Prop:=isB (ch t at_)=true∨(ch t at_=58∧(isB (ch t (at_+1))=true∨(level≠0∧ch t (at_+1)∈([44,91,93,123,125]:List Nat))))∨(level≠0∧ch t at_∈([44,63,91,93,123,125]:List Nat))
structure LS where
 last:Nat
 level:Int
 blocks:Int
 bf:Nat
noncomputable def kI:Tk→Nat
 | .two c _ _=>match decide (c=283) with
  | true=>1
  | false=>0
 | .dir _ _=>3
 | .sca _ p _ _ _=>match p with
  | true=>2
  | false=>0
 | _=>0
noncomputable def oU:Tk→Int
 | .two c _ _=>match decide (c=331)||decide (c=343) with
  | true=>1
  | false=>match decide (c=355)||decide (c=367) with
   | true=>-1
   | false=>0
 | _=>0
noncomputable def hN:Tk→Int
 | .two c _ _=>match decide (c=295)||decide (c=307) with
  | true=>1
  | false=>match decide (c=319) with
   | true=>-1
   | false=>0
 | _=>0
noncomputable def dH(s:LS)(k:Tk):LS:=⟨k.e,s.level+oU k,s.blocks+hN k,kI k⟩
structure gA(t:List Nat)(bf a b:Nat):Prop where
 le:a≤b
 hash:bf=2→ch t a≠35
 bare:∃r,fJ (decide (bf=3)) (cut t a b)=some r
structure Zd(t:List Nat)(s:LS)(k:Tk):Prop where
 bf:s.bf≠1
 gap:gA t s.bf s.last k.b
 le:k.b≤k.e
 len:k.e<t.length
 spelt:spelt k (cut t k.b k.e)
 ended:kI k=2→dC t k.e s.level
 blk:hN k = -1→1≤s.blocks
noncomputable def uR(t:List Nat):LS→List Tk→Prop
 | _,[]=>True
 | s,k::r=>Zd t s k∧uR t (dH s k) r
noncomputable def bW(s:LS)(l:List Tk):LS:=l.foldl dH s
noncomputable def ls0(t:List Nat):LS:=⟨match decide (ch t 0=65279) with
 | true=>1
 | false=>0,0,0,0⟩
theorem lK{t:List Nat}{l r:List Tk}:∀{s:LS},uR t s (l++r)↔uR t s l∧uR t (bW s l) r:=by
 induction l with
 | nil=>intro s;exact⟨fun h=>⟨trivial,h⟩,fun h=>h.2⟩
 | cons k l ih=>intro s;exact⟨fun h=>⟨⟨h.1,(ih.mp h.2).1⟩,(ih.mp h.2).2⟩,fun h=>⟨h.1.1,ih.mpr ⟨h.1.2,h.2⟩⟩⟩
theorem lP{l r:List Tk}{s:LS}:bW s (l++r)=bW (bW s l) r:=List.foldl_append
noncomputable def wgt(c:Nat):Nat:=match decide (c=58) with
 | true=>4
 | false=>match decide (c=45)||decide (c=63) with
  | true=>3
  | false=>match decide (c=32)||(decide (c=0)||isL c) with
   | true=>0
   | false=>1
noncomputable def wt(t:List Nat)(p:Nat):Nat:=((t.drop p).map wgt).sum
theorem cY(t:List Nat)(a:Nat):cut t a a=[]:=by unfold cut;rw[Nat.sub_self];rfl
theorem eN{t:List Nat}{a:Nat}(h:a<t.length):t.drop a=ch t a::t.drop (a+1):=by
 rw[List.drop_eq_getElem_cons h]
 congr 1
 unfold ch;rw[List.getElem?_eq_getElem h];rfl
theorem nT{t:List Nat}{a:Nat}(h:a<t.length):wt t a=wgt (ch t a)+wt t (a+1):=by
 unfold wt;rw[eN h];rfl
theorem rF{t:List Nat}{a b:Nat}(h:a≤b):wt t b≤wt t a:=by
 induction h with
 | refl=>exact aK _
 | @step m _ ih=>
  refine aJ ?_ ih
  rcases Nat.lt_or_ge m t.length with q|q
  ·rw[nT q];exact Nat.le_add_left _ _
  ·unfold wt;rw[List.drop_eq_nil_of_le q,List.drop_eq_nil_of_le (Nat.le_succ_of_le q)];exact aK _
theorem eZ{t:List Nat}{a:Nat}(h:a<t.length):cut t a (a+1)=[ch t a]:=by
 unfold cut;rw[eN h,Nat.add_sub_cancel_left];rfl
theorem cC{t:List Nat}{a b c:Nat}(h1:a≤b)(h2:b≤c):cut t a c=cut t a b++cut t b c:=by
 unfold cut
 have e:c-a=(b-a)+(c-b):=by rw[Nat.add_comm (b-a),Nat.sub_add_sub_cancel h2 h1]
 rw[e,List.take_add,List.drop_drop]
 congr 3
 exact Nat.add_sub_of_le ‹_›
theorem fW{t:List Nat}{a b:Nat}(h1:a<b)(h:a<t.length):cut t a b=ch t a::cut t (a+1) b:=by
 rw[cC (Nat.le_succ a) h1,eZ h];rfl
theorem Rv{t:List Nat}{a b:Nat}(h1:a≤b)(h:b<t.length):cut t a (b+1)=cut t a b++[ch t b]:=by
 rw[cC h1 (Nat.le_succ b),eZ h]
theorem iP{t:List Nat}{a b:Nat}(h:b≤t.length):(cut t a b).length=b-a:=by
 unfold cut;rw[List.length_take,List.length_drop];exact Nat.min_eq_left (Nat.sub_le_sub_right ‹_› _)
theorem gM(r:Bool)(c:Nat)(g:List Nat):fJ r (c::g)=match isL c with
  | true=>fJ false g
  | false=>match decide (c=35) with
   | true=>fJ true g
   | false=>match decide (c=32)||r with
    | true=>fJ r g
    | false=>none:=rfl
theorem qF{a b:List Nat}:∀{r:Bool},fJ r (a++b)=(fJ r a).bind fun r'=>fJ r' b:=by
 induction a with
 | nil=>intro r;rfl
 | cons c a ih=>
  intro r;rw[List.cons_append,gM,gM]
  cases isL c with
  | true=>exact ih
  | false=>cases decide (c=35) with
   | true=>exact ih
   | false=>cases (decide (c=32)||r) with
    | true=>exact ih
    | false=>rfl
noncomputable def eR(t:List Nat)(a b:Nat):Prop:=∀r,∃r',fJ r (cut t a b)=some r'
theorem eR.refl(t:List Nat)(a:Nat):eR t a a:=fun r=>⟨r,by rw[cY];rfl⟩
theorem eR.trans{t:List Nat}{a b c:Nat}(h1:eR t a b)(h2:eR t b c)(l1:a≤b)(l2:b≤c):eR t a c:=fun r=>by
 refine bG (h1 r) fun r1 e1=>?_;refine bG (h2 r1) fun r2 e2=>?_;exact⟨r2,by rw[cC l1 l2,qF,e1];exact e2⟩
theorem gA.more{t:List Nat}{bf a b c:Nat}(h:gA t bf a b)(h2:eR t b c)(l:b≤c):gA t bf a c:=by
 refine bG h.bare fun r e=>?_;refine bG (h2 r) fun r' e'=>?_;exact⟨aJ h.le l,h.hash,r',by rw[cC h.le l,qF,e];exact e'⟩
theorem gA.refl{t:List Nat}{bf a:Nat}(h:bf=2→ch t a≠35):gA t bf a a:=⟨aK _,h,_,by rw[cY];rfl⟩
noncomputable def Res.sat(r:Res)(Q:V→Sc→Prop)(E:V→Prop):Prop:=match r with
 | .ok v S=>Q v S
 | .err e=>E e
 | .bad=>False
theorem bS{r:Res}{k:V→Sc→Res}{Q:V→Sc→Prop}{E:V→Prop}(h:r.sat (fun v S=>(k v S).sat Q E) E):(r.go k).sat Q E:=by
 cases r with
 | ok v S=>exact h
 | err e=>exact h
 | bad=>exact h
theorem dG{r:Res}{Q Q':V→Sc→Prop}{E E':V→Prop}(h:r.sat Q E)(hq:∀v S,Q v S→Q' v S)(he:∀e,E e→E' e):r.sat Q' E':=by
 cases r with
 | ok v S=>exact hq _ _ h
 | err e=>exact he _ h
 | bad=>exact h
theorem aN{r r':Res}{Q:V→Sc→Prop}{E:V→Prop}(e:r=r')(h:r'.sat Q E):r.sat Q E:=e▸h
theorem vB{m:Str}{n:Nat}{a:List V}{S:Sc}(h:look m Ak=none):uu (n+1) m a [] S=tx 400 (uu n) m a S:=by
 show (look m Ak).elim ((TT 400).text (uu n) m) id a [] S=_;rw[h];rfl
theorem bE{m:Str}{n:Nat}{a:List V}{S:Sc}{r:Res}{Q:V→Sc→Prop}{E:V→Prop}(e:tx 400 (uu n) m a S=r)(h:look m Ak=none)(k:r.sat Q E):(uu (n+1) m a [] S).sat Q E:=by
 rw[vB h];exact aN e k
theorem aH{α:Type}{o:Option α}{a:α}{k:α→Res}{Q:V→Sc→Prop}{E:V→Prop}(e:o=some a)(h:(k a).sat Q E):(onO o k .bad).sat Q E:=by
 rw[e];exact h
theorem aT{b:Bool}{x y:Res}{Q:V→Sc→Prop}{E:V→Prop}(h1:b=true→x.sat Q E)(h2:b=false→y.sat Q E):(onB b x y).sat Q E:=by
 cases b with
 | true=>exact h1 rfl
 | false=>exact h2 rfl
theorem aZ{b:Bool}{x y:Res}{Q:V→Sc→Prop}{E:V→Prop}(e:b=true)(h:x.sat Q E):(onB b x y).sat Q E:=by rw[e];exact h
theorem aQ{b:Bool}{x y:Res}{Q:V→Sc→Prop}{E:V→Prop}(e:b=false)(h:y.sat Q E):(onB b x y).sat Q E:=by rw[e];exact h
theorem ER(K:Bool→Sc→Res):(fun b S=>onB (!b) (K b S) (K true S))=K:=by
 funext b S
 cases b<;>rfl
theorem wOr(K:Bool→Sc→Res):(fun b S=>onB b (K b S) (K false S))=K:=by
 funext b S
 cases b<;>rfl
theorem cJ(A B:T)(S:Sc)(K:Bool→Sc→Res):gO A B S K=A S fun a S=>onB a (B S K) (K false S):=by
 unfold gO;rw[ER]
 congr 1
 funext a S
 cases a<;>rfl
theorem pC(A B:T)(S:Sc)(K:Bool→Sc→Res):tOr A B S K=A S fun a S=>onB a (K true S) (B S K):=by
 unfold tOr;rw[wOr]
 congr 1
 funext a S
 cases a<;>rfl
theorem Mg(A B C:T)(S:Sc)(K:Bool→Sc→Res):Mh A B C S K=A S fun a S=>onB a (B S fun b S=>onB b (C S K) (K false S)) (K false S):=by
 unfold Mh;rw[ER]
 congr 1
 funext a S
 cases a with
 | false=>rfl
 | true=>
  show B S _=B S _
  congr 1
  funext b S
  cases b<;>rfl
theorem Fe(A B C:T)(S:Sc)(K:Bool→Sc→Res):Uc A B C S K=A S fun a S=>onB a (K true S) (B S fun b S=>onB b (K true S) (C S K)):=by
 unfold Uc;rw[wOr]
 congr 1
 funext a S
 cases a with
 | true=>rfl
 | false=>
  show B S _=B S _
  congr 1
  funext b S
  cases b<;>rfl
structure TF(t:List Nat):Prop where
 pos:1≤t.length
 len:t.length≤200
 last:ch t (t.length-1)=0
 nz:∀i,i+1<t.length→ch t i≠0
 abs:∀i,ch t i ∉ ([9,92,62,64,96]:List Nat)
 star:∀i,ch t i=42→ch t (i+1)=121∧ch t (i+2)=32
 amp:∀i,ch t i=38→ch t (i+1)=120∧ch t (i+2)=32
 bang:∀i,ch t i=33→(ch t (i+1)=116∧ch t (i+2)=32)∨(ch t (i+1)=105∧ch t (i+2)=32)∨(ch t (i+1)=33∧ch t (i+2)=105∧ch t (i+3)=32)
 pct:∀i,ch t i=37→ch t (i+1)=68∧ch t (i+2)=32∧∃j,i=j+1∧ch t j=10
 bar:∀i,ch t i=124→ch t (i+1)=10
 bom:∀i,ch t i=65279→i=0
 wt:wt t 0≤110
 cr:∀i,ch t i=13→ch t (i+1)=10
theorem Se{t:List Nat}{i:Nat}(h:t.length≤i):ch t i=0:=by
 unfold ch;rw[List.getElem?_eq_none h];rfl
theorem IK{t:List Nat}{i:Nat}(h:i<t.length):t[i]? = some (ch t i):=by
 unfold ch;rw[List.getElem?_eq_getElem h];rfl
section
variable{t:List Nat}{s:SS}{n:Nat}{Q:V→Sc→Prop}{E:V→Prop}(F:TF t)
include F
theorem TF.lt{i:Nat}(h:ch t i≠0):i+1<t.length:=by
 rcases Nat.lt_or_ge (i+1) t.length with q|q
 ·exact q
 ·exfalso
  rcases Nat.lt_or_ge i t.length with z|z
  ·have:i=t.length-1:=zh q z
   rw[this,F.last] at h;exact h rfl
  ·exact h (Se z)
theorem TF.notabs{i c:Nat}(e:ch t i=c)(h:c∈([9,92,62,64,96]:List Nat)):False:=F.abs i (e▸h)
omit F
theorem BR:∀{k p:Nat},p+k<t.length→fwd k (t.drop p) (lc t p)=some (lc t (p+k)):=by
 intro k
 induction k with
 | zero=>intro p h;rfl
 | succ k ih=>
  intro p h;rw[eN (show p<t.length by exact zd ‹_›),eN (show p+1<t.length by lia)];show fwd k (ch t (p+1)::t.drop (p+1+1)) (lC (ch t p) (ch t (p+1)) (lc t p))=_;rw[←eN (show p+1<t.length by lia)];have:=ih (p:=p+1) (by lia);rw[show p+(k+1)=p+1+k by exact Nat.le_antisymm (by lia) (by lia)];exact this
theorem rV{k:Nat}(h:s.p+k<t.length):uu (n+1) "peek" [.int k] [] (sc t s) = .ok (.str [ch t (s.p+k)]) (sc t s):=by
 show onO t[s.p+k]? (fun c=>Res.ok (.str [c]) (sc t s)) .bad=_;rw[IK h];rfl
theorem Fc(h:s.p<t.length):uu (n+1) "peek" [] [] (sc t s) = .ok (.str [ch t s.p]) (sc t s):=rV (n:=n) (k:=0) h
theorem zK{k:Nat}(h:s.p<t.length):uu (n+1) "prefix" [.int k] [] (sc t s) = .ok (.str ((t.drop s.p).take k)) (sc t s):=by
 show onB (Rx (t.drop s.p)) (Res.ok (.str ((t.drop s.p).take k)) (sc t s)) .bad=_;rw[eN h];rfl
theorem ET{k:Nat}(h:s.p+k<t.length)(h2:k≤300):uu (n+1) "forward" [.int k] [] (sc t s) = .ok .none (sc t {s with p:=s.p+k}):=by
 show onB (Nat.ble k 300) (onO (fwd k (t.drop s.p) (lc t s.p)) (fun q=>Res.ok .none {sc t s with ptr:=(s.p:Int)+(k:Int),idx:=(s.p:Int)+(k:Int),line:=q.1,col:=q.2}) .bad) .bad=_;rw[fX h2,BR h];rfl
theorem Zp:uu (n+1) "get_mark" [] [] (sc t s) = .ok (mk t s.p) (sc t s):=rfl
theorem fV{k:Nat}{K:V→Sc→Res}(h:s.p+k<t.length)(hk:(K (.str [ch t (s.p+k)]) (sc t s)).sat Q E):((uu (n+1) "peek" [.int k] [] (sc t s)).go K).sat Q E:=by
 rw[rV h];exact hk
theorem bC{K:V→Sc→Res}(h:s.p<t.length)(hk:(K (.str [ch t s.p]) (sc t s)).sat Q E):((uu (n+1) "peek" [] [] (sc t s)).go K).sat Q E:=by
 rw[Fc h];exact hk
theorem dJ{k:Nat}{K:V→Sc→Res}(h:s.p<t.length)(hk:(K (.str ((t.drop s.p).take k)) (sc t s)).sat Q E):((uu (n+1) "prefix" [.int k] [] (sc t s)).go K).sat Q E:=by
 rw[zK h];exact hk
theorem jF{k:Nat}{K:V→Sc→Res}(h:s.p+k<t.length)(h2:k≤300)(hk:(K .none (sc t {s with p:=s.p+k})).sat Q E):((uu (n+1) "forward" [.int k] [] (sc t s)).go K).sat Q E:=by
 rw[ET h h2];exact hk
theorem eS{K:V→Sc→Res}(h:s.p+1<t.length)(hk:(K .none (sc t {s with p:=s.p+1})).sat Q E):((uu (n+1) "forward" [] [] (sc t s)).go K).sat Q E:=jF (n:=n) (k:=1) h (by exact Nat.succ_pos _) hk
theorem bV{K:V→Sc→Res}(hk:(K (mk t s.p) (sc t s)).sat Q E):((uu (n+1) "get_mark" [] [] (sc t s)).go K).sat Q E:=by
 rw[Zp];exact hk
theorem lZ{L:Nat→Sc→Res}{K:Sc→Res}{g:V→Option Bool}{test:Nat→Bool}(n:Nat)(F:TF t)(hs:∀m S,L (m+1) S=c0 (uu (n+1)) "peek" S fun c S=>O1 (g c) fun b=>onB b (c0r (uu (n+1)) "forward" S fun S=>L m S) (K S))
  (hg:∀c,g (.str [c])=some (test c)) (h0:test 0=false):∀(m:Nat) (s:SS),s.p<t.length→t.length-s.p<m→(∀q,s.p≤q→q<t.length→(∀i,s.p≤i→i<q→test (ch t i)=true)→test (ch t q)=false→(K (sc t {s with p:=q})).sat Q E)→(L m (sc t s)).sat Q E:=by
 intro m
 induction m with
 | zero=>intro s _ h;exact absurd ‹_› (Nat.not_lt_zero _)
 | succ m ih=>
  intro s hp hm hk;rw[hs];refine bC hp (aH (hg _) (aT (fun e=>?_) fun e=>?_))
  ·have lt:=F.lt (i:=s.p) (fun z=>by rw[z,h0] at e;exact bx e)
   refine eS lt (ih _ lt (by show t.length-(s.p+1)<m;exact dc ‹_› (by exact aK _) ‹_›) fun q h1 h2 h3 h4=>hk q (by have:s.p+1≤q:=h1;exact bA ‹_›) h2 (fun i i1 i2=>?_) h4)
   rcases Nat.lt_or_eq_of_le i1 with z|z
   ·exact h3 i z i2
   ·rw[←z];exact e
  ·exact hk s.p (aK _) hp (fun i i1 i2=>by lia) e
theorem jT{L:Nat→Int→Sc→Res}{K:Int→Sc→Res}{g:V→Option Bool}{test:Nat→Bool}(n:Nat)(F:TF t)(hs:∀m k S,L (m+1) k S=c1 (uu (n+1)) "peek" (.int k) S fun c S=>O1 (g c) fun b=>onB b (L m (k+1) S) (K k S))
  (hg:∀c,g (.str [c])=some (test c)) (h0:test 0=false):∀(m k:Nat),s.p+k<t.length→t.length-(s.p+k)<m→(∀j,k≤j→s.p+j<t.length→(∀i,s.p+k≤i→i<s.p+j→test (ch t i)=true)→test (ch t (s.p+j))=false→(K (j:Int) (sc t s)).sat Q E)→(L m (k:Int) (sc t s)).sat Q E:=by
 intro m
 induction m with
 | zero=>intro k _ h;exact absurd ‹_› (Nat.not_lt_zero _)
 | succ m ih=>
  intro k hp hm hk;rw[hs];refine fV hp (aH (hg _) (aT (fun e=>?_) fun e=>?_))
  ·have lt:=F.lt (i:=s.p+k) (fun z=>by rw[z,h0] at e;exact bx e)
   refine ih (k+1) (by assumption) (by exact dc ‹_› (by exact aK _) ‹_›) fun j h1 h2 h3 h4=>hk j (by exact bA ‹_›) h2 (fun i i1 i2=>?_) h4
   rcases Nat.lt_or_eq_of_le i1 with z|z
   ·exact h3 i (by assumption) i2
   ·rw[←z];exact e
  ·exact hk k (aK _) hp (fun i i1 i2=>by lia) e
end
noncomputable def lbv(c:Nat):Nat:=match decide (c∈([13,10,133]:List Nat)) with
 | true=>10
 | false=>c
noncomputable def aV(t:List Nat)(p:Nat):Nat:=match decide (ch t p=13)&&decide (ch t (p+1)=10) with
 | true=>2
 | false=>1
theorem Ps{c:Nat}(h:isL c=true):c≠0:=fun q=>by rw[q] at h;exact bx h
theorem cT{t:List Nat}{p:Nat}(F:TF t)(h:isL (ch t p)=true):p+aV t p<t.length:=by
 have l1:=F.lt (Ps h);unfold aV
 cases e:(decide (ch t p=13)&&decide (ch t (p+1)=10)) with
 | false=>exact l1
 | true=>
  refine aE (aA e) fun _ e2=>?_;have:=F.lt (i:=p+1) (by rw[aI e2];decide);exact this
theorem dI(t:List Nat)(p:Nat):1≤aV t p:=by
 unfold aV
 cases (decide (ch t p=13)&&decide (ch t (p+1)=10))<;>decide
theorem pW(c:Nat):isL c=(decide (c∈([13,10,133]:List Nat))||decide (c∈([8232,8233]:List Nat))):=by
 unfold isL;rw[←Bool.decide_or];refine decide_eq_decide.mpr ?_;simp only[List.mem_cons,List.not_mem_nil,or_false];lia
section
variable{t:List Nat}{s:SS}{n:Nat}{Q:V→Sc→Prop}{E:V→Prop}
theorem gN{K:V→Sc→Res}(F:TF t)(hp:s.p<t.length)(h1:isL (ch t s.p)=true→(K (.str [lbv (ch t s.p)]) (sc t {s with p:=s.p+aV t s.p})).sat Q E)(h2:isL (ch t s.p)=false→(K (.str []) (sc t s)).sat Q E) :
  ((uu (n+2) "scan_line_break" [] [] (sc t s)).go K).sat Q E:=by
 refine bS ?_;have e:uu (n+2) "scan_line_break" [] [] (sc t s)=tx 400 (uu (n+1)) "scan_line_break" [] (sc t s):=rfl;rw[e,Xf];have sp:=pW (ch t s.p);refine bC hp (aH (a:=decide (ch t s.p∈([13,10,133]:List Nat))) rfl (aT (fun e1=>?_) fun e1=>?_))
 ·rw[e1] at sp
  have h1:=h1 sp;have l1:=cT F sp;have lt:=F.lt (Ps sp);unfold lbv at h1;rw[e1] at h1;unfold aV at h1 l1;refine dJ (k:=2) hp (aH (cEq _ _) ?_)
  have e2:decide ((t.drop s.p).take 2=(Str.ofString "\r\n").cps.toList)=(decide (ch t s.p=13)&&decide (ch t (s.p+1)=10)):=by
   rw[eN hp,eN lt,←Bool.decide_and];refine decide_eq_decide.mpr ?_;show [ch t s.p,ch t (s.p+1)]=[13,10]↔_;constructor
   ·intro q;exact⟨(List.cons.inj q).1,(List.cons.inj (List.cons.inj q).2).1⟩
   ·intro q;rw[q.1,q.2]
  rw[e2];revert h1 l1
  cases (decide (ch t s.p=13)&&decide (ch t (s.p+1)=10)) with
  | true=>intro h1 l1;exact jF (k:=2) l1 (by exact Nat.le_add_left ..) h1
  | false=>intro h1 l1;exact eS l1 h1
 ·rw[e1] at sp
  refine aH (a:=decide (ch t s.p∈([8232,8233]:List Nat))) rfl (aT (fun e2=>?_) fun e2=>?_)
  ·rw[e2] at sp
   have h1:=h1 sp;have l1:=cT F sp;unfold lbv at h1;rw[e1] at h1
   have e3:aV t s.p=1:=by
    unfold aV
    have:decide (ch t s.p=13)=false:=by
     cases q:decide (ch t s.p=13) with
     | false=>rfl
     | true=>rw[aI q] at e1;exact tz e1
    rw[this];rfl
   rw[e3] at h1 l1;exact eS l1 h1
  ·rw[e2] at sp
   exact h2 sp
end
section
variable(N:Nat)(f:Str→MFn)(S:Sc)
theorem uQ(n:Nat)(v:V)(K:Fl→St→Res):aft N f mN [] 2 n ["self", "found"] K .next (s0 [("found", v)] S)=LP N f mN [] 2 n ["self", "found"] (s0 [("found", v)] S) K:=by kernel_rfl
theorem Om(v:V):nxt N f mN [] 3 bB .next (s0 [("found", v)] S)=ok0 S:=by kernel_rfl
theorem Ju(v:V)(K:Fl→St→Res):nxt N f mN [(2,0)] 1 K .next (s0 [("found", v)] S)=X N f mN [(2,0)] 1 (s0 [("found", v)] S) K:=by kernel_rfl
theorem Jt(v:V)(K:Fl→St→Res):nxt N f mN [(2,0),(1,0)] 1 (nxt N f mN [(2,0)] 2 K) .next (s0 [("found", v)] S)=X N f mN [(2,0)] 2 (s0 [("found", v)] S) K:=by kernel_rfl
end
theorem fT{t:List Nat}{a b c:Nat}(h:c∈cut t a b):∃i,a≤i∧i<b∧i<t.length∧c=ch t i:=by
 unfold cut at h;obtain⟨j,hj,e⟩:=List.getElem_of_mem h;rw[List.getElem_take,List.getElem_drop] at e;rw[List.length_take,List.length_drop] at hj;refine⟨a+j,by exact bY _ _,by exact ml ‹_›,by exact mr ‹_›,?_⟩;unfold ch;rw[List.getElem?_eq_getElem (by exact mr ‹_›),←e];rfl
theorem Xm{r:Bool}{l:List Nat}(h:∀c∈l,c=32):fJ r l=some r:=by
 induction l with
 | nil=>rfl
 | cons c l ih=>
  rw[h c (.head _)];exact ih fun d hd=>h d (.tail _ hd)
theorem Hj{l:List Nat}(h:∀c∈l,isL c=false):fJ true l=some true:=by
 induction l with
 | nil=>rfl
 | cons c l ih=>
  rw[gM,h c (.head _)]
  cases decide (c=35) with
  | true=>exact ih fun d hd=>h d (.tail _ hd)
  | false=>rw[Bool.or_true];exact ih fun d hd=>h d (.tail _ hd)
section
variable{t:List Nat}
theorem jH{a b:Nat}(h:∀i,a≤i→i<b→ch t i=32):eR t a b:=fun r=>⟨r,Xm fun c hc=>by
 refine Ca (fT hc) fun i h1 h2 _ e4=>?_;subst e4
 exact h i h1 h2⟩
theorem Et{a b:Nat}(l:a<b)(lt:a<t.length)(h0:ch t a=35)(h:∀i,a≤i→i<b→isL (ch t i)=false):eR t a b:=fun r=>⟨true,by
 rw[fW l lt,gM,h0];refine Hj fun c hc=>?_;refine Ca (fT hc) fun i h1 h2 _ e4=>?_;subst e4
 exact h i (by exact bA ‹_›) h2⟩
theorem yP{p:Nat}(F:TF t)(h:isL (ch t p)=true):cut t p (p+aV t p)=if aV t p=2 then [13,10] else [ch t p]:=by
 have l1:=cT F h;unfold aV at l1 ⊢
 cases e:(decide (ch t p=13)&&decide (ch t (p+1)=10)) with
 | false=>exact eZ (by exact zd ‹_›)
 | true=>
  rw[e] at l1;refine aE (aA e) fun e1 e2=>?_;have l1:p+2<t.length:=l1;show cut t p (p+2)=[13,10];rw[fW (by exact Nat.le_succ _) (by exact zd ‹_›),fW (by exact aK _) (by exact bA ‹_›),cY,aI e1,aI e2]
theorem mS{p:Nat}(F:TF t)(h:isL (ch t p)=true):eR t p (p+aV t p):=fun r=>⟨false,by
 rw[yP F h]
 by_cases q:aV t p=2
 ·rw[if_pos q];rfl
 ·rw[if_neg q,gM,h];rfl⟩
noncomputable def ep(t:List Nat)(p:Nat):Nat:=match decide (p=0)&&decide (ch t 0=65279) with
 | true=>1
 | false=>p
noncomputable def Hn(c:Nat):Prop:=c≠32∧c≠35∧isL c=false
theorem pX(c:Nat):isE c=(decide (c=0)||isL c):=by
 unfold isE isL;rw[←Bool.decide_or];refine decide_eq_decide.mpr ?_;simp only[List.mem_cons,List.not_mem_nil,or_false]
variable{n:Nat}{Q:V→Sc→Prop}{E:V→Prop}
theorem dE{b:Bool}(h:(!b)=false):b=true:=by cases b<;>first|rfl|exact tz h
theorem cO{b:Bool}(h:(!b)=true):b=false:=by cases b<;>first|rfl|exact bx h
theorem Ia{v:V}{s:SS}{K:Fl→St→Res}(F:TF t)(hp:s.p<t.length)(hk:∀q,s.p≤q→q<t.length→(∀i,s.p≤i→i<q→ch t i=32)→ch t q≠32→(K .next (s0 [("found", v)] (sc t {s with p:=q}))).sat Q E) :
  (LP 400 (uu (n+2)) mN [(2,0)] 0 400 ["self", "found"] (s0 [("found", v)] (sc t s)) K).sat Q E:=by
 have len:=F.len;have hs:=lZ (t:=t) (Q:=Q) (E:=E) (L:=fun m S=>LP 400 (uu (n+2)) mN [(2,0)] 0 m ["self", "found"] (s0 [("found", v)] S) K) (K:=fun S=>K .next (s0 [("found", v)] S)) (g:=fun v=>aG .Eq v (vs " ")) (test:=fun c=>decide (c=32)) (n+1) F (fun m S=>Kk 400 (uu (n+2)) S m v K);exact hs (fun c=>eW c 32) rfl 400 s hp (by exact d4 ‹_›) fun q h1 h2 h3 h4=>hk q h1 h2 (fun i i1 i2=>aI (h3 i i1 i2)) (cK h4)
theorem Jj{v:V}{s:SS}{K:Fl→St→Res}(F:TF t)(hp:s.p<t.length)(hk:∀q,s.p≤q→q<t.length→(∀i,s.p≤i→i<q→isE (ch t i)=false)→isE (ch t q)=true→(K .next (s0 [("found", v)] (sc t {s with p:=q}))).sat Q E) :
  (LP 400 (uu (n+2)) mN [(2,0),(1,0)] 0 400 ["self", "found"] (s0 [("found", v)] (sc t s)) K).sat Q E:=by
 have len:=F.len;have hs:=lZ (t:=t) (Q:=Q) (E:=E) (L:=fun m S=>LP 400 (uu (n+2)) mN [(2,0),(1,0)] 0 m ["self", "found"] (s0 [("found", v)] S) K) (K:=fun S=>K .next (s0 [("found", v)] S)) (g:=fun v=>aG .NotIn v zE) (test:=fun c=>!isE c) (n+1) F (fun m S=>Kj 400 (uu (n+2)) S m v K);exact hs (fun c=>rfl) rfl 400 s hp (by exact d4 ‹_›) fun q h1 h2 h3 h4=>hk q h1 h2 (fun i i1 i2=>cO (h3 i i1 i2)) (dE h4)
theorem Aw{K:Fl→St→Res}(F:TF t):∀(m:Nat) (s:SS),s.p<t.length→t.length-s.p<m→(∀q a,s.p≤q→q<t.length→eR t s.p q→Hn (ch t q)→(a=s.allow∨(s.flow=0∧a=true))→(K .next (s0 [("found", .bool true)] (sc t {s with p:=q,allow:=a}))).sat Q E)→
  (LP 400 (uu (n+2)) mN [] 2 m ["self", "found"] (s0 [("found", .bool false)] (sc t s)) K).sat Q E:=by
 intro m
 induction m with
 | zero=>intro s _ h;exact absurd ‹_› (Nat.not_lt_zero _)
 | succ m ih=>
  intro s hp hm hk;rw[Bf,Hs];refine aZ rfl ?_;have len:=F.len;refine Ia F hp fun q1 h1 h2 h3 h4=>?_;rw[Ju,Hr];have b1:eR t s.p q1:=jH h3
  have tail:∀q2,q1≤q2→q2<t.length→eR t s.p q2→ch t q2≠32→ch t q2≠35→(X 400 (uu (n+2)) mN [(2,0)] 2 (s0 [("found", .bool false)] (sc t {s with p:=q2})) (aft 400 (uu (n+2)) mN [] 2 m ["self", "found"] K)).sat Q E:=by
   intro q2 k1 k2 k3 k4 k5;rw[Hq];refine gN F k2 (fun e=>?_) fun e=>?_
   ·have l1:=cT F e
    have l0:=dI t q2;refine aH (a:=true) rfl (aZ rfl ?_);have bl:eR t s.p (q2+aV t q2):=k3.trans (mS F e) (aJ h1 k1) (bY _ _);refine aT (fun fz=>?_) fun fz=>?_
    ·rw[uQ]
     refine ih {s with p:=q2+aV t q2,allow:=true} l1 (by show t.length-(q2+aV t q2)<m;exact dc ‹_› (by lia) ‹_›) fun q a z1 z2 z3 z4 z5=>hk q a (by have z1:q2+aV t q2≤q:=z1;lia) z2 (bl.trans z3 (by lia) z1) z4 ?_;refine .inr ⟨aI (dE (cO fz)),?_⟩
     rcases z5 with z|z
     ·exact z
     ·exact z.2
    ·rw[uQ]
     exact ih {s with p:=q2+aV t q2} l1 (by show t.length-(q2+aV t q2)<m;exact dc ‹_› (by lia) ‹_›) fun q a z1 z2 z3 z4 z5=>hk q a (by have z1:q2+aV t q2≤q:=z1;lia) z2 (bl.trans z3 (by lia) z1) z4 z5
   ·refine aH (a:=false) rfl (aQ rfl ?_)
    rw[uQ];obtain⟨m,rfl⟩:∃m',m=m'+1:=⟨m-1,by exact pm (by exact zl (Nat.le_of_lt_succ ‹_›) ‹_›)⟩;rw[Bf];exact aQ rfl (hk q2 s.allow (aJ h1 k1) k2 k3 ⟨k4,k5,e⟩ (.inl rfl))
  refine bC h2 (aH (eW _ 35) (aT (fun e=>?_) fun e=>?_))
  ·have e:=aI e
   refine Jj F (s:={s with p:=q1}) h2 fun q2 k1 k2 k3 k4=>?_;have k1:q1≤q2:=k1;rw[Jt]
   have lt:q1<q2:=by
    rcases Nat.lt_or_eq_of_le k1 with z|z
    ·exact z
    ·rw[←z,e] at k4;exact bx k4
   have nl:∀i,q1≤i→i<q2→isL (ch t i)=false:=fun i i1 i2=>by
    have:=k3 i i1 i2;rw[pX] at this;exact (Bool.or_eq_false_iff.mp this).2
   refine tail q2 k1 k2 (b1.trans (Et lt h2 e nl) h1 k1) (fun z=>?_) fun z=>?_
   ·rw[z] at k4;exact bx k4
   ·rw[z] at k4;exact bx k4
  ·exact tail q1 (aK _) h2 b1 h4 (cK e)
theorem Yx(t:List Nat)(p:Nat):p≤ep t p:=by
 unfold ep
 cases e:(decide (p=0)&&decide (ch t 0=65279)) with
 | false=>exact aK _
 | true=>rw[aI (aA e).1];exact Nat.zero_le _
theorem Qo{s:SS}{K:V→Sc→Res}(F:TF t)(hp:s.p<t.length)(hk:∀q a,ep t s.p≤q→q<t.length→eR t (ep t s.p) q→Hn (ch t q)→(a=s.allow∨(s.flow=0∧a=true))→(K .none (sc t {s with p:=q,allow:=a})).sat Q E) :
  ((uu (n+3) mN [] [] (sc t s)).go K).sat Q E:=by
 refine bS ?_;have e:uu (n+3) mN [] [] (sc t s)=tx 400 (uu (n+2)) mN [] (sc t s):=rfl;rw[e,Re];have len:=F.len
 have main:∀s1:SS,s1.p=ep t s.p→s1.p<t.length→(∀q a,({s1 with p:=q,allow:=a}:SS)={s with p:=q,allow:=a})→s1.allow=s.allow→s1.flow=s.flow→(LP 400 (uu (n+2)) mN [] 2 400 ["self", "found"] (s0 [("found", .bool false)] (sc t s1)) (nxt 400 (uu (n+2)) mN [] 3 bB)).sat (fun v S=>(K v S).sat Q E) E:=by
  intro s1 e1 l1 e2 e3 e4;refine Aw F 400 s1 l1 (by exact d4 ‹_›) fun q a h1 h2 h3 h4 h5=>?_;rw[Om,e2];rw[e3,e4] at h5;rw[e1] at h1 h3;exact hk q a h1 h2 h3 h4 h5
 have ee:ep t s.p=match decide (s.p=0)&&decide (ch t 0=65279) with|true=>1|false=>s.p:=rfl
 have ez:decide (((s.p:Nat):Int)=0)=decide (s.p=0):=decide_eq_decide.mpr (by lia);unfold tIf;rw[cJ];show Res.sat (onB (decide (((s.p:Nat):Int)=0)) _ _) _ _;rw[ez]
 cases z:decide (s.p=0) with
 | false=>
  rw[z] at ee;exact main s ee.symm hp (fun _ _=>rfl) rfl rfl
 | true=>
  have z0:=aI z;rw[z,z0] at ee;refine bC hp (aH (eW _ 65279) (aT (fun z1=>?_) fun z1=>?_))
  ·rw[z0] at z1
   rw[z1] at ee;have lt:=F.lt (i:=0) (by rw[aI z1];decide);refine eS (by rw[z0];exact lt) (main {s with p:=s.p+1} ?_ (by show s.p+1<_;rw[z0];exact lt) (fun _ _=>rfl) rfl rfl);show s.p+1=_;rw[z0];exact ee.symm
  ·rw[z0] at z1
   rw[z1] at ee;refine main s ?_ hp (fun _ _=>rfl) rfl rfl;rw[z0];exact ee.symm
end
noncomputable def gP(x:Int):List Ky→Option Ky
 | []=>none
 | k::r=>if k.lv=x then some k else gP x r
noncomputable def dY(x:Int):List Ky→List Ky
 | []=>[]
 | k::r=>if k.lv=x then r else k::dY x r
noncomputable def iL(t:List Nat)(i:Nat)(e:V):Prop:=∃a b c,e=nF a b c (mk t i)
theorem hW(t:List Nat)(x:Int):∀ks:List Ky,cX x (ks.map fun k=>(k.lv,kyV t k))=(gP x ks).map (kyV t):=by
 intro ks
 induction ks with
 | nil=>rfl
 | cons k r ih=>
  show (if k.lv=x then some (kyV t k) else cX x (r.map fun k=>(k.lv,kyV t k)))=(if k.lv=x then some k else gP x r).map (kyV t)
  by_cases q:k.lv=x
  ·rw[if_pos q,if_pos q];rfl
  ·rw[if_neg q,if_neg q,ih]
theorem uD(t:List Nat)(x:Int):∀ks:List Ky,nO x (ks.map fun k=>(k.lv,kyV t k))=(dY x ks).map fun k=>(k.lv,kyV t k):=by
 intro ks
 induction ks with
 | nil=>rfl
 | cons k r ih=>
  show (if k.lv=x then r.map (fun k=>(k.lv,kyV t k)) else (k.lv,kyV t k)::nO x (r.map fun k=>(k.lv,kyV t k)))=(if k.lv=x then r else k::dY x r).map fun k=>(k.lv,kyV t k)
  by_cases q:k.lv=x
  ·rw[if_pos q,if_pos q]
  ·rw[if_neg q,if_neg q,ih];rfl
theorem Lj{x:Int}:∀{ks:List Ky},gP x ks=none→dY x ks=ks:=by
 intro ks
 induction ks with
 | nil=>intro _;rfl
 | cons k r ih=>
  intro h;have h:(if k.lv=x then some k else gP x r)=none:=h;show (if k.lv=x then r else k::dY x r)=k::r
  by_cases q:k.lv=x
  ·rw[if_pos q] at h;exact sx h
  ·rw[if_neg q] at h ⊢;rw[ih h]
theorem Jq(t:List Nat){x:Int}{v:V}:∀{ks:List Ky},gP x ks=none→sW x v (ks.map fun k=>(k.lv,kyV t k))=(ks.map fun k=>(k.lv,kyV t k))++[(x,v)]:=by
 intro ks
 induction ks with
 | nil=>intro _;rfl
 | cons k r ih=>
  intro h;have h:(if k.lv=x then some k else gP x r)=none:=h;show (if k.lv=x then _ else (k.lv,kyV t k)::sW x v (r.map fun k=>(k.lv,kyV t k)))=_
  by_cases q:k.lv=x
  ·rw[if_pos q] at h;exact sx h
  ·rw[if_neg q] at h ⊢;rw[ih h];rfl
theorem Kh{x:Int}{k:Ky}:∀{ks:List Ky},gP x ks=some k→k∈ks∧k.lv=x:=by
 intro ks
 induction ks with
 | nil=>intro h;exact ox h
 | cons j r ih=>
  intro h;have h:(if j.lv=x then some j else gP x r)=some k:=h
  by_cases q:j.lv=x
  ·rw[if_pos q] at h;obtain rfl:=so h;exact⟨.head _,q⟩
  ·rw[if_neg q] at h;exact⟨.tail _ (ih h).1,(ih h).2⟩
theorem Dt{x:Int}:∀{ks:List Ky},(∀k∈ks,k.lv≠x)→gP x ks=none:=by
 intro ks
 induction ks with
 | nil=>intro _;rfl
 | cons j r ih=>
  intro h;show (if j.lv=x then some j else gP x r)=none;rw[if_neg (h j (.head _))];exact ih fun k hk=>h k (.tail _ hk)
theorem dM{x:Int}:∀{ks:List Ky},(dY x ks).Sublist ks:=by
 intro ks
 induction ks with
 | nil=>exact List.Sublist.slnil
 | cons k r ih=>
  show (if k.lv=x then r else k::dY x r).Sublist (k::r)
  by_cases q:k.lv=x
  ·rw[if_pos q];exact List.Sublist.cons _ (List.Sublist.refl _)
  ·rw[if_neg q];exact List.Sublist.cons_cons _ ih
noncomputable def Ord(ks:List Ky):Prop:=ks.Pairwise fun a b=>a.lv<b.lv∧a.i<b.i
theorem wG{x:Int}:∀{ks:List Ky},Ord ks→∀k∈dY x ks,k.lv≠x:=by
 intro ks
 induction ks with
 | nil=>intro _ k hk;cases hk
 | cons j r ih=>
  intro h k hk;refine aE (List.pairwise_cons.mp h) fun h1 h2=>?_;have hk:k∈(if j.lv=x then r else j::dY x r):=hk
  by_cases q:j.lv=x
  ·rw[if_pos q] at hk
   have:=(h1 k hk).1;lia
  ·rw[if_neg q] at hk
   rcases al_mc hk with z|z
   ·rw[z];exact q
   ·exact ih h2 k z
noncomputable def fresh(t:List Nat)(p:Nat)(k:Ky):Bool:=decide ((lc t k.at_).1=(lc t p).1)
section
variable{t:List Nat}{n:Nat}{Q:V→Sc→Prop}{E:V→Prop}{s:SS}
section
variable(f:Str→MFn)(S:Sc)(k:Ky)
theorem Eu:eJ (OO 400 f) (kyV t k) "token_number" = some (.int ((k.i:Int)+1)):=by kernel_rfl
theorem Td:eJ (OO 400 f) (kyV t k) "required" = some (.bool k.req):=by kernel_rfl
theorem EB:eJ (OO 400 f) (kyV t k) "index" = some (.int k.at_):=by kernel_rfl
theorem Xv:eJ (OO 400 f) (kyV t k) "line" = some (.int (lc t k.at_).1):=by kernel_rfl
theorem EC:eJ (OO 400 f) (kyV t k) "column" = some (.int (lc t k.at_).2):=by kernel_rfl
theorem rS:eJ (OO 400 f) (kyV t k) "mark" = some (mk t k.at_):=by kernel_rfl
theorem Vc:nxt 400 f "stale_possible_simple_keys" [] 1 bB .next (sl [] S)=ok0 S:=by kernel_rfl
theorem Dm(v:V):(fun fl (st:St)=>nxt 400 f "next_possible_simple_key" [] 2 bB fl ⟨st.loc,st.flds,true⟩) .next (slF [("min_token_number", .val v)] S) = .ok v S:=by kernel_rfl
theorem FX(c:Int):nxt 400 f "unwind_indent" [] 2 bB .next (s0 [("column", .int c)] S)=ok0 S:=by kernel_rfl
end
theorem iH{K:V→Sc→Res}(h:(K .none (sc t {s with ks:=dY s.flow s.ks})).sat Q E)(he:∀e,iL t s.p e→E e):((uu (n+2) "remove_possible_simple_key" [] [] (sc t s)).go K).sat Q E:=by
 refine bS ?_;refine aN (r':=tx 400 (uu (n+1)) "remove_possible_simple_key" [] (sc t s)) rfl ?_;rw[Rg];show Res.sat (onB (cX s.flow (s.ks.map fun k=>(k.lv,kyV t k))).isSome (onO (cX s.flow (s.ks.map fun k=>(k.lv,kyV t k))) _ .bad) _) _ _;rw[hW]
 cases q:gP s.flow s.ks with
 | none=>
  rw[Lj q] at h;exact h
 | some k=>
  refine aZ rfl (aH (a:=kyV t k) rfl (aH (Td _ k) (aH (a:=k.req) rfl (aT (fun _=>?_) fun _=>?_))))
  ·exact aH (rS _ k) (bV (he _ ⟨_,_,_,rfl⟩))
  ·refine aZ ?_ ?_
   ·show (cX s.flow (s.ks.map fun k=>(k.lv,kyV t k))).isSome=true
    rw[hW,q];rfl
   ·show Res.sat (ok0 {sc t s with keys:=nO s.flow (s.ks.map fun k=>(k.lv,kyV t k))}) _ _
    rw[uD];exact h
theorem Dq{K:Fl→St→Res}:∀(l pre:List Ky),Ord (pre++l)→(∀k∈l,k.at_≤s.p)→s.p≤1000→(∀k∈l,fresh t s.p k=false→∀e,iL t s.p e→E e)→(K .next (sl [] (sc t {s with ks:=pre++l.filter (fresh t s.p)}))).sat Q E→
  (LF 400 (uu (n+1)) "stale_possible_simple_keys" [] 0 ["self"] (l.map fun k=>.int k.lv) (sl [] (sc t {s with ks:=pre++l})) K).sat Q E:=by
 intro l
 induction l with
 | nil=>
  intro pre _ _ _ _ h;refine aN (Tq 400 (uu (n+1)) _ K) ?_;exact h
 | cons k l ih=>
  intro pre ho ha hp he h;refine aN (Vq 400 (uu (n+1)) _ k.lv _ K) ?_
  have hk:gP k.lv (pre++k::l)=some k:=by
   clear ih ha he h
   induction pre with
   | nil=>exact if_pos rfl
   | cons j pre ih=>
    refine aE (List.pairwise_cons.mp ho) fun h1 h2=>?_;have:=(h1 k (List.mem_append.mpr (.inr (.head _)))).1;show (if j.lv=k.lv then some j else gP k.lv (pre++k::l))=some k;rw[if_neg (by lia)];exact ih h2
  have hd:dY k.lv (pre++k::l)=pre++l:=by
   clear ih ha he h hk
   induction pre with
   | nil=>exact if_pos rfl
   | cons j pre ih=>
    refine aE (List.pairwise_cons.mp ho) fun h1 h2=>?_;have:=(h1 k (List.mem_append.mpr (.inr (.head _)))).1;show (if j.lv=k.lv then pre++k::l else j::dY k.lv (pre++k::l))=j::(pre++l);rw[if_neg (by lia),ih h2]
  have hk':cX k.lv ((pre++k::l).map fun k=>(k.lv,kyV t k))=some (kyV t k):=by rw[hW,hk];rfl
  refine aH (a:=kyV t k) hk' ?_;rw[pC];refine aH (Xv _ k) ?_;refine aH (a:=!decide ((lc t k.at_).1=(lc t s.p).1)) rfl ?_;have hf:fresh t s.p k=decide ((lc t k.at_).1=(lc t s.p).1):=rfl
  have split:∀c,fresh t s.p k=c→(k::l).filter (fresh t s.p)=match c with|true=>k::l.filter (fresh t s.p)|false=>l.filter (fresh t s.p):=fun c e=>by
   rw[List.filter_cons,e];cases c<;>rfl
  refine aT (fun e=>?_) fun e=>?_
  ·have e:=cO e
   rw[split false (hf.trans e)] at h;show Res.sat (onB true _ _) _ _;refine aZ rfl (aH (Td _ k) (aH (a:=k.req) rfl (aT (fun _=>?_) fun _=>?_)))
   ·refine aH (rS _ k) (bV (he k (.head _) (hf.trans e) _ ⟨_,_,_,rfl⟩))
   ·refine aZ ?_ ?_
    ·show (cX k.lv ((pre++k::l).map fun k=>(k.lv,kyV t k))).isSome=true
     rw[hk'];rfl
    ·have:=ih pre (ho.sublist (List.Sublist.append_left (List.Sublist.cons _ (List.Sublist.refl _)) _)) (fun j hj=>ha j (.tail _ hj)) hp (fun j hj=>he j (.tail _ hj)) h
     refine aN ?_ this;show LF 400 (uu (n+1)) _ _ _ _ _ (sl [] {sc t {s with ks:=pre++k::l} with keys:=nO k.lv ((pre++k::l).map fun k=>(k.lv,kyV t k))}) _=_;rw[uD,hd];rfl
  ·have e:=dE e
   rw[split true (hf.trans e)] at h;refine aH (EB _ k) (aH (a:=.int ((s.p:Int)-(k.at_:Int))) rfl (aH (a:=decide ((1024:Int)<(s.p:Int)-(k.at_:Int))) rfl ?_));rw[cE (by have:=ha k (.head _);lia)];refine aQ rfl ?_;have:=ih (pre++[k]) (by rw[fY];exact ho) (fun j hj=>ha j (.tail _ hj)) hp (fun j hj=>he j (.tail _ hj)) (by rw[fY];exact h);rw[fY] at this;exact this
theorem Gq{K:V→Sc→Res}(F:TF t)(hp:s.p<t.length)(ho:Ord s.ks)(ha:∀k∈s.ks,k.at_≤s.p)(h:(K .none (sc t {s with ks:=s.ks.filter (fresh t s.p)})).sat Q E)(he:∀k∈s.ks,fresh t s.p k=false→∀e,iL t s.p e→E e):((uu (n+2) "stale_possible_simple_keys" [] [] (sc t s)).go K).sat Q E:=by
 refine bS ?_;refine aN (r':=tx 400 (uu (n+1)) "stale_possible_simple_keys" [] (sc t s)) rfl ?_;rw[Wp];have len:=F.len;have:=Dq (t:=t) (n:=n) (s:=s) (Q:=fun v S=>(K v S).sat Q E) (E:=E) (K:=nxt 400 (uu (n+1)) "stale_possible_simple_keys" [] 1 bB) s.ks [] ho ha (by lia) he (by rw[Vc];exact h);refine aN ?_ this;show LF 400 (uu (n+1)) _ _ _ _ ((s.ks.map fun k=>(k.lv,kyV t k)).map fun p=>.int p.1) _ _=_;rw[List.map_map];rfl
noncomputable def nk:List Ky→V
 | []=>.none
 | k::_=>.int ((k.i:Int)+1)
theorem xU{K:Fl→St→Res}:∀(l:List Ky) (v:V),(∀k∈l,k∈s.ks)→Ord s.ks→Ord l→((v = .none∧(K .next (slF [("min_token_number", .val (nk l))] (sc t s))).sat Q E)∨∃i:Nat,v = .int ((i:Int)+1)∧(∀k∈l,i<k.i)∧(K .next (slF [("min_token_number", .val v)] (sc t s))).sat Q E)→
  (LD 400 (uu (n+1)) "next_possible_simple_key" [] 1 ["self", "min_token_number"] (l.map fun k=>.int k.lv) (slF [("min_token_number", .val v)] (sc t s)) K).sat Q E:=by
 intro l
 induction l with
 | nil=>
  intro v _ _ _ h;refine aN (Hp 400 (uu (n+1)) _ v K) ?_
  rcases h with ⟨rfl,h⟩|⟨_,_,_,h⟩<;>exact h
 | cons k l ih=>
  intro v hm ho hl h;refine aN (Km 400 (uu (n+1)) _ k.lv _ v K) ?_;refine aE (List.pairwise_cons.mp hl) fun o1 o2=>?_
  have hk:cX k.lv (s.ks.map fun k=>(k.lv,kyV t k))=some (kyV t k):=by
   rw[hW]
   have:∀ks:List Ky,Ord ks→k∈ks→gP k.lv ks=some k:=by
    intro ks
    induction ks with
    | nil=>intro _ h;cases h
    | cons j r ih=>
     intro o h;refine aE (List.pairwise_cons.mp o) fun h1 h2=>?_;show (if j.lv=k.lv then some j else gP k.lv r)=some k
     rcases al_mc h with z|z
     ·rw[←z,if_pos rfl]
     ·have:=(h1 k z).1
      rw[if_neg (by lia)];exact ih h2 z
   rw[this _ ho (hm k (.head _))];rfl
  refine aH (a:=kyV t k) hk ?_;rw[pC]
  rcases h with ⟨rfl,h⟩|⟨i,rfl,hi,h⟩
  ·refine aH (a:=true) rfl (aZ rfl ?_)
   refine aZ rfl (aH (Eu _ k) ?_);exact ih _ (fun j hj=>hm j (.tail _ hj)) ho o2 (.inr ⟨k.i,rfl,fun j hj=>(o1 j hj).2,h⟩)
  ·refine aH (a:=false) rfl (aQ rfl ?_)
   refine aH (Eu _ k) (aH (a:=decide ((k.i:Int)+1<(i:Int)+1)) rfl ?_);have:=hi k (.head _);rw[cE (by lia)];refine aQ rfl ?_;exact ih _ (fun j hj=>hm j (.tail _ hj)) ho o2 (.inr ⟨i,rfl,fun j hj=>by have:=(o1 j hj).2;exact Nat.lt_trans ‹_› ‹_›,h⟩)
theorem Kx{K:V→Sc→Res}(ho:Ord s.ks)(h:(K (nk s.ks) (sc t s)).sat Q E):((uu (n+2) "next_possible_simple_key" [] [] (sc t s)).go K).sat Q E:=by
 refine bS ?_;refine aN (r':=tx 400 (uu (n+1)) "next_possible_simple_key" [] (sc t s)) rfl ?_;rw[Ld];have:=xU (t:=t) (n:=n) (s:=s) (Q:=fun v S=>(K v S).sat Q E) (E:=E) (K:=fun fl st=>nxt 400 (uu (n+1)) "next_possible_simple_key" [] 2 bB fl ⟨st.loc,st.flds,true⟩) s.ks .none (fun _ h=>h) ho ho (.inl ⟨rfl,aN (Dm _ _ _) h⟩);refine aN ?_ this;show LD 400 (uu (n+1)) _ _ _ _ ((s.ks.map fun k=>(k.lv,kyV t k)).map fun p=>.int p.1) _ _=_;rw[List.map_map];rfl
end
inductive jK:Int→List Int→Prop where
 | nil:jK (-1) []
 | snoc {x i:Int} {l:List Int} (h:jK x l) (lt:x<i):jK i (l++[x])
theorem jK.ge{i:Int}{l:List Int}(h:jK i l):-1≤i:=by
 induction h with
 | nil=>decide
 | snoc _ lt ih=>lia
structure Ch(t:List Nat)(l:List Tk)(p:Nat)(flow nb:Int)(done:Bool):Prop where
 good:uR t (ls0 t) l
 gap:gA t (bW (ls0 t) l).bf (bW (ls0 t) l).last p
 lev:(bW (ls0 t) l).level=flow
 blk:(bW (ls0 t) l).blocks=nb
 bf:(bW (ls0 t) l).bf=1↔done=true
structure J(t:List Nat)(g:List Tk)(s:SS)(c:Nat):Prop where
 ch:Ch t (g++s.ts) s.p s.flow (s.inds.length:Int) s.done
 plt:s.p<t.length
 pos:ep t s.p=s.p
 tk:s.taken=g.length+1
 ind:jK s.ind s.inds
 ord:Ord s.ks
 key:∀k∈s.ks,k.lv≤s.flow∧g.length≤k.i∧k.at_≤s.p∧∃q,(g++s.ts)[k.i]? = some q∧q.b=k.at_
 pot:s.taken+s.ts.length+s.inds.length+wt t s.p+(match s.done with|true=>0|false=>1)≤wt t 0+2+c
 fin:s.done=true→s.p+1=t.length∧(s.flow=0→s.inds=[])∧(bW (ls0 t) (g++s.ts)).last=s.p∧s.ks=[]
theorem yL{t:List Nat}{p q:Nat}(h:ep t p=p)(l:p≤q):ep t q=q:=by
 unfold ep at h ⊢
 cases e:decide (q=0) with
 | false=>rfl
 | true=>
  have:=aI e
  have:p=0:=by lia
  rw[this] at h
  cases z:decide (ch t 0=65279) with
  | false=>rfl
  | true=>rw[z] at h;cases h
section
variable{t:List Nat}{n:Nat}{Q:V→Sc→Prop}{E:V→Prop}{s:SS}{g:List Tk}{c:Nat}
theorem J.small(F:TF t)(h:J t g s c)(hc:c≤100):s.ts.length+s.inds.length≤300:=by
 have:=h.pot;have:=F.wt;lia
theorem Ch.push{l:List Tk}{p p':Nat}{flow nb:Int}(h:Ch t l p flow nb false)(k:Tk)(hb:k.b=p)(he:p≤k.e)(hl:k.e<t.length)(sp:spelt k (cut t p k.e))(en:kI k=2→dC t k.e flow)(bk:hN k = -1→1≤nb)(gap:gA t (kI k) k.e p') :
  Ch t (l++[k]) p' (flow+oU k) (nb+hN k) (decide (kI k=1)):=by
 have e:bW (ls0 t) (l++[k])=dH (bW (ls0 t) l) k:=lP;refine⟨lK.mpr ⟨h.good,⟨?_,trivial⟩⟩,by rw[e];exact gap,by rw[e,←h.lev];rfl,by rw[e,←h.blk];rfl,by rw[e];exact decide_eq_true_iff.symm⟩;exact⟨fun q=>Bool.noConfusion (h.bf.mp q),by rw[hb];exact h.gap,by rw[hb];exact he,hl,by rw[hb];exact sp,fun q=>by rw[h.lev];exact en q,fun q=>by rw[h.blk];exact bk q⟩
theorem J.push{s':SS}{c':Nat}(h:J t g s c)(hd:s.done=false)(k:Tk)(hts:s'.ts=s.ts++[k])(htk:s'.taken=s.taken)(hf:s'.flow=s.flow+oU k)(hdn:s'.done=decide (kI k=1))(hind:jK s'.ind s'.inds)(hlen:(s'.inds.length:Int)=s.inds.length+hN k)(hord:Ord s'.ks)
  (hkey:∀x∈s'.ks,x.lv≤s'.flow∧(x∈s.ks∨(x.i=(g++s.ts).length∧x.at_=s.p))) (hb:k.b=s.p) (he:s.p≤k.e) (hl:s'.p<t.length) (sp:spelt k (cut t s.p k.e)) (en:kI k=2→dC t k.e s.flow) (gap:gA t (kI k) k.e s'.p)
  (hw:c+1+s'.inds.length+wt t s'.p≤c'+s.inds.length+wt t s.p+(match s'.done with|true=>1|false=>0)) (hfin:s'.done=true→s'.p+1=t.length∧(s'.flow=0→s'.inds=[])∧k.e=s'.p∧s'.ks=[]):J t g s' c':=by
 have lp:s.p≤s'.p:=aJ he gap.le
 have e:g++s'.ts=(g++s.ts)++[k]:=by rw[hts,fY]
 have hc:=h.ch;rw[hd] at hc;refine⟨?_,hl,yL h.pos lp,by rw[htk];exact h.tk,hind,hord,fun x hx=>?_,?_,fun q=>?_⟩
 ·rw[e,hf,hdn,hlen]
  exact hc.push k hb he (iS gap.le hl) sp en (fun q=>by rw[q] at hlen;lia) gap
 ·refine aE (hkey x hx) fun h1 h2=>?_
  rw[e]
  rcases h2 with h2|⟨h2,h3⟩
  ·obtain⟨_,k2,k3,q,k4,k5⟩:=h.key x h2
   refine⟨h1,k2,aJ k3 lp,q,?_,k5⟩;rw[List.getElem?_append_left (List.getElem?_eq_some_iff.mp k4).1];exact k4
  ·refine⟨h1,?_,by rw[h3];exact lp,k,?_,by rw[hb,h3]⟩
   ·rw[h2,aU];exact bY _ _
   ·rw[h2,List.getElem?_append_right (aK _),Nat.sub_self];rfl
 ·have:=h.pot
  rw[hd] at this;rw[htk,hts,aU];revert hw;show _→_+(_+1)+_+_+_≤_
  cases s'.done with
  | false=>exact fun hw=>zp this (Nat.succ_le_succ hw)
  | true=>exact fun hw=>zp this hw
 ·refine oQ (hfin q) fun f1 f2 f3 f4=>?_
  exact⟨f1,f2,by rw[e,lP];exact f3,f4⟩
theorem J.upd{s':SS}(h:J t g s c)(e1:s'.p=s.p)(e2:s'.done=s.done)(e3:s'.flow=s.flow)(e4:s'.ts=s.ts)(e5:s'.taken=s.taken)(e6:s'.ind=s.ind)(e7:s'.inds=s.inds)(hk:∀x∈s'.ks,x∈s.ks)(ho:Ord s'.ks):J t g s' c:=by
 refine⟨by rw[e1,e2,e3,e4,e7];exact h.ch,by rw[e1];exact h.plt,by rw[e1];exact h.pos,by rw[e5];exact h.tk,by rw[e6,e7];exact h.ind,ho,fun k q=>by rw[e1,e3,e4];exact h.key k (hk k q),by rw[e1,e2,e4,e5,e7];exact h.pot,by
  rw[e1,e2,e3,e4,e7];intro q;refine oQ (h.fin q) fun f1 f2 f3 f4=>?_;refine⟨f1,f2,f3,List.eq_nil_iff_forall_not_mem.mpr fun x hx=>?_⟩;have:=hk x hx;rw[f4] at this
  cases this⟩
theorem J.del(h:J t g s c)(x:Int):J t g {s with ks:=dY x s.ks} c:=h.upd rfl rfl rfl rfl rfl rfl rfl (fun _ q=>dM.mem q) (h.ord.sublist dM)
theorem J.stale(h:J t g s c)(f:Ky→Bool):J t g {s with ks:=s.ks.filter f} c:=h.upd rfl rfl rfl rfl rfl rfl rfl (fun _ q=>(List.mem_filter.mp q).1) (h.ord.sublist List.filter_sublist)
theorem J.skip{q:Nat}{a:Bool}(h:J t g s c)(hd:s.done=false)(l:s.p≤q)(hq:q<t.length)(b:eR t s.p q):J t g {s with p:=q,allow:=a} c:=by
 refine⟨⟨h.ch.good,h.ch.gap.more b l,h.ch.lev,h.ch.blk,h.ch.bf⟩,hq,yL h.pos l,h.tk,h.ind,h.ord,fun k hk=>?_,?_,fun z=>by rw[show s.done=true from z] at hd;exact tz hd⟩
 ·refine oQ (h.key k hk) fun h1 h2 h3 h4=>?_
  exact⟨h1,h2,aJ h3 l,h4⟩
 ·exact aJ (Nat.add_le_add_right (Nat.add_le_add_left (rF l) _) _) h.pot
theorem Ut{k:Tk}:({sc t s with toks:=(sc t s).toks++[tkV t k]}:Sc)=sc t {s with ts:=s.ts++[k]}:=by
 unfold sc;simp only[List.map_append,List.map_cons,List.map_nil]
theorem Bc{k:Tk}(hl:s.ts.length≤9000):Nat.ble ((sc t s).toks++[tkV t k]).length aO=true:=by
 refine fX ?_;show ((s.ts.map (tkV t))++[tkV t k]).length≤10000;rw[aU,List.length_map];show _+1≤_;lia
theorem lM{k:Tk}{K:Sc→Res}(hl:s.ts.length≤9000)(h:(K (sc t {s with ts:=s.ts++[k]})).sat Q E):(cN (sc t s) (tkV t k) K).sat Q E:=by
 refine aZ (Bc hl) ?_;rw[Ut];exact h
theorem yG{K:V→V→Sc→Res}(hl:s.p+1<t.length)(h:(K (mk t s.p) (mk t (s.p+1)) (sc t {s with p:=s.p+1})).sat Q E):(mT (uu (n+1)) (sc t s) K).sat Q E:=bV (eS hl (bV h))
theorem Co{α:Type}{l:List α}{x:α}:iB (l++[x])=some (l,x):=by
 induction l with
 | nil=>rfl
 | cons y l ih=>
  show (match iB (l++[x]) with|some p=>some (y::p.1,p.2)|none=>some ([],y))=_;rw[ih]
theorem jK.inv{i:Int}{l:List Int}(h:jK i l)(hi:-1<i):∃x r,l=r++[x]∧jK x r∧x<i:=by
 cases h with
 | nil=>lia
 | snoc h lt=>exact⟨_,_,rfl,h,lt⟩
theorem Av{col:Int}{K:Fl→St→Res}(F:TF t)(hc:-1≤col)(cc:c≤100):∀(m:Nat) (s:SS),s.inds.length<m→J t g s c→s.done=false→(∀s',J t g s' c→s'={s with ts:=s'.ts,ind:=s'.ind,inds:=s'.inds}→s'.ind≤col→(K .next (s0 [("column", .int col)] (sc t s'))).sat Q E)→
  (LP 400 (uu (n+1)) "unwind_indent" [] 1 m ["self", "column"] (s0 [("column", .int col)] (sc t s)) K).sat Q E:=by
 intro m
 induction m with
 | zero=>intro s h;exact absurd ‹_› (Nat.not_lt_zero _)
 | succ m ih=>
  intro s hm h hd hk;refine aN (Pd 400 (uu (n+1)) (sc t s) m col K) (aT (fun e=>?_) fun e=>?_)
  ·have e:col<s.ind:=aI e
   refine gX (h.ind.inv (by lia)) fun x r e1 e2 e3=>?_;have sm:=h.small F cc
   have len:s.inds.length=r.length+1:=by rw[e1,aU];rfl
   refine bV (aH (a:=(r.map V.int,V.int x)) ?_ ?_)
   ·show iB (s.inds.map V.int)=_
    rw[e1,List.map_append];exact Co
   ·refine aZ (Bc (k:=.two 319 s.p s.p) (by lia)) ?_
    refine aN (r':=LP 400 (uu (n+1)) "unwind_indent" [] 1 m ["self", "column"] (s0 [("column", .int col)] (sc t {s with ts:=s.ts++[.two 319 s.p s.p],ind:=x,inds:=r})) K) ?_ (ih {s with ts:=s.ts++[.two 319 s.p s.p],ind:=x,inds:=r} (by show r.length<m;lia) ?_ hd fun s' h1 h2 h3=>hk s' h1 (by rw[h2]) h3)
    ·show LP 400 _ _ _ _ _ _ ⟨_,put "indent" (.val (V.int x)) (mkF {sc t s with inds:=r.map V.int,toks:=(sc t s).toks++[tkV t (.two 319 s.p s.p)]}),true⟩ _=_
     have e:({sc t s with inds:=r.map V.int,toks:=(sc t s).toks++[tkV t (.two 319 s.p s.p)]}:Sc)=sc t {s with ts:=s.ts++[.two 319 s.p s.p],inds:=r}:=by
      unfold sc;simp only[List.map_append,List.map_cons,List.map_nil]
     rw[e]
     kernel_rfl
    ·refine h.push hd (.two 319 s.p s.p) rfl rfl (Int.add_zero _).symm hd e2 (by show (r.length:Int)=(s.inds.length:Int) + -1;lia) h.ord (fun x hx=>⟨(h.key x hx).1,.inl hx⟩) rfl (aK _) h.plt (by rw[show (Tk.two 319 s.p s.p).e=s.p from rfl,cY];exact⟨by decide,.inl rfl⟩) (fun q=>by cases q) (gA.refl fun q=>by cases q) ?_ (fun z=>by rw[show s.done=true from z] at hd;exact tz hd)
     show c+1+r.length+wt t s.p≤c+s.inds.length+wt t s.p+(match s.done with|true=>1|false=>0);rw[hd];simp only;lia
  ·exact hk s h rfl (Int.not_lt.mp (cK e))
theorem oM{col:Int}{K:V→Sc→Res}(F:TF t)(hc:-1≤col)(cc:c≤100)(h:J t g s c)(hd:s.done=false)(hk:∀s',J t g s' c→s'={s with ts:=s'.ts,ind:=s'.ind,inds:=s'.inds}→(s.flow=0→s'.ind≤col)→(K .none (sc t s')).sat Q E) :
  ((uu (n+2) "unwind_indent" [.int col] [] (sc t s)).go K).sat Q E:=by
 refine bS ?_;refine aN (r':=tx 400 (uu (n+1)) "unwind_indent" [.int col] (sc t s)) rfl ?_;rw[Rc];have sm:=h.small F cc;refine aT (fun e=>?_) fun e=>?_
 ·exact hk s h rfl fun q=>absurd (show s.flow=0 from q) (cK (cO e))
 ·exact Av F hc cc 400 s (by lia) h hd fun s' h1 h2 h3=>aN (FX _ _ _) (hk s' h1 h2 fun _=>h3)
theorem Bt{col:Int}{K:V→Sc→Res}(hl:s.inds.length≤9000)(h1:s.ind<col→(K (.bool true) (sc t {s with inds:=s.inds++[s.ind],ind:=col})).sat Q E)(h2:col≤s.ind→(K (.bool false) (sc t s)).sat Q E):((uu (n+2) "add_indent" [.int col] [] (sc t s)).go K).sat Q E:=by
 refine bS ?_;refine aN (r':=tx 400 (uu (n+1)) "add_indent" [.int col] (sc t s)) rfl ?_;rw[Rq];refine aT (fun e=>?_) fun e=>?_
 ·refine aZ ?_ ?_
  ·refine fX ?_
   show ((s.inds.map V.int)++[V.int s.ind]).length≤10000;rw[aU,List.length_map];show _+1≤_;lia
  ·have:=h1 (aI e)
   refine aN (r':=.ok (.bool true) (sc t {s with inds:=s.inds++[s.ind],ind:=col})) ?_ this;show Res.ok (.bool true) {sc t s with inds:=s.inds.map V.int++[V.int s.ind],indent:=col}=_;rw[show s.inds.map V.int++[V.int s.ind]=(s.inds++[s.ind]).map V.int by rw[List.map_append];rfl];rfl
 ·exact h2 (Int.not_lt.mp (cK e))
theorem Qq{K:V→Sc→Res}(h:J t g s c)(hs:s.ks.length≤9000)(h0:(K .none (sc t s)).sat Q E)(h1:∀r,(K .none (sc t {s with ks:=dY s.flow s.ks++[⟨s.flow,(g++s.ts).length,r,s.p⟩]})).sat Q E)(he:∀e,iL t s.p e→E e) :
  ((uu (n+3) "save_possible_simple_key" [] [] (sc t s)).go K).sat Q E:=by
 refine bS ?_;refine aN (r':=tx 400 (uu (n+2)) "save_possible_simple_key" [] (sc t s)) rfl ?_;rw[CV]
 have main:∀r:Bool,Res.sat (onB s.allow (c0r (uu (n+2)) "remove_possible_simple_key" (sc t s) fun S=>c0 (uu (n+2)) "get_mark" S fun m S'=>onB (Nat.ble (S'.keys.length+1) aO) (ok0 {S' with keys:=sW S'.flow (Vu (.int (S.taken+(S.toks.length:Int))) (.bool r) (.int S.idx) (.int S.line) (.int S.col) m) S'.keys}) .bad) (ok0 (sc t s))) (fun v S=>(K v S).sat Q E) E:=by
  intro r;refine aT (fun _=>iH ?_ he) fun _=>h0;refine bV (n:=n+1) (s:={s with ks:=dY s.flow s.ks}) (aZ ?_ ?_)
  ·refine fX ?_
   show ((dY s.flow s.ks).map fun k=>(k.lv,kyV t k)).length+1≤10000;rw[List.length_map];have:=(dM (x:=s.flow) (ks:=s.ks)).length_le;lia
  ·refine aN (r':=.ok .none (sc t {s with ks:=dY s.flow s.ks++[⟨s.flow,(g++s.ts).length,r,s.p⟩]})) ?_ (h1 r)
   have e:((s.taken:Int)+((s.ts.map (tkV t)).length:Int))=(((g++s.ts).length:Nat):Int)+1:=by
    rw[h.tk,List.length_map,aU];lia
   show ok0 {sc t s with keys:=sW s.flow (Vu (.int ((s.taken:Int)+((s.ts.map (tkV t)).length:Int))) _ _ _ _ _) ((dY s.flow s.ks).map fun k=>(k.lv,kyV t k))}=_;rw[Jq t (Dt (wG h.ord)),e];show _=ok0 {sc t s with keys:=(dY s.flow s.ks++[Ky.mk s.flow (g++s.ts).length r s.p]).map fun k=>(k.lv,kyV t k)};rw[List.map_append];rfl
 refine aT (fun _=>main _) fun _=>main _
end
theorem AX(t:List Nat):∀p,0≤(lc t p).2:=by
 intro p
 induction p with
 | zero=>exact Int.le_refl _
 | succ p ih=>
  show 0≤(lC (ch t p) (ch t (p+1)) (lc t p)).2;unfold lC
  cases Vv (ch t p) (ch t (p+1)) with
  | true=>exact Int.le_refl _
  | false=>
   cases decide (ch t p=65279) with
   | true=>exact ih
   | false=>show 0≤(lc t p).2+1;lia
theorem Kv{t:List Nat}{d:Int}(hd:0≤d):∀{l:List Tk} {s:LS},uR t s l→uR t ⟨s.last,s.level,s.blocks+d,s.bf⟩ l∧bW ⟨s.last,s.level,s.blocks+d,s.bf⟩ l=⟨(bW s l).last,(bW s l).level,(bW s l).blocks+d,(bW s l).bf⟩:=by
 intro l
 induction l with
 | nil=>intro s _;exact⟨trivial,rfl⟩
 | cons k l ih=>
  intro s h;refine aE h fun h1 h2=>?_;clear h
  have e:dH ⟨s.last,s.level,s.blocks+d,s.bf⟩ k=⟨(dH s k).last,(dH s k).level,(dH s k).blocks+d,(dH s k).bf⟩:=by
   unfold dH;rw[show s.blocks+d+hN k=s.blocks+hN k+d by lia]
  refine aE (ih h2) fun i1 i2=>?_;refine⟨⟨⟨h1.bf,h1.gap,h1.le,h1.len,h1.spelt,h1.ended,fun q=>?_⟩,by rw[e];exact i1⟩,?_⟩
  ·have:=h1.blk q
   show 1≤s.blocks+d;lia
  ·show bW (dH _ k) l=_
   rw[e];exact i2
section
variable{t:List Nat}{n:Nat}{Q:V→Sc→Prop}{E:V→Prop}{s:SS}{g:List Tk}{c:Nat}
theorem Ch.ins{A B:List Tk}{q:Tk}{p:Nat}{flow nb:Int}{done:Bool}(h:Ch t (A++q::B) p flow nb done){cl:Nat}(hc:cl=379∨cl=307) :
  Ch t (A ++ .two cl q.b q.b::q::B) p flow (nb+hN (.two cl q.b q.b)) done∧(bW (ls0 t) (A ++ .two cl q.b q.b::q::B)).last=(bW (ls0 t) (A++q::B)).last:=by
 have hd:0≤hN (.two cl q.b q.b):=by
  rcases hc with rfl|rfl
  ·exact Int.le_refl 0
  ·exact (by decide:(0:Int)≤1)
 have hl:oU (.two cl q.b q.b)=0:=by rcases hc with rfl|rfl<;>rfl
 have hf:kI (.two cl q.b q.b)=0:=by rcases hc with rfl|rfl<;>rfl
 have hs:iU cl=[]:=by rcases hc with rfl|rfl<;>rfl
 refine kG (lK.mp h.good) fun h1 h2 h3=>?_;have e1:bW (ls0 t) (A++q::B)=bW (dH (bW (ls0 t) A) q) B:=lP;have e2:bW (ls0 t) (A ++ .two cl q.b q.b::q::B)=bW (dH (dH (bW (ls0 t) A) (.two cl q.b q.b)) q) B:=lP
 have e3:dH (dH (bW (ls0 t) A) (.two cl q.b q.b)) q=⟨(dH (bW (ls0 t) A) q).last,(dH (bW (ls0 t) A) q).level,(dH (bW (ls0 t) A) q).blocks+hN (.two cl q.b q.b),(dH (bW (ls0 t) A) q).bf⟩:=by
  show LS.mk _ ((bW (ls0 t) A).level+oU (.two cl q.b q.b)+oU q) ((bW (ls0 t) A).blocks+hN (.two cl q.b q.b)+hN q) _=LS.mk _ ((bW (ls0 t) A).level+oU q) ((bW (ls0 t) A).blocks+hN q+hN (.two cl q.b q.b)) _;rw[hl,Int.add_zero,Int.add_right_comm];rfl
 refine aE (Kv hd h3) fun g1 g2=>?_
 have ee:bW (ls0 t) (A ++ .two cl q.b q.b::q::B)=⟨(bW (ls0 t) (A++q::B)).last,(bW (ls0 t) (A++q::B)).level,(bW (ls0 t) (A++q::B)).blocks+hN (.two cl q.b q.b),(bW (ls0 t) (A++q::B)).bf⟩:=by
  rw[e2,e3,g2,e1]
 refine⟨⟨lK.mpr ⟨h1,?_,?_,?_⟩,by rw[ee];exact h.gap,by rw[ee];exact h.lev,by rw[ee];show _+_=_;rw[h.blk],by rw[ee];exact h.bf⟩,by rw[ee]⟩
 ·refine⟨h2.bf,h2.gap,aK _,iS h2.le h2.len,?_,fun z=>absurd (hf.symm.trans z) (by decide),fun z=>by lia⟩
  refine⟨by rcases hc with rfl|rfl<;>decide,.inl ?_⟩;rw[hs];exact cY t q.b
 ·refine⟨fun z=>?_,?_,h2.le,h2.len,h2.spelt,fun z=>?_,fun z=>?_⟩
  ·have z:kI (.two cl q.b q.b)=1:=z
   rw[hf] at z;cases z
  ·show gA t (kI (.two cl q.b q.b)) q.b q.b
   rw[hf];exact gA.refl fun z=>by cases z
  ·show dC t q.e ((bW (ls0 t) A).level+oU (.two cl q.b q.b))
   rw[hl,Int.add_zero];exact h2.ended z
  ·have:=h2.blk z
   show 1≤(bW (ls0 t) A).blocks+hN (.two cl q.b q.b);lia
 ·rw[e3];exact g1
theorem Zu{l:List Tk}{i:Nat}{q:Tk}(h:l[i]? = some q):l=l.take i++q::l.drop (i+1):=by
 obtain⟨h1,h2⟩:=List.getElem?_eq_some_iff.mp h
 have:l.drop i=q::l.drop (i+1):=by rw[List.drop_eq_getElem_cons h1,h2]
 rw[←this,List.take_append_drop]
noncomputable def oK(ts:List Tk)(i:Nat)(k:Tk):List Tk:=ts.take i++k::ts.drop i
theorem J.ins{s':SS}{c' i cl x:Nat}{q:Tk}(h:J t g s c)(hc:cl=379∨cl=307)(hi:g.length≤i)(hq:(g++s.ts)[i]? = some q)(hx:q.b=x)(hts:s'.ts=oK s.ts (i-g.length) (.two cl x x))(hks:∀j∈s'.ks,j∈s.ks∧j.i<i)(ho:Ord s'.ks)
  (e1:s'.p=s.p) (e2:s'.done=s.done) (e3:s'.flow=s.flow) (e5:s'.taken=s.taken) (hind:jK s'.ind s'.inds) (hlen:(s'.inds.length:Int)=s.inds.length+hN (.two cl x x)) (hd:s.done=false) (hc':c+1+s'.inds.length≤c'+s.inds.length) :
  J t g s' c'∧(g++s'.ts)[i]? = some (.two cl x x):=by
 have len:i<(g++s.ts).length:=(List.getElem?_eq_some_iff.mp hq).1
 have hq':s.ts[i-g.length]? = some q:=by rw[List.getElem?_append_right hi] at hq;exact hq
 have lent:i-g.length<s.ts.length:=(List.getElem?_eq_some_iff.mp hq').1;have sp:=Zu hq'
 have dr:s.ts.drop (i-g.length)=q::s.ts.drop (i-g.length+1):=by
  obtain⟨h1,h2⟩:=List.getElem?_eq_some_iff.mp hq';rw[List.drop_eq_getElem_cons h1,h2]
 have ea:g++s.ts=(g++s.ts.take (i-g.length))++q::s.ts.drop (i-g.length+1):=by
  rw[fY,←sp]
 have eb:g++s'.ts=(g++s.ts.take (i-g.length)) ++ .two cl q.b q.b::q::s.ts.drop (i-g.length+1):=by
  rw[hts,hx,fY];unfold oK;rw[dr]
 have hch:=h.ch;rw[ea] at hch;refine aE (hch.ins hc) fun C L=>?_
 have la:(g++s.ts.take (i-g.length)).length=i:=by
  rw[aU,List.length_take,Nat.min_eq_left (bA lent)];exact Nat.add_sub_of_le ‹_›
 refine⟨⟨?_,by rw[e1];exact h.plt,by rw[e1];exact h.pos,by rw[e5];exact h.tk,hind,ho,fun k hk=>?_,?_,fun z=>by rw[e2,hd] at z;exact bx z⟩,?_⟩
 ·rw[eb,e1,e2,e3,hlen,←hx];exact C
 ·refine aE (hks k hk) fun h1 h2=>?_
  obtain⟨k1,k2,k3,r,k4,k5⟩:=h.key k h1;refine⟨by rw[e3];exact k1,k2,by rw[e1];exact k3,r,?_,k5⟩;rw[eb,List.getElem?_append_left (by lia)];rw[ea,List.getElem?_append_left (by lia)] at k4;exact k4
 ·have:=h.pot
  have l2:s'.ts.length=s.ts.length+1:=by
   rw[hts];unfold oK;rw[aU,List.length_cons,List.length_take,List.length_drop];exact zm (bA ‹_›)
  rw[e5,l2,e1,e2];lia
 ·rw[eb,List.getElem?_append_right (by lia),la,Nat.sub_self,hx];rfl
theorem Yt{k:Ky}{cl:Nat}{K:Sc→Res}(tk:s.taken=g.length+1)(h1:g.length≤k.i)(h2:k.i-g.length≤s.ts.length)(hl:s.ts.length≤9000)(h:(K (sc t {s with ts:=oK s.ts (k.i-g.length) (.two cl k.at_ k.at_)})).sat Q E):(Vx 400 (uu n) (kyV t k) cl (sc t s) K).sat Q E:=by
 refine aH (Eu _ k) (aH (a:=.int ((k.i-g.length:Nat):Int)) ?_ (aH (rS _ k) (aH (rS _ k) (aH (a:=((k.i-g.length:Nat):Int)) rfl ?_))))
 ·show some (V.int ((k.i:Int)+1-(s.taken:Int)))=_
  rw[tk,show (k.i:Int)+1-((g.length+1:Nat):Int)=((k.i-g.length:Nat):Int) by exact zc ‹_›]
 ·have e:Vy (sc t s).toks ((k.i-g.length:Nat):Int) (fO cl (mk t k.at_) (mk t k.at_))=(oK s.ts (k.i-g.length) (.two cl k.at_ k.at_)).map (tkV t):=by
   show (s.ts.map (tkV t)).take (k.i-g.length)++_::(s.ts.map (tkV t)).drop (k.i-g.length)=_;unfold oK;rw[List.map_append,List.map_cons,List.map_take,List.map_drop];rfl
  refine aZ ?_ (aZ ?_ ?_)
  ·show (decide ((0:Int)≤((k.i-g.length:Nat):Int))&&decide (((k.i-g.length:Nat):Int)≤((s.ts.map (tkV t)).length:Int)))=true
   rw[List.length_map,bN (by lia),bN (by exact Int.ofNat_le.mpr ‹_›)];rfl
  ·rw[e,List.length_map]
   refine fX ?_;unfold oK;rw[aU,List.length_cons,List.length_take,List.length_drop];exact aJ (Nat.le_of_eq (zm h2)) (aJ (Nat.succ_le_succ hl) (by decide))
  ·rw[e];exact h
noncomputable abbrev FQ(t:List Nat)(g:List Tk)(s:SS)(r:Res):Prop:=r.sat (fun _ S=>∃s',S=sc t s'∧J t g s' 0∧(s.p<s'.p∨s'.done=true)) (fun e=>∃i,iL t i e∧s.p≤i∧i<t.length)
theorem Dk{b:Bool}{P:Prop}(h:b=false):b=true→P:=fun q=>by rw[h] at q;exact bx q
theorem oN{s1:SS}{c1 cl m:Nat}{s':SS}(hcl:cl∈kM)(h:J t g s1 c1)(hd:s1.done=false)(hts:s'.ts=s1.ts++[.two cl s1.p (s1.p+m)])(htk:s'.taken=s1.taken)(hp:s'.p=s1.p+m)(hf:s'.flow=s1.flow+oU (.two cl s1.p (s1.p+m)))(hdn:s'.done=false)
  (hind:s'.ind=s1.ind) (hinds:s'.inds=s1.inds) (hb:hN (.two cl s1.p (s1.p+m))=0) (hbf:kI (.two cl s1.p (s1.p+m))=0) (hord:Ord s'.ks) (hkey:∀x∈s'.ks,x.lv≤s'.flow∧(x∈s1.ks∨(x.i=(g++s1.ts).length∧x.at_=s1.p)))
  (hl:s1.p+m<t.length) (sp:cut t s1.p (s1.p+m)=iU cl∨(cl=379∧cut t s1.p (s1.p+m)=[63])) (hw:c1+1+wt t (s1.p+m)≤wt t s1.p):J t g s' 0:=by
 refine h.push hd (.two cl s1.p (s1.p+m)) hts htk hf (by rw[hdn,hbf];rfl) (by rw[hind,hinds];exact h.ind) (by rw[hinds,hb,Int.add_zero]) hord hkey rfl (bY _ _) (by rw[hp];exact hl) ⟨hcl,sp⟩ (fun q=>by rw[hbf] at q;cases q) ?_ ?_ (Dk hdn)
 ·rw[hbf,hp];exact gA.refl fun q=>by cases q
 ·rw[hinds,hp,hdn]
  show _≤_+_+_+0;lia
theorem J.delKey(h:J t g s c):∀x∈dY s.flow s.ks,x.lv≤s.flow∧x.lv≤s.flow-1∧x∈s.ks:=fun x hx=>by
 have h1:=dM.mem hx;have h2:=(h.key x h1).1;have h3:=wG h.ord x hx;exact⟨h2,by lia,h1⟩
end
theorem jK.low{i:Int}{l:List Int}(h:jK i l)(hi:i ≤ -1):l=[]:=by
 cases h with
 | nil=>rfl
 | snoc h lt=>have:=h.ge;lia
section
variable{t:List Nat}{n:Nat}{Q:V→Sc→Prop}{E:V→Prop}{s:SS}{g:List Tk}
theorem BW(F:TF t)(h:J t g s 0)(hd:s.done=false)(hc:ch t s.p=0):FQ t g s (uu (n+3) "fetch_stream_end" [] [] (sc t s)):=by
 refine aN (r':=tx 400 (uu (n+2)) "fetch_stream_end" [] (sc t s)) rfl ?_;rw[CS]
 have last:s.p+1=t.length:=by
  rcases Nat.lt_or_ge (s.p+1) t.length with q|q
  ·exact absurd hc (F.nz _ q)
  ·have:=h.plt;lia
 refine oM (c:=0) F (by decide) (by exact Nat.zero_le _) h hd fun s1 h1 e1 hf=>?_
 have ep:s1.p=s.p:=by rw[e1]
 have ed:s1.done=false:=by rw[e1];exact hd
 have ef:s1.flow=s.flow:=by rw[e1]
 refine iH ?_ fun e q=>⟨s1.p,q,Nat.le_of_eq ep.symm,h1.plt⟩;have h2:=(h1.del s1.flow).upd (s':={s1 with allow:=false,ks:=[]}) rfl rfl rfl rfl rfl rfl rfl (fun x hx=>nomatch hx) List.Pairwise.nil;have sm:=h2.small F (by exact Nat.zero_le _);refine bV (s:={s1 with allow:=false,ks:=[]}) (lM (s:={s1 with allow:=false,ks:=[]}) (k:=.two 283 s1.p s1.p) (by show s1.ts.length≤_;have:s1.ts.length+s1.inds.length≤300:=sm;lia) ?_);refine⟨{s1 with allow:=false,ks:=[],ts:=s1.ts++[.two 283 s1.p s1.p],done:=true},rfl,?_,.inr rfl⟩;refine h2.push ed (.two 283 s1.p s1.p) rfl rfl (Int.add_zero _).symm rfl h1.ind (Int.add_zero _).symm List.Pairwise.nil (fun x hx=>nomatch hx) rfl (aK _) h1.plt ⟨by decide,.inl (by rw[show (Tk.two 283 s1.p s1.p).e=s1.p from rfl,cY];rfl)⟩ (fun q=>by cases q) (gA.refl fun q=>by cases q) (by show 0+1+s1.inds.length+wt t s1.p≤0+s1.inds.length+wt t s1.p+1;lia) fun _=>⟨by rw[←ep] at last;exact last,fun q=>h1.ind.low (hf (by rw[←ef];exact q)),rfl,rfl⟩
theorem Lz{p m:Nat}(h:p+(m+1)<t.length)(hc:1≤wgt (ch t p)):1+wt t (p+(m+1))≤wt t p:=by
 rw[nT (show p<t.length by exact zd ‹_›)];have:=rF (t:=t) (show p+1≤p+(m+1) by lia);lia
theorem BZ{cl:Nat}(hcl:cl=239∨cl=251)(F:TF t)(h:J t g s 0)(hd:s.done=false)(hl:s.p+3<t.length)(sp:cut t s.p (s.p+3)=iU cl)(hw:1≤wgt (ch t s.p)):FQ t g s (uu (n+3) "fetch_document_indicator" [.cls cl] [] (sc t s)):=by
 have e:uu (n+3) "fetch_document_indicator" [.cls cl] [] (sc t s)=c1r (uu (n+2)) "unwind_indent" (.int (-1)) (sc t s) fun S=>c0r (uu (n+2)) "remove_possible_simple_key" S fun S=>c0 (uu (n+2)) "get_mark" {S with allow:=false} fun a S=>c1r (uu (n+2)) "forward" (.int 3) S fun S=>c0 (uu (n+2)) "get_mark" S fun b S=>cN S (fO cl a b) ok0:=by
  rcases hcl with rfl|rfl
  ·exact Wy 400 (uu (n+2)) (sc t s)
  ·exact Wx 400 (uu (n+2)) (sc t s)
 rw[e];refine oM (c:=0) F (by decide) (by exact Nat.zero_le _) h hd fun s1 h1 e1 hf=>?_
 have ep:s1.p=s.p:=by rw[e1]
 have ed:s1.done=false:=by rw[e1];exact hd
 have hl:s1.p+3<t.length:=by rw[ep];exact hl
 refine iH ?_ fun e q=>⟨s1.p,q,Nat.le_of_eq ep.symm,h1.plt⟩;have sm:=h1.small F (by exact Nat.zero_le _);refine bV (s:={s1 with allow:=false,ks:=dY s1.flow s1.ks}) (jF (k:=3) hl (by exact Nat.le_add_left ..) (bV ?_));refine lM (s:={s1 with allow:=false,ks:=dY s1.flow s1.ks,p:=s1.p+3}) (k:=.two cl s1.p (s1.p+3)) (by show s1.ts.length≤_;lia) ?_;refine⟨{s1 with allow:=false,ks:=dY s1.flow s1.ks,p:=s1.p+3,ts:=s1.ts++[.two cl s1.p (s1.p+3)]},rfl,?_,.inl (by show s.p<s1.p+3;lia)⟩;refine oN (m:=3) (by rcases hcl with rfl|rfl<;>decide) h1 ed rfl rfl rfl ?_ ed rfl rfl ?_ ?_ (h1.ord.sublist dM) (fun x hx=>⟨(h1.delKey x hx).1,.inl (h1.delKey x hx).2.2⟩) hl (.inl (by rw[ep];exact sp)) ?_
 ·rcases hcl with rfl|rfl<;>exact (Int.add_zero _).symm
 ·rcases hcl with rfl|rfl<;>rfl
 ·rcases hcl with rfl|rfl<;>rfl
 ·rw[Nat.zero_add];exact Lz (m:=2) hl (by rw[ep];exact hw)
theorem Yw{cl:Nat}{m:Str}(hm:(m = "fetch_document_start" ∧ cl=239)∨(m = "fetch_document_end" ∧ cl=251))(F:TF t)(h:J t g s 0)(hd:s.done=false)(hl:s.p+3<t.length)(sp:cut t s.p (s.p+3)=iU cl)(hw:1≤wgt (ch t s.p)):FQ t g s (uu (n+4) m [] [] (sc t s)):=by
 have key:=BZ (n:=n) (hm.imp (·.2) (·.2)) F h hd hl sp hw
 rcases hm with ⟨rfl,rfl⟩|⟨rfl,rfl⟩
 ·refine bE (Ri 400 (uu (n+3)) (sc t s)) rfl (bS (dG key (fun _ _ z=>z) fun _ z=>z))
 ·refine bE (DF 400 (uu (n+3)) (sc t s)) rfl (bS (dG key (fun _ _ z=>z) fun _ z=>z))
theorem Yu{cl:Nat}(hcl:cl=331∨cl=343)(F:TF t)(h:J t g s 0)(hd:s.done=false)(hl:s.p+1<t.length)(hk:s.ks.length≤9000)(sp:[ch t s.p]=iU cl)(hw:1≤wgt (ch t s.p)):FQ t g s (uu (n+4) "fetch_flow_collection_start" [.cls cl] [] (sc t s)):=by
 have e:uu (n+4) "fetch_flow_collection_start" [.cls cl] [] (sc t s)=c0r (uu (n+3)) "save_possible_simple_key" (sc t s) fun S=>mT (uu (n+3)) {S with flow:=S.flow+1,allow:=true} fun a b S=>cN S (fO cl a b) ok0:=by
  rcases hcl with rfl|rfl
  ·exact DB 400 (uu (n+3)) (sc t s)
  ·exact DA 400 (uu (n+3)) (sc t s)
 rw[e];have sm:=h.small F (by exact Nat.zero_le _)
 have main:∀ks,Ord ks→(∀x∈ks,x.lv≤s.flow+1∧(x∈s.ks∨(x.i=(g++s.ts).length∧x.at_=s.p)))→FQ t g s (mT (uu (n+3)) {sc t {s with ks:=ks} with flow:=s.flow+1,allow:=true} fun a b S=>cN S (fO cl a b) ok0):=by
  intro ks ho hks;refine yG (s:={s with ks:=ks,flow:=s.flow+1,allow:=true}) hl ?_;refine lM (s:={s with ks:=ks,flow:=s.flow+1,allow:=true,p:=s.p+1}) (k:=.two cl s.p (s.p+1)) (by show s.ts.length≤_;lia) ?_;refine⟨{s with ks:=ks,flow:=s.flow+1,allow:=true,p:=s.p+1,ts:=s.ts++[.two cl s.p (s.p+1)]},rfl,?_,.inl (Nat.lt_succ_self _)⟩;refine oN (m:=1) (by rcases hcl with rfl|rfl<;>decide) h hd rfl rfl rfl ?_ hd rfl rfl ?_ ?_ ho hks hl (.inl (by rw[eZ h.plt];exact sp)) ?_
  ·rcases hcl with rfl|rfl<;>rfl
  ·rcases hcl with rfl|rfl<;>rfl
  ·rcases hcl with rfl|rfl<;>rfl
  ·rw[Nat.zero_add];exact Lz (m:=0) hl hw
 refine Qq h hk ?_ (fun r=>?_) fun e q=>⟨s.p,q,aK _,h.plt⟩
 ·exact main s.ks h.ord fun x hx=>⟨by have:=(h.key x hx).1;lia,.inl hx⟩
 ·refine main _ ?_ fun x hx=>?_
  ·refine List.pairwise_append.mpr ⟨h.ord.sublist dM,List.pairwise_singleton _ _,fun a ha b hb=>?_⟩
   rw[cG hb];refine kG (h.delKey a ha) fun d1 d2 d3=>?_;obtain⟨_,_,_,q,k4,_⟩:=h.key a d3;exact⟨by show a.lv<s.flow;lia,(List.getElem?_eq_some_iff.mp k4).1⟩
  ·rcases List.mem_append.mp hx with z|z
   ·exact⟨by have:=(h.delKey x z).1;lia,.inl (h.delKey x z).2.2⟩
   ·rw[cG z];exact⟨by show s.flow≤s.flow+1;lia,.inr ⟨rfl,rfl⟩⟩
theorem Yv{cl:Nat}(hcl:cl=355∨cl=367)(F:TF t)(h:J t g s 0)(hd:s.done=false)(hl:s.p+1<t.length)(sp:[ch t s.p]=iU cl)(hw:1≤wgt (ch t s.p)):FQ t g s (uu (n+3) "fetch_flow_collection_end" [.cls cl] [] (sc t s)):=by
 have e:uu (n+3) "fetch_flow_collection_end" [.cls cl] [] (sc t s)=c0r (uu (n+2)) "remove_possible_simple_key" (sc t s) fun S=>mT (uu (n+2)) {S with flow:=S.flow-1,allow:=false} fun a b S=>cN S (fO cl a b) ok0:=by
  rcases hcl with rfl|rfl
  ·exact DD 400 (uu (n+2)) (sc t s)
  ·exact DC 400 (uu (n+2)) (sc t s)
 rw[e];have sm:=h.small F (by exact Nat.zero_le _);refine iH ?_ fun e q=>⟨s.p,q,aK _,h.plt⟩;refine yG (s:={s with ks:=dY s.flow s.ks,flow:=s.flow-1,allow:=false}) hl ?_;refine lM (s:={s with ks:=dY s.flow s.ks,flow:=s.flow-1,allow:=false,p:=s.p+1}) (k:=.two cl s.p (s.p+1)) (by show s.ts.length≤_;lia) ?_;refine⟨{s with ks:=dY s.flow s.ks,flow:=s.flow-1,allow:=false,p:=s.p+1,ts:=s.ts++[.two cl s.p (s.p+1)]},rfl,?_,.inl (Nat.lt_succ_self _)⟩;refine oN (m:=1) (by rcases hcl with rfl|rfl<;>decide) h hd rfl rfl rfl ?_ hd rfl rfl ?_ ?_ (h.ord.sublist dM) (fun x hx=>⟨(h.delKey x hx).2.1,.inl (h.delKey x hx).2.2⟩) hl (.inl (by rw[eZ h.plt];exact sp)) ?_
 ·rcases hcl with rfl|rfl<;>rfl
 ·rcases hcl with rfl|rfl<;>rfl
 ·rcases hcl with rfl|rfl<;>rfl
 ·rw[Nat.zero_add];exact Lz (m:=0) hl hw
theorem yI{cl:Nat}{m:Str}(hm:(m = "fetch_flow_sequence_start" ∧ cl=331)∨(m = "fetch_flow_mapping_start" ∧ cl=343)∨(m = "fetch_flow_sequence_end" ∧ cl=355)∨(m = "fetch_flow_mapping_end" ∧ cl=367))(F:TF t)(h:J t g s 0)(hd:s.done=false)(hl:s.p+1<t.length)(hk:s.ks.length≤9000)(sp:[ch t s.p]=iU cl)(hw:1≤wgt (ch t s.p)):FQ t g s (uu (n+5) m [] [] (sc t s)):=by
 rcases hm with ⟨rfl,rfl⟩|⟨rfl,rfl⟩|⟨rfl,rfl⟩|⟨rfl,rfl⟩
 ·exact bE (HS 400 (uu (n+4)) (sc t s)) rfl (bS (dG (Yu (n:=n) (.inl rfl) F h hd hl hk sp hw) (fun _ _ z=>z) fun _ z=>z))
 ·exact bE (HY 400 (uu (n+4)) (sc t s)) rfl (bS (dG (Yu (n:=n) (.inr rfl) F h hd hl hk sp hw) (fun _ _ z=>z) fun _ z=>z))
 ·exact bE (HU 400 (uu (n+4)) (sc t s)) rfl (bS (dG (Yv (n:=n+1) (.inl rfl) F h hd hl sp hw) (fun _ _ z=>z) fun _ z=>z))
 ·exact bE (HZ 400 (uu (n+4)) (sc t s)) rfl (bS (dG (Yv (n:=n+1) (.inr rfl) F h hd hl sp hw) (fun _ _ z=>z) fun _ z=>z))
theorem mG{cl c:Nat}{a:Bool}(hcs:cl∈kM)(hb:hN (.two cl s.p (s.p+1))=0)(hbf:kI (.two cl s.p (s.p+1))=0)(hlv:oU (.two cl s.p (s.p+1))=0)(F:TF t)(cc:c≤100)(h:J t g s c)(hd:s.done=false)(hl:s.p+1<t.length)(sp:[ch t s.p]=iU cl∨(cl=379∧[ch t s.p]=[63]))(hw:c+1≤wgt (ch t s.p)) :
  FQ t g s (c0r (uu (n+2)) "remove_possible_simple_key" (sc t {s with allow:=a}) fun S=>mT (uu (n+2)) S fun a b S=>cN S (fO cl a b) ok0):=by
 have sm:=h.small F cc;refine iH (s:={s with allow:=a}) ?_ fun e q=>⟨s.p,q,aK _,h.plt⟩;refine yG (s:={s with ks:=dY s.flow s.ks,allow:=a}) hl ?_;refine lM (s:={s with ks:=dY s.flow s.ks,allow:=a,p:=s.p+1}) (k:=.two cl s.p (s.p+1)) (by show s.ts.length≤_;lia) ?_;refine⟨{s with ks:=dY s.flow s.ks,allow:=a,p:=s.p+1,ts:=s.ts++[.two cl s.p (s.p+1)]},rfl,?_,.inl (Nat.lt_succ_self _)⟩;refine oN (m:=1) hcs h hd rfl rfl rfl (by rw[hlv];exact (Int.add_zero _).symm) hd rfl rfl hb hbf (h.ord.sublist dM) (fun x hx=>⟨(h.delKey x hx).1,.inl (h.delKey x hx).2.2⟩) hl (by rw[eZ h.plt];exact sp) ?_;rw[nT h.plt];lia
theorem FQ.ext{r:Res}{s1:SS}(e:s1.p=s.p)(h:FQ t g s1 r):FQ t g s r:=by
 unfold FQ at h ⊢;rw[e] at h;exact h
theorem BY(F:TF t)(h:J t g s 0)(hd:s.done=false)(hl:s.p+1<t.length)(hc:ch t s.p=44):FQ t g s (uu (n+3) "fetch_flow_entry" [] [] (sc t s)):=
 bE (CZ 400 (uu (n+2)) (sc t s)) rfl (mG (t:=t) (s:=s) (a:=true) (cl:=415) (by decide) rfl rfl rfl F (by exact Nat.zero_le _) h hd hl (.inl (by rw[hc];rfl)) (by rw[hc];decide))
theorem yH{cl c:Nat}{K:Sc→Res}(hcl:cl=295∨cl=307)(F:TF t)(cc:c≤90)(h:J t g s c)(hd:s.done=false)(hk:∀s',J t g s' (c+2)→s'={s with ts:=s'.ts,ind:=s'.ind,inds:=s'.inds}→FQ t g s (K (sc t s'))) :
  FQ t g s (c1 (uu (n+2)) "add_indent" (.int (lc t s.p).2) (sc t s) fun v S=>O1 (cF v) fun b=>onB b (c0 (uu (n+2)) "get_mark" S fun m S=>cN S (fO cl m m) K) (K S)):=by
 have sm:=h.small F (by exact aJ ‹_› (by decide));refine Bt (by lia) (fun lt=>?_) fun _=>?_
 ·refine aH (a:=true) rfl (aZ rfl (bV ?_))
  refine lM (k:=.two cl s.p s.p) (by show s.ts.length≤_;lia) (hk _ ?_ rfl)
  have hb:hN (.two cl s.p s.p)=1:=by rcases hcl with rfl|rfl<;>rfl
  have hbf:kI (.two cl s.p s.p)=0:=by rcases hcl with rfl|rfl<;>rfl
  have hs:iU cl=[]:=by rcases hcl with rfl|rfl<;>rfl
  have hlv:oU (.two cl s.p s.p)=0:=by rcases hcl with rfl|rfl<;>rfl
  refine h.push hd (.two cl s.p s.p) rfl rfl (by rw[hlv];exact (Int.add_zero _).symm) (by rw[hbf];exact hd) (.snoc h.ind lt) ?_ h.ord (fun x hx=>⟨(h.key x hx).1,.inl hx⟩) rfl (aK _) h.plt ⟨by rcases hcl with rfl|rfl<;>decide,.inl (by rw[hs];exact cY _ _)⟩ (fun q=>absurd (hbf.symm.trans q) (by decide)) (by rw[hbf];exact gA.refl fun q=>by cases q) ?_ (Dk hd)
  ·rw[hb,aU];rfl
  ·show c+1+(s.inds++[s.ind]).length+wt t s.p≤c+2+s.inds.length+wt t s.p+_
   rw[aU];show _+_+(_+1)+_≤_;lia
 ·refine aH (a:=false) rfl (aQ rfl (hk s ⟨h.ch,h.plt,h.pos,h.tk,h.ind,h.ord,h.key,aJ h.pot (by lia),h.fin⟩ rfl))
theorem FQ.ext'{r:Res}{s1:SS}(h:FQ t g s1 r)(e:s1.p=s.p):FQ t g s r:=FQ.ext e h
theorem CA(F:TF t)(h:J t g s 0)(hd:s.done=false)(hl:s.p+1<t.length)(hc:ch t s.p=45):FQ t g s (uu (n+3) "fetch_block_entry" [] [] (sc t s)):=by
 refine bE (DG 400 (uu (n+2)) (sc t s)) rfl ?_;refine aT (fun _=>aT (fun _=>bV ⟨s.p,⟨_,_,_,rfl⟩,aK _,h.plt⟩) fun _=>?_) fun _=>?_
 ·refine yH (n:=n) (.inl rfl) F (by exact Nat.zero_le _) h hd fun s' h' e=>?_
  have ep:s'.p=s.p:=by rw[e]
  exact FQ.ext ep (mG (t:=t) (s:=s') (a:=true) (cl:=403) (by decide) rfl rfl rfl F (by exact Nat.le_add_left ..) h' (by rw[e];exact hd) (by rw[ep];exact hl) (.inl (by rw[ep,hc];rfl)) (by rw[ep,hc];decide))
 ·exact mG (t:=t) (s:=s) (a:=true) (cl:=403) (by decide) rfl rfl rfl F (by exact Nat.zero_le _) h hd hl (.inl (by rw[hc];rfl)) (by rw[hc];decide)
theorem HH(F:TF t)(h:J t g s 0)(hd:s.done=false)(hl:s.p+1<t.length)(hc:ch t s.p=63):FQ t g s (uu (n+3) "fetch_key" [] [] (sc t s)):=by
 refine bE (HP 400 (uu (n+2)) (sc t s)) rfl ?_;refine aT (fun _=>aT (fun _=>bV ⟨s.p,⟨_,_,_,rfl⟩,aK _,h.plt⟩) fun _=>?_) fun _=>?_
 ·refine yH (n:=n) (.inr rfl) F (by exact Nat.zero_le _) h hd fun s' h' e=>?_
  have ep:s'.p=s.p:=by rw[e]
  exact FQ.ext ep (mG (t:=t) (s:=s') (a:=!(!decide (s'.flow=0))) (cl:=379) (by decide) rfl rfl rfl F (by exact Nat.le_add_left ..) h' (by rw[e];exact hd) (by rw[ep];exact hl) (.inr ⟨rfl,by rw[ep,hc]⟩) (by rw[ep,hc];decide))
 ·exact mG (t:=t) (s:=s) (a:=!(!decide (s.flow=0))) (cl:=379) (by decide) rfl rfl rfl F (by exact Nat.zero_le _) h hd hl (.inr ⟨rfl,by rw[hc]⟩) (by rw[hc];decide)
theorem wP{c:Nat}{a:Bool}(F:TF t)(cc:c≤3)(h:J t g s c)(hd:s.done=false)(hl:s.p+1<t.length)(hc:ch t s.p=58):FQ t g s (mT (uu (n+2)) (sc t {s with allow:=a}) fun a b S=>cN S (fO 391 a b) ok0):=by
 have sm:=h.small F (by exact aJ ‹_› (by decide));refine yG (s:={s with allow:=a}) hl ?_;refine lM (s:={s with allow:=a,p:=s.p+1}) (k:=.two 391 s.p (s.p+1)) (by show s.ts.length≤_;lia) ?_;refine⟨{s with allow:=a,p:=s.p+1,ts:=s.ts++[.two 391 s.p (s.p+1)]},rfl,?_,.inl (Nat.lt_succ_self _)⟩;refine oN (m:=1) (by decide) h hd rfl rfl rfl (Int.add_zero _).symm hd rfl rfl rfl rfl h.ord (fun x hx=>⟨(h.key x hx).1,.inl hx⟩) hl (.inl (by rw[eZ h.plt,hc];rfl)) ?_;rw[nT h.plt,hc];show c+1+_≤4+_;lia
set_option maxHeartbeats 400000 in
theorem Wh(F:TF t)(h:J t g s 0)(hd:s.done=false)(hl:s.p+1<t.length)(hc:ch t s.p=58):FQ t g s (uu (n+3) "fetch_value" [] [] (sc t s)):=by
 refine bE (Wn 400 (uu (n+2)) (sc t s)) rfl ?_;have sm:=h.small F (by exact Nat.zero_le _);show FQ t g s (onB (cX s.flow (s.ks.map fun k=>(k.lv,kyV t k))).isSome (onO (cX s.flow (s.ks.map fun k=>(k.lv,kyV t k))) _ .bad) _);rw[hW]
 cases q:gP s.flow s.ks with
 | some k=>
  refine aE (Kh q) fun hk hlv=>?_;obtain⟨k1,k2,k3,r,k4,k5⟩:=h.key k hk;have len:=(List.getElem?_eq_some_iff.mp k4).1;rw[aU] at len;refine aZ rfl (aH (a:=kyV t k) rfl (aZ ?_ ?_))
  ·show (cX s.flow (s.ks.map fun k=>(k.lv,kyV t k))).isSome=true
   rw[hW,q];rfl
  have hlow:∀j∈dY s.flow s.ks,j∈s.ks∧j.i<k.i:=fun j hj=>by
   refine kG (h.delKey j hj) fun d1 d2 d3=>?_;refine⟨d3,?_⟩
   have tri:∀ks:List Ky,Ord ks→j∈ks→k∈ks→j.lv<k.lv→j.i<k.i:=by
    intro ks
    induction ks with
    | nil=>intro _ h;cases h
    | cons a r ih=>
     intro o hj hk lt;refine aE (List.pairwise_cons.mp o) fun o1 o2=>?_
     rcases al_mc hj with z|z
     ·rcases al_mc hk with y|y
      ·rw[z,y] at lt;lia
      ·rw[z];exact (o1 k y).2
     ·rcases al_mc hk with y|y
      ·have:=(o1 j z).1;rw[←y] at this;lia
      ·exact ih o2 z y lt
   exact tri _ h.ord d3 hk (by lia)
  have ek:({sc t s with keys:=nO s.flow (s.ks.map fun k=>(k.lv,kyV t k))}:Sc)=sc t {s with ks:=dY s.flow s.ks}:=by rw[uD];rfl
  show FQ t g s (Vx 400 (uu (n+2)) (kyV t k) 379 {sc t s with keys:=nO s.flow (s.ks.map fun k=>(k.lv,kyV t k))} _);rw[ek];refine Yt (g:=g) h.tk k2 (by show _≤s.ts.length;exact zs ‹_›) (by show s.ts.length≤_;lia) ?_;refine aE (h.ins (s':={s with ks:=dY s.flow s.ks,ts:=oK s.ts (k.i-g.length) (.two 379 k.at_ k.at_)}) (c':=1) (.inl rfl) k2 k4 k5 rfl hlow (h.ord.sublist dM) rfl rfl rfl rfl h.ind (Int.add_zero _).symm hd (by show 0+1+s.inds.length≤_;exact aK _)) fun j1 j2=>?_;have sm1:=j1.small F (by exact Nat.succ_pos _);dsimp only;refine aT (fun _=>?_) fun _=>?_
  ·refine aH (EC _ k) (Bt (n:=n) (by show s.inds.length≤_;lia) (fun lt=>?_) fun _=>?_)
   ·refine aH (a:=true) rfl (aZ rfl ?_)
    dsimp only;refine Yt (g:=g) h.tk k2 ?_ ?_ ?_
    ·show _≤(oK s.ts (k.i-g.length) (.two 379 k.at_ k.at_)).length
     unfold oK;rw[aU,List.length_cons,List.length_take,List.length_drop];have dl:k.i-g.length≤s.ts.length:=zs ‹_›;rw[zm dl];exact Nat.le_succ_of_le dl
    ·show (oK s.ts (k.i-g.length) (.two 379 k.at_ k.at_)).length≤_
     have:(oK s.ts (k.i-g.length) (.two 379 k.at_ k.at_)).length+s.inds.length≤300:=sm1;lia
    ·refine aE (j1.ins (s':={s with ks:=dY s.flow s.ks,inds:=s.inds++[s.ind],ind:=(lc t k.at_).2,ts:=oK (oK s.ts (k.i-g.length) (.two 379 k.at_ k.at_)) (k.i-g.length) (.two 307 k.at_ k.at_)}) (c':=3) (.inr rfl) k2 j2 rfl rfl (fun j hj=>⟨hj,(hlow j hj).2⟩) (h.ord.sublist dM) rfl rfl rfl rfl (.snoc h.ind lt) (by show ((s.inds++[s.ind]).length:Int)=_;rw[aU];rfl) hd (by show 1+1+(s.inds++[s.ind]).length≤3+s.inds.length;rw[aU];show 1+1+(_+1)≤_;lia)) fun m1 m2=>?_
     dsimp only;exact FQ.ext' (wP (n:=n) (a:=false) F (by exact aK _) m1 hd hl hc) rfl
   ·exact aH (a:=false) rfl (aQ rfl (FQ.ext' (wP (n:=n) (a:=false) F (by exact Nat.succ_pos _) j1 hd hl hc) rfl))
  ·exact FQ.ext' (wP (n:=n) (a:=false) F (by exact Nat.succ_pos _) j1 hd hl hc) rfl
 | none=>
  refine aQ rfl ?_
  have tail:∀s',(∃c,c≤2∧J t g s' c)→s'.p=s.p→s'.done=false→FQ t g s (c0r (uu (n+2)) "remove_possible_simple_key" {sc t s' with allow:=!(!decide (s'.flow=0))} fun S=>mT (uu (n+2)) S fun a b S=>cN S (fO 391 a b) ok0):=by
   intro s' ⟨c,cc,h'⟩ ep ed;exact FQ.ext ep (mG (t:=t) (s:=s') (a:=!(!decide (s'.flow=0))) (cl:=391) (by decide) rfl rfl rfl F (by exact aJ ‹_› (by decide)) h' ed (by rw[ep];exact hl) (.inl (by rw[ep,hc];rfl)) (by rw[ep,hc];show c+1≤4;lia))
  have mid:FQ t g s ((fun J:Sc→Res=>onB (!(!decide (s.flow=0))) (c1 (uu (n+2)) "add_indent" (.int (lc t s.p).2) (sc t s) fun v S=>O1 (cF v) fun b=>onB b (c0 (uu (n+2)) "get_mark" S fun m S=>cN S (fO 307 m m) J) (J S)) (J (sc t s))) fun S=>c0r (uu (n+2)) "remove_possible_simple_key" {S with allow:=!(!decide (S.flow=0))} fun S=>mT (uu (n+2)) S fun a b S=>cN S (fO 391 a b) ok0):=by
   refine aT (fun _=>?_) fun _=>?_
   ·refine yH (n:=n) (.inr rfl) F (by exact Nat.zero_le _) h hd fun s' h' e=>?_
    exact tail s' ⟨2,aK _,h'⟩ (by rw[e]) (by rw[e];exact hd)
   ·exact tail s ⟨0,by exact Nat.zero_le _,h⟩ rfl hd
  refine aT (fun _=>aT (fun _=>bV ⟨s.p,⟨_,_,_,rfl⟩,aK _,h.plt⟩) fun _=>mid) fun _=>mid
end
theorem bO(N:Nat)(f:Str→MFn)(m:Str)(w:List (Nat×Nat))(i:Nat)(K:Fl→St→Res)(st:St):nxt N f m w i K .next st=X N f m w i st K:=rfl
structure TS(t:List Nat)(flow:Int)(p:Nat)(k:Tk)(p':Nat):Prop where
 b:k.b=p
 e:p≤k.e
 lt:p<p'
 len:p'<t.length
 spelt:spelt k (cut t p k.e)
 ended:kI k=2→dC t k.e flow
 gap:gA t (kI k) k.e p'
 bf:kI k≠1
 lev:oU k=0
 blk:hN k=0
noncomputable abbrev EP(t:List Nat)(p:Nat):V→Prop:=fun e=>∃i,iL t i e∧p≤i∧i<t.length
noncomputable abbrev SQ(t:List Nat)(s:SS)(r:Res):Prop:=r.sat (fun v S=>∃k p' a,v=tkV t k∧S=sc t {s with p:=p',allow:=a}∧TS t s.flow s.p k p') (EP t s.p)
section
variable{t:List Nat}{n:Nat}{Q:V→Sc→Prop}{E:V→Prop}{s:SS}{g:List Tk}
theorem mA{r:Sc→Res}{ks:List Ky}{a:Bool}(F:TF t)(h:J t g s 0)(hd:s.done=false)(hw:1≤wgt (ch t s.p))(ho:Ord ks)(hks:∀x∈ks,x.lv≤s.flow∧(x∈s.ks∨(x.i=(g++s.ts).length∧x.at_=s.p)))(hs:∀s1,s1.p=s.p→s1.flow=s.flow→SQ t s1 (r (sc t s1))) :
  FQ t g s ((r (sc t {s with ks:=ks,allow:=a})).go fun v S=>cN S v ok0):=by
 have sm:=h.small F (by exact Nat.zero_le _);refine bS (dG (hs {s with ks:=ks,allow:=a} rfl rfl) (fun v S q=>?_) fun e q=>q);refine Lg q fun k p' a' e3 e4 T=>?_;clear q;subst e3 e4;have T:TS t s.flow s.p k p':=T;dsimp only;refine lM (by show s.ts.length≤_;lia) ⟨{s with ks:=ks,p:=p',allow:=a',ts:=s.ts++[k]},rfl,?_,.inl T.lt⟩;have hbf:decide (kI k=1)=false:=cE T.bf;refine h.push hd k rfl rfl (by rw[T.lev];exact (Int.add_zero _).symm) (by rw[hbf];exact hd) h.ind (by rw[T.blk];exact (Int.add_zero _).symm) ho hks T.b T.e T.len T.spelt T.ended T.gap ?_ (Dk hd);show 0+1+s.inds.length+wt t p'≤0+s.inds.length+wt t s.p+_;have w1:=nT h.plt;have w2:=rF (t:=t) (show s.p+1≤p' from T.lt);lia
theorem mL{r:Sc→Res}(F:TF t)(h:J t g s 0)(hd:s.done=false)(hk:s.ks.length≤9000)(hw:1≤wgt (ch t s.p))(hs:∀s1,s1.p=s.p→s1.flow=s.flow→SQ t s1 (r (sc t s1))):FQ t g s (vJ (uu (n+3)) (sc t s) fun S=>(r S).go fun v S=>cN S v ok0):=by
 refine Qq h hk ?_ (fun b=>?_) fun e q=>⟨s.p,q,aK _,h.plt⟩
 ·exact mA (ks:=s.ks) (a:=false) F h hd hw h.ord (fun x hx=>⟨(h.key x hx).1,.inl hx⟩) hs
 ·refine mA (ks:=dY s.flow s.ks++[⟨s.flow,(g++s.ts).length,b,s.p⟩]) (a:=false) F h hd hw ?_ (fun x hx=>?_) hs
  ·refine List.pairwise_append.mpr ⟨h.ord.sublist dM,List.pairwise_singleton _ _,fun a ha b hb=>?_⟩
   rw[cG hb];refine kG (h.delKey a ha) fun d1 d2 d3=>?_;obtain⟨_,_,_,q,k4,_⟩:=h.key a d3;exact⟨by show a.lv<s.flow;lia,(List.getElem?_eq_some_iff.mp k4).1⟩
  ·rcases List.mem_append.mp hx with z|z
   ·exact⟨(h.delKey x z).1,.inl (h.delKey x z).2.2⟩
   ·rw[cG z];exact⟨Int.le_refl _,.inr ⟨rfl,rfl⟩⟩
theorem rY{p:Nat}(h:p<t.length):(t.drop p).take 1=[ch t p]:=by rw[eN h];rfl
theorem Mf{p:Nat}(h:p+1<t.length):(t.drop p).take 2=[ch t p,ch t (p+1)]:=by rw[eN (show p<t.length by exact bA ‹_›),eN h];rfl
theorem mQ{p:Nat}(h:p+1<t.length):cut t p (p+2)=[ch t p,ch t (p+1)]:=by rw[fW (by exact Nat.le_succ _) (by exact bA ‹_›),eZ h]
theorem Np{cl c:Nat}(hcl:(cl=434∧ch t s.p=42∧c=121)∨(cl=453∧ch t s.p=38∧c=120))(F:TF t):SQ t s (uu (n+2) mAn [.cls cl] [] (sc t s)):=by
 obtain⟨h1,h2⟩:ch t (s.p+1)=c∧ch t (s.p+2)=32:=by
  rcases hcl with ⟨_,q,rfl⟩|⟨_,q,rfl⟩
  ·exact F.star _ q
  ·exact F.amp _ q
 have hc:c=121∨c=120:=hcl.imp (·.2.2) (·.2.2);have l2:=F.lt (i:=s.p+2) (by rw[h2];decide);refine bE (DI 400 (uu (n+1)) (sc t s) (.cls cl)) rfl ?_;refine bV (bC (by exact zd ‹_›) ?_)
 have rest:∀nm:V,SQ t s (c0r (uu (n+1)) "forward" (sc t s) fun S=>c1 (uu (n+1)) "peek" (.int 0) S fun ch S=>LP 400 (uu (n+1)) mAn [] 6 400 anK (s0 (anL (.cls cl) (mk t s.p) (.str [Mine.Internal.ch t s.p]) nm (.int 0) ch) S) (nxt 400 (uu (n+1)) mAn [] 7 bB)):=by
  intro nm;refine eS (by lia) (fV (s:={s with p:=s.p+1}) (k:=0) (by show s.p+1+0<_;lia) ?_);dsimp only;rw[Nat.add_zero,h1];refine aN (Pf 400 (uu (n+1)) _ 399 _ _ _ _ _ _ _) ?_
  have n1:∀(S:Sc) (K:Bool→Sc→Res),lF (.str [c]) S K=K true S:=by rcases hc with rfl|rfl<;>exact fun S K=>rfl
  have n2:∀(S:Sc) (K:Bool→Sc→Res),lF (.str [32]) S K=K false S:=fun S K=>rfl;rw[n1];refine aZ rfl (fV (s:={s with p:=s.p+1}) (k:=1) (by show s.p+1+1<_;exact bA ‹_›) ?_);dsimp only;rw[show s.p+1+1=s.p+2 from rfl,h2];refine aN (Pf 400 (uu (n+1)) _ 398 _ _ _ _ _ _ _) ?_;rw[n2];refine aQ rfl ?_;rw[bO]
  have fin:SQ t s (Tf (uu (n+1)) cl (mk t s.p) nm (.str [32]) 1 (sc t {s with p:=s.p+1})):=by
   refine aQ rfl (dJ (s:={s with p:=s.p+1}) (k:=1) (by show s.p+1<_;lia) (jF (s:={s with p:=s.p+1}) (k:=1) (by show s.p+1+1<_;exact bA ‹_›) (by exact Nat.succ_pos _) (bC (s:={s with p:=s.p+1+1}) (by show s.p+2<_;exact bA ‹_›) ?_)));dsimp only;rw[rY (by lia),h1,show s.p+1+1=s.p+2 from rfl,h2];refine aH (a:=false) rfl (aQ rfl (bV (s:={s with p:=s.p+2}) ?_));refine⟨.nam cl [c] s.p (s.p+2),s.p+2,s.allow,rfl,rfl,rfl,by show s.p≤s.p+2;exact bY _ _,by exact Nat.le_succ _,by exact bA ‹_›,?_,fun q=>absurd (show (0:Nat)=2 from q) (by decide),gA.refl fun q=>absurd (show (0:Nat)=2 from q) (by decide),by show (0:Nat)≠1;decide,rfl,rfl⟩
   have hcut:cut t s.p (s.p+2)=[ch t s.p,c]:=by rw[mQ (by lia),h1]
   rcases hcl with ⟨e1,e2,_⟩|⟨e1,e2,_⟩
   ·exact .inl ⟨e1,by show cut t s.p (s.p+2)=_;rw[hcut,e2]⟩
   ·exact .inr ⟨e1,by show cut t s.p (s.p+2)=_;rw[hcut,e2]⟩
  rcases hcl with ⟨rfl,_⟩|⟨rfl,_⟩
  ·exact aN (Ty 400 (uu (n+1)) _ _ _ _ _ _) fin
  ·exact aN (Tw 400 (uu (n+1)) _ _ _ _ _ _) fin
 refine aH (a:=decide (ch t s.p=42)) (eW _ 42) (aT (fun _=>rest _) fun _=>rest _)
theorem FH{a:V}{c:Nat}{K:V→Sc→Res}(hc:c=116∨c=105)(F:TF t)(h1:ch t s.p=c)(h2:ch t (s.p+1)=32)(hk:(K (.str [c]) (sc t {s with p:=s.p+1})).sat Q E):((uu (n+2) mTu [vs "tag", a] [] (sc t s)).go K).sat Q E:=by
 have l2:=F.lt (i:=s.p+1) (by rw[h2];decide);refine bS (bE (CP 400 (uu (n+1)) (sc t s) (vs "tag") a) rfl ?_);refine fV (k:=0) (by exact zd ‹_›) ?_;rw[show ch t (s.p+0)=c from h1];refine aN (Pe 400 (uu (n+1)) _ 399 _ _ _ _ _) ?_
 have n1:∀(S:Sc) (K:Bool→Sc→Res),Ub (gS (vs "0") (.str [c]) (vs "9")) (gS (vs "A") (.str [c]) (vs "Z")) (gS (vs "a") (.str [c]) (vs "z")) (tC (aG .In (.str [c]) (vs "-;/?:@&=+$,_.!~*'()[]%"))) S K=K true S:=by rcases hc with rfl|rfl<;>exact fun S K=>rfl
 rw[n1];refine aZ rfl (aH (a:=decide (c=37)) (eW _ 37) (aQ (by rcases hc with rfl|rfl<;>rfl) ?_));refine fV (k:=1) (by exact bA ‹_›) ?_;rw[h2];refine aN (Pe 400 (uu (n+1)) _ 398 _ _ _ _ _) ?_;have n2:∀(S:Sc) (K:Bool→Sc→Res),Ub (gS (vs "0") (.str [32]) (vs "9")) (gS (vs "A") (.str [32]) (vs "Z")) (gS (vs "a") (.str [32]) (vs "z")) (tC (aG .In (.str [32]) (vs "-;/?:@&=+$,_.!~*'()[]%"))) S K=K false S:=fun S K=>rfl;rw[n2];refine aQ rfl ?_;rw[bO];refine aN (Zi 400 (uu (n+1)) _ _ _ _ _) (aZ rfl (dJ (k:=1) (by exact zd ‹_›) (jF (k:=1) (by exact bA ‹_›) (by exact Nat.succ_pos _) ?_)));rw[rY (by exact zd ‹_›),h1];exact hk
theorem FI(hc:ch t s.p=33)(F:TF t):SQ t s (uu (n+3) mTg [] [] (sc t s)):=by
 have lt:=F.lt (i:=s.p) (by rw[hc];decide);refine bE (CQ 400 (uu (n+2)) (sc t s)) rfl ?_;refine bV (fV (k:=1) (by assumption) ?_)
 have fin:∀(h:List Nat) (x q:Nat),(x=116∨x=105)→s.p<q→ch t q=x→ch t (q+1)=32→cut t s.p (q+1)=h++[x]→SQ t s (Md (uu (n+2)) (mk t s.p) (.str h) (sc t {s with p:=q})):=by
  intro h x q hx lt h1 h2 hcut;have l2:=F.lt (i:=q+1) (by rw[h2];decide);refine FH (n:=n) (s:={s with p:=q}) hx F h1 h2 (bC (s:={s with p:=q+1}) (by show q+1<_;exact bA ‹_›) ?_);dsimp only;rw[h2];refine aH (a:=false) rfl (aQ rfl (bV (s:={s with p:=q+1}) ?_));exact⟨.tag h [x] s.p (q+1),q+1,s.allow,rfl,rfl,rfl,by show s.p≤q+1;lia,by exact zj _ ‹_›,by exact bA ‹_›,hcut,fun q=>absurd (show (0:Nat)=2 from q) (by decide),gA.refl fun q=>absurd (show (0:Nat)=2 from q) (by decide),by show (0:Nat)≠1;decide,rfl,rfl⟩
 have one:∀x,(x=116∨x=105)→ch t (s.p+1)=x→ch t (s.p+2)=32→SQ t s (O1 (aG .Eq (.str [ch t (s.p+1)]) (vs "<")) fun b=>onB b (X 400 (uu (n+2)) mTg [(2,0)] 0 (s0 [("start_mark", mk t s.p),("ch", .str [ch t (s.p+1)])] (sc t s)) (nxt 400 (uu (n+2)) mTg [] 3 bB)) (O1 (aG .In (.str [ch t (s.p+1)]) zB) fun b=>onB b
   (X 400 (uu (n+2)) mTg [(2,1),(0,0)] 0 (s0 [("start_mark", mk t s.p),("ch", .str [ch t (s.p+1)])] (sc t s)) (nxt 400 (uu (n+2)) mTg [(2,1)] 1 (nxt 400 (uu (n+2)) mTg [] 3 bB)))
   (LP 400 (uu (n+2)) mTg [(2,1),(0,1)] 2 400 ["self", "start_mark", "ch", "length", "use_handle"] (s0 [("start_mark", mk t s.p),("ch", .str [ch t (s.p+1)]),("length", .int 1),("use_handle", .bool false)] (sc t s)) (nxt 400 (uu (n+2)) mTg [(2,1),(0,1)] 3 (nxt 400 (uu (n+2)) mTg [(2,1)] 1 (nxt 400 (uu (n+2)) mTg [] 3 bB)))))):=by
  intro x hx h1 h2;have l2:=F.lt (i:=s.p+2) (by rw[h2];decide);rw[h1];refine aH (a:=false) (by rcases hx with rfl|rfl<;>rfl) (aQ rfl (aH (a:=false) (by rcases hx with rfl|rfl<;>rfl) (aQ rfl ?_)));refine aN (Dv 400 (uu (n+2)) _ 399 _ _ _ _ _) ?_;refine aH (a:=true) (by rcases hx with rfl|rfl<;>rfl) (aZ rfl (aH (a:=false) (by rcases hx with rfl|rfl<;>rfl) (aQ rfl (fV (k:=2) (by exact bA ‹_›) ?_))));rw[h2];refine aN (Dv 400 (uu (n+2)) _ 398 _ _ _ _ _) (aH (a:=false) rfl (aQ rfl ?_));rw[bO];refine aN (Ts 400 (uu (n+2)) _ _ _ _) (eS (by assumption) ?_);exact fin [33] x (s.p+1) hx (by exact aK _) h1 h2 (by rw[mQ (by assumption),hc,h1];rfl)
 rcases F.bang _ hc with ⟨h1,h2⟩|⟨h1,h2⟩|⟨h1,h2,h3⟩
 ·exact one _ (.inl rfl) h1 h2
 ·exact one _ (.inr rfl) h1 h2
 ·have l3:=F.lt (i:=s.p+3) (by rw[h3];decide)
  rw[h1];refine aH (a:=false) rfl (aQ rfl (aH (a:=false) rfl (aQ rfl ?_)));refine aN (Dv 400 (uu (n+2)) _ 399 _ _ _ _ _) ?_;refine aH (a:=true) rfl (aZ rfl (aH (a:=true) rfl (aZ rfl ?_)));rw[bO];refine aN (Tr 400 (uu (n+2)) _ _ _ _) ?_;refine bS (bE (Wo 400 (uu (n+1)) (sc t s) (vs "tag") (mk t s.p)) rfl ?_);refine bC (by exact bA ‹_›) ?_;rw[hc];refine aH (a:=false) rfl (aQ rfl (fV (k:=1) (by assumption) ?_));rw[h1];refine aH (a:=true) rfl (aZ rfl ?_);refine aN (Vp 400 (uu (n+1)) _ 399 _ _ _ _ _) ?_;have n3:∀(S:Sc) (K:Bool→Sc→Res),lF (.str [33]) S K=K false S:=fun S K=>rfl;rw[n3];refine aQ rfl ?_;rw[bO];refine aN (Ly 400 (uu (n+1)) _ _ _ _ _) (aH (a:=false) rfl (aQ rfl ?_));refine aN (Lx 400 (uu (n+1)) _ _ _ _ _) (dJ (k:=2) (by exact bA ‹_›) (jF (k:=2) (by lia) (by exact Nat.le_add_left ..) ?_));rw[Mf (by assumption),hc,h1];exact fin [33,33] 105 (s.p+2) (.inr rfl) (by exact Nat.le_succ _) h2 h3 (by rw[fW (by lia) (by exact bA ‹_›),mQ (by lia),hc,h1,h2];rfl)
theorem Ea{c:Nat}(h:isE c=true):c=0∨isL c=true:=by
 rw[pX] at h
 rcases (Bool.or_eq_true _ _).mp h with q|q
 ·exact .inl (aI q)
 ·exact .inr q
theorem yE{c d:Nat}(h:isE c=true)(hd:isE d=false):decide (c=d)=false:=by
 cases q:decide (c=d) with
 | false=>rfl
 | true=>rw[aI q,hd] at h;exact bx h
theorem BQ{a:V}{K:V→Sc→Res}(F:TF t)(hp:s.p<t.length)(he:isE (ch t s.p)=true)(h1:isL (ch t s.p)=true→(K .none (sc t {s with p:=s.p+aV t s.p})).sat Q E)(h2:ch t s.p=0→(K .none (sc t s)).sat Q E):((uu (n+3) mDi [a] [] (sc t s)).go K).sat Q E:=by
 refine bS (bE (DE 400 (uu (n+2)) (sc t s) a) rfl (aN (BA 400 (uu (n+2)) _ 399 _ _) ?_));refine bC hp (aH (a:=decide (ch t s.p=32)) (eW _ 32) (aQ (yE he rfl) ?_));rw[bO];refine aN (Zl 400 (uu (n+2)) _ _) (bC hp (aH (a:=decide (ch t s.p=35)) (eW _ 35) (aQ (yE he rfl) ?_)));refine aN (Tu 400 (uu (n+2)) _ _) (bC hp (aH (a:=!isE (ch t s.p)) rfl (aQ (by rw[he];rfl) ?_)));refine gN F hp (fun e=>h1 e) fun e=>h2 ?_
 rcases Ea he with z|z
 ·exact z
 ·rw[z] at e;exact tz e
theorem HB{a:V}{K:V→Sc→Res}(F:TF t)(hp:s.p<t.length)(he:isE (ch t s.p)=true)(h1:isL (ch t s.p)=true→(K .none (sc t {s with p:=s.p+aV t s.p})).sat Q E)(h2:ch t s.p=0→(K .none (sc t s)).sat Q E):((uu (n+3) mBl [a] [] (sc t s)).go K).sat Q E:=by
 refine bS (bE (IC 400 (uu (n+2)) (sc t s) a) rfl (aN (GQ 400 (uu (n+2)) _ 399 _ _) ?_));refine bC hp (aH (a:=decide (ch t s.p=32)) (eW _ 32) (aQ (yE he rfl) ?_));rw[bO];refine aN (EN 400 (uu (n+2)) _ _) (bC hp (aH (a:=decide (ch t s.p=35)) (eW _ 35) (aQ (yE he rfl) ?_)));refine bC hp (aH (a:=!isE (ch t s.p)) rfl (aQ (by rw[he];rfl) ?_));refine gN F hp (fun e=>h1 e) fun e=>h2 ?_
 rcases Ea he with z|z
 ·exact z
 ·rw[z] at e;exact tz e
theorem Wf{a:V}{K:V→Sc→Res}(F:TF t)(h1:ch t s.p=68)(h2:ch t (s.p+1)=32)(hk:(K (.str [68]) (sc t {s with p:=s.p+1})).sat Q E):((uu (n+2) mDn [a] [] (sc t s)).go K).sat Q E:=by
 have l2:=F.lt (i:=s.p+1) (by rw[h2];decide);refine bS (bE (Ww 400 (uu (n+1)) (sc t s) a) rfl ?_);refine fV (k:=0) (by exact zd ‹_›) ?_;rw[show ch t (s.p+0)=68 from h1];refine aN (Gi 400 (uu (n+1)) _ 399 _ _ _ _) ?_;have n1:∀(S:Sc) (K:Bool→Sc→Res),lF (.str [68]) S K=K true S:=fun S K=>rfl;have n2:∀(S:Sc) (K:Bool→Sc→Res),lF (.str [32]) S K=K false S:=fun S K=>rfl;rw[n1];refine aZ rfl (fV (k:=1) (by exact bA ‹_›) ?_);rw[h2];refine aN (Gi 400 (uu (n+1)) _ 398 _ _ _ _) ?_;rw[n2];refine aQ rfl ?_;rw[bO];refine aN (Tt 400 (uu (n+1)) _ _ _ _) (aQ rfl (dJ (k:=1) (by exact zd ‹_›) (jF (k:=1) (by exact bA ‹_›) (by exact Nat.succ_pos _) (bC (s:={s with p:=s.p+1}) (by show s.p+1<_;exact bA ‹_›) ?_))));dsimp only;rw[rY (by exact zd ‹_›),h1,h2];exact aH (a:=false) rfl (aQ rfl hk)
theorem Jl{a x y e:V}{K:Fl→St→Res}(F:TF t)(hp:s.p<t.length)(hk:∀q,s.p≤q→q<t.length→(∀i,s.p≤i→i<q→isE (ch t i)=false)→isE (ch t q)=true→(K .next (s0 [("start_mark", a),("name", x),("value", y),("end_mark", e)] (sc t {s with p:=q}))).sat Q E) :
  (LP 400 (uu (n+3)) mD [(4,1),(0,1)] 1 400 ["self", "start_mark", "name", "value", "end_mark"] (s0 [("start_mark", a),("name", x),("value", y),("end_mark", e)] (sc t s)) K).sat Q E:=by
 have len:=F.len;have hs:=lZ (t:=t) (Q:=Q) (E:=E) (L:=fun m S=>LP 400 (uu (n+3)) mD [(4,1),(0,1)] 1 m ["self", "start_mark", "name", "value", "end_mark"] (s0 [("start_mark", a),("name", x),("value", y),("end_mark", e)] S) K) (K:=fun S=>K .next (s0 [("start_mark", a),("name", x),("value", y),("end_mark", e)] S)) (g:=fun v=>aG .NotIn v zE) (test:=fun c=>!isE c) (n+2) F (fun m S=>AY 400 (uu (n+3)) S m a x y e K);exact hs (fun c=>rfl) rfl 400 s hp (by exact d4 ‹_›) fun q h1 h2 h3 h4=>hk q h1 h2 (fun i i1 i2=>cO (h3 i i1 i2)) (dE h4)
theorem FK(hc:ch t s.p=37)(F:TF t):SQ t s (uu (n+4) mD [] [] (sc t s)):=by
 refine kG (F.pct _ hc) fun h1 h2 _=>?_;have l2:=F.lt (i:=s.p+2) (by rw[h2];decide);refine bE (CU 400 (uu (n+3)) (sc t s)) rfl ?_;refine bV (eS (by lia) (Wf (n:=n+1) (s:={s with p:=s.p+1}) F h1 h2 ?_));refine aH (a:=false) rfl (aQ rfl (aH (a:=false) rfl (aQ rfl (bV (s:={s with p:=s.p+2}) ?_))));refine Jl (s:={s with p:=s.p+2}) F (by show s.p+2<_;exact bA ‹_›) fun q k1 k2 k3 k4=>?_;have k1:s.p+2≤q:=k1;dsimp only at k3;rw[bO,Zg,bO,Zj]
 have inn:∀c∈cut t (s.p+2) q,isL c=false:=fun c hc=>by
  refine Ca (fT hc) fun i i1 i2 _ e4=>?_;subst e4;have:=k3 i i1 i2;rw[pX] at this;exact (Bool.or_eq_false_iff.mp this).2
 have fin:∀p',q≤p'→p'<t.length→(∃r,fJ true (cut t q p')=some r)→TS t s.flow s.p (.dir s.p (s.p+2)) p':=by
  intro p' h3 h4 ⟨r,h5⟩;refine⟨rfl,by show s.p≤s.p+2;exact bY _ _,by exact aJ (bA ‹_›) ‹_›,h4,?_,fun q=>absurd (show (3:Nat)=2 from q) (by decide),⟨by show s.p+2≤p';exact aJ ‹_› ‹_›,fun q=>absurd (show (3:Nat)=2 from q) (by decide),r,?_⟩,by show (3:Nat)≠1;decide,rfl,rfl⟩
  ·show cut t s.p (s.p+2)=_
   rw[mQ (by exact Nat.lt_trans ‹_› ‹_›),hc,h1]
  ·show fJ true (cut t (s.p+2) p')=some r
   rw[cC k1 h3,qF,Hj inn];exact h5
 refine BQ (n:=n) (s:={s with p:=q}) F k2 k4 (fun e=>?_) fun e=>?_
 ·refine⟨.dir s.p (s.p+2),q+aV t q,s.allow,rfl,rfl,fin _ (bY _ _) (cT F e) (mS F e true)⟩
 ·exact⟨.dir s.p (s.p+2),q,s.allow,rfl,rfl,fin _ (aK _) k2 ⟨true,by rw[cY];rfl⟩⟩
theorem HI(F:TF t)(h:J t g s 0)(hd:s.done=false)(hc:ch t s.p=37):FQ t g s (uu (n+5) "fetch_directive" [] [] (sc t s)):=by
 refine bE (IA 400 (uu (n+4)) (sc t s)) rfl ?_;refine oM (n:=n+2) (c:=0) F (by decide) (by exact Nat.zero_le _) h hd fun s1 h1 e1 hf=>?_
 have ep:s1.p=s.p:=by rw[e1]
 refine iH (n:=n+2) ?_ fun e q=>⟨s1.p,q,Nat.le_of_eq ep.symm,h1.plt⟩;refine FQ.ext' (mA (t:=t) (s:=s1) (r:=fun S=>uu (n+4) mD [] [] S) (ks:=dY s1.flow s1.ks) (a:=false) F h1 (by rw[e1];exact hd) (by rw[ep,hc];decide) (h1.ord.sublist dM) (fun x hx=>⟨(h1.delKey x hx).1,.inl (h1.delKey x hx).2.2⟩) fun s2 e2 e3=>FK (by rw[e2,ep];exact hc) F) ep
theorem Qx{m:Str}(hm:(m = "fetch_alias" ∧ ch t s.p=42)∨(m = "fetch_anchor" ∧ ch t s.p=38))(F:TF t)(h:J t g s 0)(hd:s.done=false)(hk:s.ks.length≤9000):FQ t g s (uu (n+4) m [] [] (sc t s)):=by
 rcases hm with ⟨rfl,hc⟩|⟨rfl,hc⟩
 ·refine bE (Xg 400 (uu (n+3)) (sc t s)) rfl (mL (r:=fun S=>uu (n+3) mAn [.cls 434] [] S) F h hd hk (by rw[hc];decide) fun s1 e1 _=>Np (n:=n+1) (.inl ⟨rfl,by rw[e1];exact hc,rfl⟩) F)
 ·refine bE (Rp 400 (uu (n+3)) (sc t s)) rfl (mL (r:=fun S=>uu (n+3) mAn [.cls 453] [] S) F h hd hk (by rw[hc];decide) fun s1 e1 _=>Np (n:=n+1) (.inr ⟨rfl,by rw[e1];exact hc,rfl⟩) F)
theorem HF(F:TF t)(h:J t g s 0)(hd:s.done=false)(hk:s.ks.length≤9000)(hc:ch t s.p=33):FQ t g s (uu (n+4) "fetch_tag" [] [] (sc t s)):=
 bE (HN 400 (uu (n+3)) (sc t s)) rfl (mL (r:=fun S=>uu (n+3) mTg [] [] S) F h hd hk (by rw[hc];decide) fun s1 e1 _=>FI (n:=n) (by rw[e1];exact hc) F)
end
noncomputable def Stp(q:Nat)(w out bl en out' bl' en':List Nat):Prop:=∀r m,(w++r).length≤m→∃m',r.length≤m'∧dK q m (w++r) out bl en=dK q m' r out' bl' en'
theorem Stp.nil{q:Nat}{out bl en:List Nat}:Stp q [] out bl en out bl en:=fun r m h=>⟨m,h,rfl⟩
theorem Stp.trans{q:Nat}{w1 w2 o1 b1 e1 o2 b2 e2 o3 b3 e3:List Nat}(h1:Stp q w1 o1 b1 e1 o2 b2 e2)(h2:Stp q w2 o2 b2 e2 o3 b3 e3):Stp q (w1++w2) o1 b1 e1 o3 b3 e3:=fun r m h=>by
 rw[fY] at h ⊢;refine aB (h1 (w2++r) m h) fun m1 l1 q1=>?_;refine aB (h2 r m1 l1) fun m2 l2 q2=>?_;exact⟨m2,l2,q1.trans q2⟩
theorem wB(q m:Nat)(out bl en:List Nat):dK q m [] out bl en=out++gJ bl en:=by cases m<;>rfl
theorem Stp.done{q:Nat}{w out bl en:List Nat}(h:Stp q w [] [] [] out bl en):Bu q w=out++gJ bl en:=by
 refine aB (h [] w.length (by rw[cA];exact aK _)) fun m' _ e=>?_;rw[cA,wB] at e;exact e
noncomputable def isW(c:Nat):Bool:=!decide (c=32) && !isL c
theorem vV{c:Nat}(h:isW c=true):c≠32∧decide (c=13)=false∧decide (c∈([13,10,133]:List Nat))=false∧decide (c∈([8232,8233]:List Nat))=false:=by
 refine aE (aA h) fun h1 h2=>?_;have h2:=cO h2;rw[pW] at h2;refine aE (Bool.or_eq_false_iff.mp h2) fun h3 h4=>?_;refine⟨cK (cO h1),?_,h3,h4⟩
 cases q:decide (c=13) with
 | false=>rfl
 | true=>rw[aI q] at h3;exact tz h3
theorem jR(q m c:Nat)(r out bl en:List Nat):dK q (m+1) (c::r) out bl en=match decide (c=13)&&decide (r.head? = some 10) with
  | true=>dK q m r out bl en
  | false=>match decide (c∈([13,10,133]:List Nat)) with
   | true=>dK q m r out bl (en++[10])
   | false=>match decide (c∈([8232,8233]:List Nat)) with
    | true=>dK q m r out bl (en++[c])
    | false=>match decide (c=32) with
     | true=>dK q m r out (bl++[c]) en
     | false=>match decide (c=q) with
      | true=>dK q m r.tail (out++(gJ bl en++[c])) [] []
      | false=>dK q m r (out++(gJ bl en++[c])) [] []:=rfl
theorem sA{q c:Nat}{out bl en:List Nat}(h:isW c=true)(hq:c≠q):Stp q [c] out bl en (out++(gJ bl en++[c])) [] []:=fun r m hm=>by
 refine oQ (vV h) fun h1 h2 h3 h4=>?_;obtain⟨m,rfl⟩:∃k,m=k+1:=⟨m-1,by have:r.length+1≤m:=hm;exact pm (by lia)⟩;refine⟨m,Nat.le_of_succ_le_succ hm,?_⟩;show dK q (m+1) (c::r) out bl en=_;rw[jR,h2,h3,h4,cE h1,cE hq];rfl
theorem Hz{q x:Nat}{out bl en:List Nat}(h:isW q=true):Stp q [q,x] out bl en (out++(gJ bl en++[q])) [] []:=fun r m hm=>by
 refine oQ (vV h) fun h1 h2 h3 h4=>?_;have hm:r.length+1+1≤m:=hm;obtain⟨m,rfl⟩:∃k,m=k+1:=⟨m-1,by exact pm (by lia)⟩;refine⟨m,by lia,?_⟩;show dK q (m+1) (q::x::r) out bl en=_;rw[jR,h2,h3,h4,cE h1,bN rfl];rfl
theorem Zs{q:Nat}{out bl en:List Nat}:Stp q [32] out bl en out (bl++[32]) en:=fun r m hm=>by
 have hm:r.length+1≤m:=hm;obtain⟨m,rfl⟩:∃k,m=k+1:=⟨m-1,by exact pm (by lia)⟩;exact⟨m,Nat.le_of_succ_le_succ hm,rfl⟩
theorem Ff{t:List Nat}{p q:Nat}{out bl en:List Nat}(F:TF t)(h:isL (ch t p)=true):Stp q (cut t p (p+aV t p)) out bl en out bl (en++[lbv (ch t p)]):=fun r m hm=>by
 rw[yP F h] at hm ⊢
 by_cases z:ch t p=13
 ·have e:aV t p=2:=by unfold aV;rw[z,F.cr p z];rfl
  rw[if_pos e] at hm ⊢;have hm:r.length+1+1≤m:=hm;obtain⟨m,rfl⟩:∃k,m=k+1+1:=⟨m-2,(Nat.sub_add_cancel (aJ (Nat.le_add_left 2 _) hm)).symm⟩;refine⟨m,by lia,?_⟩;rw[z];rfl
 ·have e:aV t p=1:=by unfold aV;rw[cE z];rfl
  rw[if_neg (by rw[e];decide)] at hm ⊢;have hm:r.length+1≤m:=hm;obtain⟨m,rfl⟩:∃k,m=k+1:=⟨m-1,by exact pm (by lia)⟩;refine⟨m,by exact Nat.le_of_lt_succ ‹_›,?_⟩;show dK q (m+1) (ch t p::r) out bl en=_;rw[jR,cE z];unfold lbv;rw[pW] at h
  cases h1:decide (ch t p∈([13,10,133]:List Nat)) with
  | true=>rfl
  | false=>
   rw[h1] at h;have h:decide (ch t p∈([8232,8233]:List Nat))=true:=h;rw[h];rfl
noncomputable def Wd1(q:Nat)(w v:List Nat):Prop:=(w=[]∧v=[])∨(w≠[]∧∀out bl en,Stp q w out bl en (out++(gJ bl en++v)) [] [])
theorem Wd1.nil{q:Nat}:Wd1 q [] []:=.inl ⟨rfl,rfl⟩
theorem Wd1.app{q:Nat}{w1 w2 v1 v2:List Nat}(h1:Wd1 q w1 v1)(h2:Wd1 q w2 v2):Wd1 q (w1++w2) (v1++v2):=by
 rcases h1 with ⟨rfl,rfl⟩|⟨n1,h1⟩
 ·exact h2
 ·rcases h2 with ⟨rfl,rfl⟩|⟨_,h2⟩
  ·rw[cA,cA];exact .inr ⟨n1,h1⟩
  ·refine .inr ⟨fun q=>n1 (List.append_eq_nil_iff.mp q).1,fun out bl en=>?_⟩
   have:=(h1 out bl en).trans (h2 _ [] [])
   rwa [show out++(gJ bl en++v1)++(gJ [] []++v2)=out++(gJ bl en++(v1++v2)) by show _++([]++v2)=_;simp only[List.nil_append,fY]] at this
theorem Wd1.chars{q:Nat}:∀{w:List Nat},(∀c∈w,isW c=true∧c≠q)→Wd1 q w w:=by
 intro w
 induction w with
 | nil=>intro _;exact .nil
 | cons c w ih=>
  intro h;have h1:Wd1 q [c] [c]:=.inr ⟨fun z=>(by cases z),fun out bl en=>sA (h c (.head _)).1 (h c (.head _)).2⟩;exact h1.app (ih fun d hd=>h d (.tail _ hd))
theorem rH{q:Nat}{out en:List Nat}:∀{w bl:List Nat},(∀c∈w,c=32)→Stp q w out bl en out (bl++w) en:=by
 intro w
 induction w with
 | nil=>intro bl _;rw[cA];exact .nil
 | cons c w ih=>
  intro bl h
  have h1:Stp q [c] out bl en out (bl++[c]) en:=by rw[h c (.head _)];exact Zs
  have:=h1.trans (ih (bl:=bl++[c]) fun d hd=>h d (.tail _ hd))
  rwa [fY] at this
theorem Pj:∀cs:List (List Nat),vR (cs.map .str)=some cs.flatten:=by
 intro cs
 induction cs with
 | nil=>rfl
 | cons c cs ih=>
  show ((vR (cs.map .str)).map fun b=>c++b)=_;rw[ih];rfl
theorem mJ{cs:List (List Nat)}(h:cs.flatten.length≤90000):jY (.lst (cs.map .str))=some (.str cs.flatten):=by
 show (vR (cs.map .str)).bind _=_;rw[Pj];show cV (Nat.ble cs.flatten.length gH) _=_;rw[fX (show cs.flatten.length≤100000 by exact aJ ‹_› (by decide))];rfl
section
variable{t:List Nat}{n:Nat}{Q:V→Sc→Prop}{E:V→Prop}{s:SS}
theorem tY{cs:List (List Nat)}{v:List Nat}{K:List V→Res}(h:cs.length≤9000)(hk:(K ((cs++[v]).map .str)).sat Q E):(Ex (cs.map .str) (.str v) K).sat Q E:=by
 have e:cs.map V.str++[.str v]=(cs++[v]).map .str:=by rw[List.map_append];rfl
 refine aZ ?_ ?_
 ·rw[e,List.length_map,aU]
  refine fX ?_;show _+1≤10000;lia
 ·rw[e];exact hk
theorem mY{cs ds:List (List Nat)}{K:List V→Res}(h:cs.length+ds.length≤9000)(hk:(K ((cs++ds).map .str)).sat Q E):(Ef (cs.map .str) (.lst (ds.map .str)) K).sat Q E:=by
 have e:cs.map V.str++ds.map .str=(cs++ds).map .str:=by rw[List.map_append]
 refine aH (a:=ds.map .str) rfl (aZ ?_ ?_)
 ·rw[e,List.length_map,aU]
  refine fX ?_;show _≤10000;exact aJ ‹_› (by decide)
 ·rw[e];exact hk
theorem iZ{p k:Nat}:(t.drop p).take k=cut t p (p+k):=by unfold cut;rw[Nat.add_sub_cancel_left]
end
noncomputable def isQ(c:Nat):Bool:=decide (c∈([39,34,92,0,32,9,13,10,133,8232,8233]:List Nat))
noncomputable def yC(c:Nat):Bool:=decide (c∈([32,9]:List Nat))
noncomputable def Qt(d:Bool)(q:Nat):Prop:=(d=true∧q=34)∨(d=false∧q=39)
theorem Kq{c:Nat}(h:isQ c=false):isW c=true∧c≠34∧c≠39∧c≠0:=by
 have h:=cK h;simp only[List.mem_cons,List.not_mem_nil,or_false,not_or] at h;refine⟨?_,h.2.1,h.1,h.2.2.2.1⟩;unfold isW isL;rw[cE h.2.2.2.2.1,cE]
 ·rfl
 ·simp only[List.mem_cons,List.not_mem_nil,or_false,not_or];exact h.2.2.2.2.2.2
section
variable{t:List Nat}{n:Nat}{Q:V→Sc→Prop}{E:V→Prop}
structure Rd(t:List Nat)(p p':Nat)(cs:List (List Nat)):Prop where
 le:p≤p'
 lt:p'<t.length
 n1:cs.length≤p'-p
 n2:cs.flatten.length≤p'-p
theorem Rd.app{p p1 p2:Nat}{cs ds:List (List Nat)}(h1:Rd t p p1 cs)(h2:Rd t p1 p2 ds):Rd t p p2 (cs++ds):=by
 have a1:=h1.le;have a2:=h2.le;have b1:=h1.n1;have b2:=h2.n1;have c1:=h1.n2;have c2:=h2.n2;exact⟨by exact aJ ‹_› ‹_›,h2.lt,by rw[aU];exact sd ‹_› ‹_› (by assumption) (by assumption),by rw[dX,aU];exact sd ‹_› ‹_› (by assumption) (by assumption)⟩
theorem Rd.more{p p1 p2:Nat}{cs:List (List Nat)}(h1:Rd t p p1 cs)(h2:p1≤p2)(h3:p2<t.length):Rd t p p2 cs:=by
 have a1:=h1.le;have b1:=h1.n1;have c1:=h1.n2;exact⟨by exact aJ ‹_› ‹_›,h3,by exact sm ‹_› ‹_›,by exact sm ‹_› ‹_›⟩
theorem Rd.one{p p':Nat}(h:p<p')(lt:p'<t.length){c:List Nat}(hc:c.length≤p'-p):Rd t p p' [c]:=⟨by exact bA ‹_›,lt,by show 1≤_;exact Nat.sub_pos_of_lt ‹_›,by rw[iT,List.flatten_nil,cA];exact hc⟩
theorem Rd.small{p p':Nat}{cs:List (List Nat)}(F:TF t)(h:Rd t p p' cs):cs.length≤200∧cs.flatten.length≤200:=by
 have:=F.len;have:=h.lt;have:=h.n1;have:=h.n2;exact⟨zr ‹_› ‹_› ‹_›,zr ‹_› ‹_› ‹_›⟩
theorem DS{d:Bool}{a:V}{l:List V}{s:SS}{K:Fl→St→Res}(F:TF t)(hp:s.p<t.length)(hk:∀j,s.p+j<t.length→(∀i,s.p≤i→i<s.p+j→isQ (ch t i)=false)→isQ (ch t (s.p+j))=true→(K .next (sl (qA d a l (j:Int)) (sc t s))).sat Q E) :
  (LP 400 (uu (n+1)) mFn [(1,0)] 1 400 uW (sl (qA d a l 0) (sc t s)) K).sat Q E:=by
 have len:=F.len;have hs:=jT (t:=t) (Q:=Q) (E:=E) (s:=s) (L:=fun m k S=>LP 400 (uu (n+1)) mFn [(1,0)] 1 m uW (sl (qA d a l k) S) K) (K:=fun k S=>K .next (sl (qA d a l k) S)) (g:=fun v=>aG .NotIn v (vs "'\"\\\x00 \t\r\n\u0085\u2028\u2029")) (test:=fun c=>!isQ c) n F (fun m k S=>GN 400 (uu (n+1)) S m d a l k K);exact hs (fun c=>rfl) rfl 400 0 hp (by exact d4 ‹_›) fun j h1 h2 h3 h4=>hk j h2 (fun i i1 i2=>cO (h3 i i1 i2)) (dE h4)
noncomputable def Hl(t:List Nat)(q p:Nat):Prop:=isB (ch t p)=true∨ch t p=q
theorem Vk{d:Bool}{q:Nat}{a:V}{K:Fl→St→Res}(hq:Qt d q)(F:TF t):∀(m:Nat) (p0:Nat) (cs:List (List Nat)) (s:SS),Rd t p0 s.p cs→Wd1 q (cut t p0 s.p) cs.flatten→t.length-s.p<m→
  (∀cs p' l,Rd t p0 p' cs→s.p≤p'→Wd1 q (cut t p0 p') cs.flatten→Hl t q p'→(K (.ret (.lst (cs.map .str))) (sl l (sc t {s with p:=p'}))).sat Q E)→(LP 400 (uu (n+1)) mFn [] 1 m fnK (sl (fnL d a (cs.map .str)) (sc t s)) K).sat Q E:=by
 intro m
 induction m with
 | zero=>intro p0 cs s h1 _ h;exact absurd ‹_› (Nat.not_lt_zero _)
 | succ m ih=>
  intro p0 cs s hr hw hm hk;have sm:=hr.small F;have len:=F.len;refine aN (l_fn 400 (uu (n+1)) (sc t s) m d a _ K) ?_;refine DS F hr.lt fun j j1 j2 j3=>?_;rw[bO]
  have mid:∀(k:Int) (cs':List (List Nat)) (p1:Nat),s.p≤p1→Rd t p0 p1 cs'→Wd1 q (cut t p0 p1) cs'.flatten→isQ (ch t p1)=true→(X 400 (uu (n+1)) mFn [(1,0)] 3 (sl (qA d a (cs'.map .str) k) (sc t {s with p:=p1})) (aft 400 (uu (n+1)) mFn [] 1 m fnK K)).sat Q E:=by
   intro k cs' p1 lp hr' hw' hq1;have sm':=hr'.small F;refine aN (EJ 400 (uu (n+1)) _ d a _ k _) (bC (s:={s with p:=p1}) hr'.lt ?_);dsimp only
   have again:∀(v:List Nat) (j:Nat),1≤j→p1+j<t.length→v.length≤j→Wd1 q (cut t p1 (p1+j)) v→∀ch,(aft 400 (uu (n+1)) mFn [] 1 m fnK K .next (sl (Qu d a ((cs'++[v]).map .str) k ch) (sc t {s with p:=p1+j}))).sat Q E:=by
    intro v j g1 g2 g3 g4 ch
    have:aft 400 (uu (n+1)) mFn [] 1 m fnK K .next (sl (Qu d a ((cs'++[v]).map .str) k ch) (sc t {s with p:=p1+j}))=LP 400 (uu (n+1)) mFn [] 1 m fnK (sl (fnL d a ((cs'++[v]).map .str)) (sc t {s with p:=p1+j})) K:=by kernel_rfl
    rw[this];have r2:Rd t p0 (p1+j) (cs'++[v]):=hr'.app (.one (by lia) g2 (by lia));refine ih p0 (cs'++[v]) {s with p:=p1+j} r2 ?_ (by show t.length-(p1+j)<m;exact dc ‹_› (by lia) (by exact zd ‹_›)) fun cs p' l h1 h2 h3 h4=>hk cs p' l h1 (by have h2:p1+j≤p':=h2;lia) h3 h4;show Wd1 q (cut t p0 (p1+j)) _;rw[cC hr'.le (bY p1 j),dX,iT,List.flatten_nil,cA];exact hw'.app g4
   have fin:Hl t q p1→(aft 400 (uu (n+1)) mFn [] 1 m fnK K (.ret (.lst (cs'.map .str))) (sl (BU d a (cs'.map .str) k (.str [ch t p1])) (sc t {s with p:=p1}))).sat Q E:=fun st=>by
    have:aft 400 (uu (n+1)) mFn [] 1 m fnK K (.ret (.lst (cs'.map .str))) (sl (BU d a (cs'.map .str) k (.str [ch t p1])) (sc t {s with p:=p1}))=K (.ret (.lst (cs'.map .str))) (sl [("double", .val (.bool d)),("start_mark", .val a),("chunks", .val (.lst (cs'.map .str)))] (sc t {s with p:=p1})):=by kernel_rfl
    rw[this];exact hk cs' p1 _ hr' lp hw' st
   have hq0:isW q=true:=by rcases hq with ⟨_,rfl⟩|⟨_,rfl⟩<;>rfl
   have in_:=aI hq1;simp only[List.mem_cons,List.not_mem_nil,or_false] at in_;have n92:ch t p1≠92:=fun z=>F.notabs z (by decide);unfold tIf;rw[Mg];refine aT (fun hd=>aH (a:=decide (ch t p1=39)) (eW _ 39) (aT (fun h39=>?_) fun h39=>?_)) fun hd=>?_
   ·-- a single quote,perhaps twice
    have h39:=aI h39;have hd:=cO hd
    have q39:q=39:=by rcases hq with ⟨z,_⟩|⟨_,z⟩<;>first|exact z|(rw[hd] at z;exact bx z)
    have l1:=F.lt (i:=p1) (by rw[h39];decide);refine fV (s:={s with p:=p1}) (k:=1) l1 ?_;dsimp only;refine aH (a:=decide (ch t (p1+1)=39)) (eW _ 39) (aT (fun h2=>?_) fun h2=>?_)
    ·have h2:=aI h2
     have l2:=F.lt (i:=p1+1) (by rw[h2];decide);refine tY (v:=[39]) (by lia) (jF (s:={s with p:=p1}) (k:=2) l2 (by exact Nat.le_add_left ..) ?_);refine again [39] 2 (by exact Nat.succ_pos _) l2 (by decide) ?_ _;rw[mQ l1,h39,h2,q39];exact .inr ⟨(by decide),fun out bl en=>Hz (by rfl)⟩
    ·rw[pC,cJ]
     refine aQ hd (aQ rfl ?_);rw[cJ];refine (aZ (by rw[hd];rfl) (aH (a:=decide (ch t p1∈([34,92]:List Nat))) rfl (aQ (by rw[h39];rfl) ?_)));rw[cJ];exact aQ hd (aQ rfl (fin (.inr (by rw[h39,q39]))))
   ·have h39:=cK h39
    have hd:=cO hd
    have q39:q=39:=by rcases hq with ⟨z,_⟩|⟨_,z⟩<;>first|exact z|(rw[hd] at z;exact bx z)
    rw[bI];dsimp only;rw[pC,cJ];refine aQ hd (aQ rfl ?_);rw[cJ];refine (aZ (by rw[hd];rfl) (aH (a:=decide (ch t p1∈([34,92]:List Nat))) rfl (aT (fun h3=>?_) fun h3=>?_)))
    ·have h3:=aI h3
     simp only[List.mem_cons,List.not_mem_nil,or_false] at h3;have h34:ch t p1=34:=h3.resolve_right n92;have l1:=F.lt (i:=p1) (by rw[h34];decide);refine tY (by lia) (eS (s:={s with p:=p1}) l1 ?_);refine again [ch t p1] 1 (aK _) l1 (aK _) ?_ _;rw[eZ hr'.lt,h34,q39];exact .inr ⟨(by decide),fun out bl en=>sA (by rfl) (by decide)⟩
    ·have h3:=cK h3
     simp only[List.mem_cons,List.not_mem_nil,or_false,not_or] at h3;rw[cJ];refine aQ hd (aQ rfl (fin (.inl ?_)));refine bN ?_;simp only[List.mem_cons,List.not_mem_nil,or_false];exact zi ‹_› (cK ‹_›) h3.1 h3.2
   ·have hd:=dE hd
    have q34:q=34:=by rcases hq with ⟨_,z⟩|⟨z,_⟩<;>first|exact z|(rw[hd] at z;exact tz z)
    rw[bI];dsimp only;rw[pC,cJ];refine aZ hd (aH (a:=decide (ch t p1=39)) (eW _ 39) (aT (fun h3=>?_) fun h3=>?_))
    ·have h3:=aI h3
     have l1:=F.lt (i:=p1) (by rw[h3];decide);refine aZ rfl (tY (by lia) (eS (s:={s with p:=p1}) l1 ?_));refine again [ch t p1] 1 (aK _) l1 (aK _) ?_ _;rw[eZ hr'.lt,h3,q34];exact .inr ⟨(by decide),fun out bl en=>sA (by rfl) (by decide)⟩
    ·have h3:=cK h3
     rw[cJ];refine aQ (by rw[hd];rfl) (aQ rfl ?_);rw[cJ];refine aZ hd (aH (a:=decide (ch t p1=92)) (eW _ 92) (aQ (cE n92) (fin ?_)))
     by_cases h34:ch t p1=34
     ·exact .inr (by rw[h34,q34])
     ·refine .inl (bN ?_)
      simp only[List.mem_cons,List.not_mem_nil,or_false];exact zi ‹_› (cK ‹_›) h34 n92
  refine aN (EK 400 (uu (n+1)) _ d a _ _ _) (aT (fun e=>?_) fun e=>?_)
  ·have e:=cK (cO e)
   have j0:j≠0:=fun z=>e (by rw[z];rfl);have r2:Rd t p0 (s.p+j) (cs++[cut t s.p (s.p+j)]):=hr.app (.one (by lia) j1 (by rw[iP (by exact bA ‹_›)];exact aK _));refine dJ hr.lt ?_;rw[iZ];refine tY (by lia) (jF j1 (by lia) ?_);refine mid _ _ _ (bY _ _) r2 ?_ j3;rw[cC hr.le (bY s.p j),dX,iT,List.flatten_nil,cA];refine hw.app (Wd1.chars fun c hc=>?_);refine Ca (fT hc) fun i i1 i2 _ e4=>?_;subst e4;refine oQ (Kq (j2 i i1 i2)) fun f1 f2 f3 _=>?_;exact⟨f1,by rcases hq with ⟨_,rfl⟩|⟨_,rfl⟩<;>assumption⟩
  ·have e:=aI (dE e)
   have j0:j=0:=by exact Nat.le_antisymm (by lia) (by exact Nat.zero_le _)
   rw[j0] at j3;exact mid _ cs s.p (aK _) hr hw j3
theorem GZ{d:Bool}{q:Nat}{a:V}{s:SS}{K:V→Sc→Res}(hq:Qt d q)(F:TF t)(hp:s.p<t.length)(hk:∀cs p',Rd t s.p p' cs→Wd1 q (cut t s.p p') cs.flatten→Hl t q p'→(K (.lst (cs.map .str)) (sc t {s with p:=p'})).sat Q E) :
  ((uu (n+2) mFn [.bool d,a] [] (sc t s)).go K).sat Q E:=by
 have len:=F.len;refine bS (bE (e_fn 400 (uu (n+1)) (sc t s) d a) rfl ?_);refine Vk (cs:=[]) (p0:=s.p) hq F 400 s ⟨aK _,hp,Nat.zero_le _,Nat.zero_le _⟩ (by rw[cY];exact .nil) (by exact d4 ‹_›) fun cs p' l h1 _ h2 h3=>?_
 have:nxt 400 (uu (n+1)) mFn [] 2 bB (.ret (.lst (cs.map .str))) (sl l (sc t {s with p:=p'})) = .ok (.lst (cs.map .str)) (sc t {s with p:=p'}):=by kernel_rfl
 rw[this];exact hk cs p' h1 h2 h3
theorem Xz{p:Nat}{a b c:Nat}(F:TF t)(h:(t.drop p).take 3=[a,b,c])(hc:c≠0)(hp:p<t.length):p+3<t.length∧cut t p (p+3)=[a,b,c]:=by
 rw[iZ] at h;refine⟨?_,h⟩
 have l:(cut t p (p+3)).length=3:=by rw[h];rfl
 have l3:p+2<t.length:=by
  rcases Nat.lt_or_ge (p+2) t.length with z|z
  ·exact z
  ·exfalso
   unfold cut at l;rw[List.length_take,List.length_drop] at l;have q:=Nat.min_le_right (p+3-p) (t.length-p);rw[l] at q;exact absurd (Nat.add_lt_of_lt_sub' (show 2<_ from q)) (Nat.not_lt_of_le z)
 have e:ch t (p+2)=c:=by
  rw[fW (by lia) (by assumption),mQ (by assumption)] at h;exact (List.cons.inj (List.cons.inj (List.cons.inj h).2).2).1
 exact F.lt (i:=p+2) (by rw[e];exact hc)
theorem Qp{s:SS}{X Y:Sc→Res}(F:TF t)(hp:s.p<t.length)(hx:(X (sc t s)).sat Q E)(hy:(Y (sc t s)).sat Q E):(tIf (Bj (uu (n+1)) (.str ((t.drop s.p).take 3))) (sc t s) X Y).sat Q E:=by
 unfold tIf Bj;rw[cJ,pC]
 have w:∀a,a≠0→(t.drop s.p).take 3=[a,a,a]→(pk (uu (n+1)) 3 (fun v=>aG .In v zB) (sc t s) fun b S=>onB b (X S) (Y S)).sat Q E:=fun a ha h=>by
  obtain⟨l,_⟩:=Xz F h ha hp;refine fV (k:=3) l (aH (a:=isB (ch t (s.p+3))) rfl (aT (fun _=>hx) fun _=>hy))
 refine aH (cEq _ _) (aT (fun h=>?_) fun _=>?_)
 ·exact aZ rfl (w 45 (by decide) (aI h))
 ·refine aH (cEq _ _) (aT (fun h=>?_) fun _=>?_)
  ·exact w 46 (by decide) (aI h)
  ·exact aQ rfl hy
theorem FC{d:Bool}{a pv:V}{l:List V}{s:SS}{K:Fl→St→Res}(F:TF t)(hp:s.p<t.length)(hk:∀q,s.p≤q→q<t.length→(∀i,s.p≤i→i<q→ch t i=32)→yC (ch t q)=false→(K .next (sl (fbL d a l pv) (sc t {s with p:=q}))).sat Q E) :
  (LP 400 (uu (n+1)) mFb [(1,0)] 2 400 fbK (sl (fbL d a l pv) (sc t s)) K).sat Q E:=by
 have len:=F.len;have hs:=lZ (t:=t) (Q:=Q) (E:=E) (L:=fun m S=>LP 400 (uu (n+1)) mFb [(1,0)] 2 m fbK (sl (fbL d a l pv) S) K) (K:=fun S=>K .next (sl (fbL d a l pv) S)) (g:=fun v=>aG .In v (vs " \t")) (test:=yC) n F (fun m S=>GO 400 (uu (n+1)) S m d a l pv K);refine hs (fun c=>rfl) rfl 400 s hp (by exact d4 ‹_›) fun q h1 h2 h3 h4=>hk q h1 h2 (fun i i1 i2=>?_) h4;have:=aI (h3 i i1 i2);simp only[List.mem_cons,List.not_mem_nil,or_false] at this
 rcases this with z|z
 ·exact z
 ·exact (F.notabs z (by decide)).elim
structure Brs(t:List Nat)(q p p':Nat)(cs:List (List Nat)):Prop where
 rd:Rd t p p' cs
 ne:cs.flatten=[]→cs=[]
 stp:∀out bl en,∃bl',Stp q (cut t p p') out bl en out bl' (en++cs.flatten)
theorem Gf(c:Nat):[lbv c].length=1:=rfl
theorem Brs.nil{q p:Nat}(hp:p<t.length):Brs t q p p []:=⟨⟨aK _,hp,Nat.zero_le _,Nat.zero_le _⟩,fun _=>rfl,fun out bl en=>⟨bl,by rw[cY,List.flatten_nil,cA];exact .nil⟩⟩
theorem Brs.sp{q p p1 p2:Nat}{cs:List (List Nat)}(h:Brs t q p p1 cs)(l:p1≤p2)(lt:p2<t.length)(hs:∀i,p1≤i→i<p2→ch t i=32):Brs t q p p2 cs:=by
 refine⟨h.rd.more l lt,h.ne,fun out bl en=>?_⟩;obtain⟨bl',e⟩:=h.stp out bl en;refine⟨bl'++cut t p1 p2,?_⟩;rw[cC h.rd.le l];exact e.trans (rH fun c hc=>by obtain⟨i,i1,i2,_,rfl⟩:=fT hc;exact hs i i1 i2)
theorem Brs.brk{q p p1:Nat}{cs:List (List Nat)}(F:TF t)(h:Brs t q p p1 cs)(hl:isL (ch t p1)=true):Brs t q p (p1+aV t p1) (cs++[[lbv (ch t p1)]]):=by
 have l1:=cT F hl;have l0:=dI t p1;refine⟨h.rd.app (.one (Nat.lt_add_of_pos_right l0) l1 (by rw[Gf];exact zo l0)),fun q=>?_,fun out bl en=>?_⟩
 ·rw[dX] at q
  have:=(List.append_eq_nil_iff.mp q).2
  cases this
 ·obtain⟨bl',e⟩:=h.stp out bl en
  refine⟨bl',?_⟩;rw[cC h.rd.le (bY _ _),dX,←fY];exact e.trans (Ff F hl)
theorem Vl{d:Bool}{q p0:Nat}{a:V}(F:TF t):∀(m:Nat) (cs:List (List Nat)) (s:SS),Brs t q p0 s.p cs→t.length-s.p<m→(∀cs p',s.p≤p'→Brs t q p0 p' cs→yC (ch t p')=false→isL (ch t p')=false→Q (.lst (cs.map .str)) (sc t {s with p:=p'}))→(∀i e,s.p≤i→i<t.length→iL t i e→E e)→
  (LP 400 (uu (n+2)) mFb [] 1 m fnK (sl (fnL d a (cs.map .str)) (sc t s)) (nxt 400 (uu (n+2)) mFb [] 2 bB)).sat Q E:=by
 intro m
 induction m with
 | zero=>intro cs s h h2;have:=h.rd.lt;exact absurd ‹_› (Nat.not_lt_zero _)
 | succ m ih=>
  intro cs s h hm hk he;have sm:=h.rd.small F;refine aN (l_fb 400 (uu (n+2)) (sc t s) m d a _ _) ?_;refine dJ (k:=3) h.rd.lt ?_;refine Qp (n:=n+1) F h.rd.lt (bV (he s.p _ (aK _) h.rd.lt ⟨_,_,_,rfl⟩)) ?_;refine FC (n:=n+1) F h.rd.lt fun p1 l1 l2 h3 h4=>?_;have hb:=h.sp l1 l2 h3;rw[bO];refine aN (EL 400 (uu (n+2)) _ m d a _ _) (bC (s:={s with p:=p1}) l2 (aH (a:=isL (ch t p1)) rfl (aT (fun e=>?_) fun e=>?_)))
  ·refine gN (n:=n) (s:={s with p:=p1}) F l2 (fun _=>?_) fun e'=>by have e':isL (ch t p1)=false:=e';rw[e] at e';exact tz e'
   have l3:=cT F e;have l0:=dI t p1;refine tY (by lia) ?_;dsimp only;exact ih _ {s with p:=p1+aV t p1} (hb.brk F e) (by show t.length-(p1+aV t p1)<m;exact dc ‹_› (by lia) (by exact iS ‹_› ‹_›)) (fun cs p' k1 k2 k3 k4=>hk cs p' (by have k1:p1+aV t p1≤p':=k1;lia) k2 k3 k4) fun i e k1 k2 k3=>he i e (by have k1:p1+aV t p1≤i:=k1;lia) k2 k3
  ·exact hk cs p1 l1 hb h4 e
theorem g_fb{d:Bool}{q:Nat}{a:V}{s:SS}{K:V→Sc→Res}(F:TF t)(hp:s.p<t.length)(hk:∀cs p',Brs t q s.p p' cs→yC (ch t p')=false→isL (ch t p')=false→(K (.lst (cs.map .str)) (sc t {s with p:=p'})).sat Q E)(he:∀i e,s.p≤i→i<t.length→iL t i e→E e) :
  ((uu (n+3) mFb [.bool d,a] [] (sc t s)).go K).sat Q E:=by
 have len:=F.len;refine bS (bE (e_fb 400 (uu (n+2)) (sc t s) d a) rfl ?_);exact Vl (q:=q) (cs:=[]) F 400 s (.nil hp) (by exact d4 ‹_›) (fun cs p' _ h1 h2 h3=>hk cs p' h1 h2 h3) he
theorem DQ{d:Bool}{a:V}{s:SS}{K:Fl→St→Res}(F:TF t)(hp:s.p<t.length)(hk:∀j,s.p+j<t.length→(∀i,s.p≤i→i<s.p+j→ch t i=32)→yC (ch t (s.p+j))=false→(K .next (sl (fpL d a (j:Int)) (sc t s))).sat Q E) :
  (LP 400 (uu (n+1)) mFp [] 2 400 uW (sl (fpL d a 0) (sc t s)) K).sat Q E:=by
 have len:=F.len;have hs:=jT (t:=t) (Q:=Q) (E:=E) (s:=s) (L:=fun m k S=>LP 400 (uu (n+1)) mFp [] 2 m uW (sl (fpL d a k) S) K) (K:=fun k S=>K .next (sl (fpL d a k) S)) (g:=fun v=>aG .In v (vs " \t")) (test:=yC) n F (fun m k S=>l_fp 400 (uu (n+1)) S m d a k K);refine hs (fun c=>rfl) rfl 400 0 hp (by exact d4 ‹_›) fun j h1 h2 h3 h4=>hk j h2 (fun i i1 i2=>?_) h4;have:=aI (h3 i i1 i2);simp only[List.mem_cons,List.not_mem_nil,or_false] at this
 rcases this with z|z
 ·exact z
 ·exact (F.notabs z (by decide)).elim
theorem pY{c:Nat}(h:isB c=true):c=0∨yC c=true∨isL c=true:=by
 have:=aI h;simp only[List.mem_cons,List.not_mem_nil,or_false] at this
 rcases this with z|z|z|z
 ·exact .inl z
 ·exact .inr (.inl (by rw[z];rfl))
 ·exact .inr (.inl (by rw[z];rfl))
 ·refine .inr (.inr (bN ?_))
  simp only[List.mem_cons,List.not_mem_nil,or_false];exact z
structure Gp(t:List Nat)(q p p':Nat)(cs:List (List Nat)):Prop where
 rd:Rd t p p' cs
 lt:p<p'
 stp:∀out,∃bl en,Stp q (cut t p p') out [] [] out bl en∧cs.flatten=gJ bl en
 stop:isB (ch t p')=true→ch t p'=0
noncomputable def yV(c:Nat)(bs:List (List Nat)):List (List Nat):=match decide (c=10) with
 | false=>[[c]]
 | true=>match bs with
  | []=>[[32]]
  | _::_=>[]
theorem Cf(c:Nat)(bs:List (List Nat)):(yV c bs).length≤1∧(yV c bs).flatten.length≤1:=by
 unfold yV
 cases decide (c=10) with
 | false=>exact⟨aK _,aK _⟩
 | true=>cases bs with
  | nil=>exact⟨aK _,aK _⟩
  | cons=>exact⟨Nat.zero_le _,Nat.zero_le _⟩
theorem So(c:Nat)(bs:List (List Nat))(bl:List Nat)(ne:bs.flatten=[]→bs=[]):(yV c bs++bs).flatten=gJ bl (c::bs.flatten):=by
 show _=match decide (c=10) with|false=>c::bs.flatten|true=>match bs.flatten with|[]=>[32]|_::_=>bs.flatten
 unfold yV
 cases decide (c=10) with
 | false=>rfl
 | true=>
  cases bs with
  | nil=>rfl
  | cons b bs=>
   show (b::bs).flatten=match (b::bs).flatten with|[]=>[32]|_::_=>(b::bs).flatten
   cases hf:(b::bs).flatten with
   | nil=>cases ne hf
   | cons=>rfl
theorem Go{q p0 p1 p2:Nat}{bs:List (List Nat)}(F:TF t)(hp:p0≤p1)(hs:∀i,p0≤i→i<p1→ch t i=32)(hl:isL (ch t p1)=true)(hb:Brs t q (p1+aV t p1) p2 bs)(h1:yC (ch t p2)=false)(h2:isL (ch t p2)=false):Gp t q p0 p2 (yV (lbv (ch t p1)) bs++bs):=by
 have l0:=dI t p1;have le:=hb.rd.le;have n1:=hb.rd.n1;have n2:=hb.rd.n2;refine⟨⟨by lia,hb.rd.lt,?_,?_⟩,by lia,fun out=>?_,fun z=>?_⟩
 ·have:=(Cf (lbv (ch t p1)) bs).1
  rw[aU];exact zw ‹_› ‹_› ‹_› ‹_› ‹_›
 ·have:=(Cf (lbv (ch t p1)) bs).2
  rw[dX,aU];exact zw ‹_› ‹_› ‹_› ‹_› ‹_›
 ·obtain⟨bl',e⟩:=hb.stp out (cut t p0 p1) [lbv (ch t p1)]
  refine⟨bl',[lbv (ch t p1)]++bs.flatten,?_,?_⟩
  ·rw[cC (show p0≤p1+aV t p1 by lia) le,cC hp (bY p1 _)]
   exact ((rH (bl:=[]) fun c hc=>by obtain⟨i,i1,i2,_,rfl⟩:=fT hc;exact hs i i1 i2).trans (Ff F hl)).trans e
  ·exact So _ _ _ hb.ne
 ·rcases pY z with z|z|z
  ·exact z
  ·rw[h1] at z;exact bx z
  ·rw[h2] at z;exact bx z
theorem g_fp{d:Bool}{q:Nat}{a:V}{s:SS}{K:V→Sc→Res}(F:TF t)(hp:s.p<t.length)(hb:isB (ch t s.p)=true)(hk:∀cs p',ch t s.p≠0→Gp t q s.p p' cs→(K (.lst (cs.map .str)) (sc t {s with p:=p'})).sat Q E)(he:∀i e,s.p≤i→i<t.length→iL t i e→E e) :
  ((uu (n+4) mFp [.bool d,a] [] (sc t s)).go K).sat Q E:=by
 have len:=F.len;refine bS (bE (e_fp 400 (uu (n+3)) (sc t s) d a) rfl ?_);refine DQ (n:=n+2) F hp fun j j1 j2 j3=>?_;rw[bO];refine aN (x_fp 400 (uu (n+3)) (sc t s) d a _) (dJ hp (jF j1 (by lia) (bC (s:={s with p:=s.p+j}) j1 ?_)));dsimp only;refine aH (a:=decide (ch t (s.p+j)=0)) (eW _ 0) (aT (fun _=>bV (s:={s with p:=s.p+j}) (he _ _ (bY _ _) j1 ⟨_,_,_,rfl⟩)) fun e0=>?_);have e0:=cK e0
 have nz:ch t s.p≠0:=fun z=>by
  rcases Nat.eq_zero_or_pos j with y|y
  ·rw[y] at e0;exact e0 z
  ·rw[j2 s.p (aK _) (by lia)] at z;cases z
 refine aH (a:=isL (ch t (s.p+j))) rfl (aT (fun e=>?_) fun e=>?_)
 ·refine gN (n:=n+1) (s:={s with p:=s.p+j}) F j1 (fun _=>?_) fun e'=>by have e':isL (ch t (s.p+j))=false:=e';rw[e] at e';exact tz e'
  dsimp only;refine g_fb (n:=n) (q:=q) (s:={s with p:=s.p+j+aV t (s.p+j)}) F (cT F e) (fun bs p' b1 b2 b3=>?_) fun i e k1 k2 k3=>he i e (by have k1:s.p+j+aV t (s.p+j)≤i:=k1;lia) k2 k3;have G:=Go F (bY s.p j) j2 e b1 b2 b3;have fin:=hk _ p' nz G;have sm:=(b1.rd.small F).1;refine aH (a:=!decide (lbv (ch t (s.p+j))=10)) (yU _ 10) ?_;revert fin;unfold yV
  cases decide (lbv (ch t (s.p+j))=10) with
  | false=>
   intro fin;exact aZ rfl (mY (cs:=[[lbv (ch t (s.p+j))]]) (ds:=bs) (K:=fun l=>.ok (.lst l) (sc t {s with p:=p'})) (by show 1+_≤_;lia) fin)
  | true=>
   cases bs with
   | nil=>
    intro fin;exact aQ rfl (aH (a:=false) rfl (aZ rfl (mY (cs:=[[32]]) (ds:=[]) (K:=fun l=>.ok (.lst l) (sc t {s with p:=p'})) (by decide) fin)))
   | cons b bs=>
    intro fin;exact aQ rfl (aH (a:=true) rfl (aQ rfl (mY (cs:=[]) (ds:=b::bs) (K:=fun l=>.ok (.lst l) (sc t {s with p:=p'})) (by show 0+_≤_;lia) fin)))
 ·have j0:0<j:=by
   rcases pY hb with z|z|z
   ·exact absurd z nz
   ·rcases Nat.eq_zero_or_pos j with y|y
    ·rw[y] at j3;rw[show s.p+0=s.p from rfl,z] at j3;exact tz j3
    ·exact y
   ·rcases Nat.eq_zero_or_pos j with y|y
    ·rw[y] at e;rw[show s.p+0=s.p from rfl,z] at e;exact tz e
    ·exact y
  have:=hk [cut t s.p (s.p+j)] (s.p+j) nz ⟨.one (by lia) j1 (by rw[iP (by exact bA ‹_›)];exact aK _),by lia,fun out=>⟨cut t s.p (s.p+j),[],rH (bl:=[]) fun c hc=>by obtain⟨i,i1,i2,_,rfl⟩:=fT hc;exact j2 i i1 i2,by rw[iT,List.flatten_nil,cA];rfl⟩,fun z=>by
   rcases pY z with z|z|z
   ·exact z
   ·rw[j3] at z;exact bx z
   ·rw[e] at z;exact bx z⟩
  rw[←iZ] at this;exact this
end
section
variable{t:List Nat}{n:Nat}{Q:V→Sc→Prop}{E:V→Prop}{g:List Tk}
structure In(t:List Nat)(q b p:Nat)(cs:List (List Nat)):Prop where
 rd:Rd t b p cs
 st:∃out bl en,Stp q (cut t b p) [] [] [] out bl en∧cs.flatten=out++gJ bl en∧((bl=[]∧en=[])∨ch t p=q∨ch t p=0)
 stop:Hl t q p
theorem In.val{q b p:Nat}{cs:List (List Nat)}(h:In t q b p cs):cs.flatten=Bu q (cut t b p):=by
 refine Lg h.st fun out bl en h1 h2 _=>?_;rw[h1.done,h2]
theorem Hc{p p':Nat}(h:cut t p p'=[])(l:p≤p')(lt:p'<t.length):p=p':=by
 have:=iP (t:=t) (a:=p) (b:=p') (by exact bA ‹_›);rw[h] at this;have:0=p'-p:=this;exact Nat.le_antisymm (by assumption) (by lia)
theorem Vj{y a:V}{d:Bool}{q b:Nat}{K:Fl→St→Res}(hq:Qt d q)(F:TF t):∀(m:Nat) (cs:List (List Nat)) (s:SS),In t q b s.p cs→t.length-s.p<m→(∀cs p',s.p≤p'→In t q b p' cs→ch t p'=q→(K .next (sl (fsL y d (cs.map .str) a (.str [q])) (sc t {s with p:=p'}))).sat Q E)→(∀i e,s.p≤i→i<t.length→iL t i e→E e)→
  (LP 400 (uu (n+4)) mFs [] 6 m fsK (sl (fsL y d (cs.map .str) a (.str [q])) (sc t s)) K).sat Q E:=by
 intro m
 induction m with
 | zero=>intro cs s h h2;have:=h.rd.lt;exact absurd ‹_› (Nat.not_lt_zero _)
 | succ m ih=>
  intro cs s h hm hk he;have sm:=h.rd.small F;have len:=F.len;have hp:=h.rd.lt;refine aN (l_fs 400 (uu (n+4)) (sc t s) m y d _ a _ K) (bC hp (aH (a:=!decide (ch t s.p=q)) (yU _ q) (aT (fun e=>?_) fun e=>?_)))
  ·have e:=cK (cO e)
   have hb:isB (ch t s.p)=true:=h.stop.resolve_right e;refine g_fp (n:=n) (q:=q) F hp hb (fun c1 p1 nz G=>?_) he;have sm1:=G.rd.small F;have n1:=h.rd.n1;have le:=h.rd.le;refine mY (by lia) ?_;refine GZ (n:=n+2) (q:=q) (s:={s with p:=p1}) hq F G.rd.lt fun c2 p2 R2 W2 S2=>?_;have sm2:=R2.small F;refine mY (by rw[aU];lia) ?_;dsimp only;have l1:=G.lt;have l2:=R2.le;refine ih _ {s with p:=p2} ⟨(h.rd.app G.rd).app R2,?_,S2⟩ (by show t.length-p2<m;have:p1≤p2:=l2;exact dc ‹_› (by exact aJ ‹_› ‹_›) ‹_›) (fun cs p' k1=>hk cs p' (by have k1:p2≤p':=k1;have:p1≤p2:=l2;lia)) fun i e k1=>he i e (by have k1:p2≤i:=k1;have:p1≤p2:=l2;lia);refine Lg h.st fun out bl en h1 h2 h3=>?_
   obtain⟨rfl,rfl⟩:bl=[]∧en=[]:=by
    rcases h3 with z|z|z
    ·exact z
    ·exact absurd z e
    ·exact absurd z nz
   refine iJ (G.stp out) fun bl1 en1 g1 g2=>?_;have W2:Wd1 q (cut t p1 p2) c2.flatten:=W2
   rcases W2 with ⟨w1,w2⟩|⟨_,w2⟩
   ·have ep:p1=p2:=Hc w1 l2 R2.lt
    refine⟨out,bl1,en1,?_,?_,?_⟩
    ·show Stp q (cut t b p2) _ _ _ _ _ _
     rw[←ep,cC le G.rd.le];exact h1.trans g1
    ·rw[dX,dX,w2,h2,g2,cA]
     show out++[]++_=_;rw[cA]
    ·rcases S2 with z|z
     ·right;right
      show ch t p2=0;have z:isB (ch t p2)=true:=z;rw[←ep] at z ⊢;exact G.stop z
     ·exact .inr (.inl z)
   ·refine⟨out++(gJ bl1 en1++c2.flatten),[],[],?_,?_,.inl ⟨rfl,rfl⟩⟩
    ·show Stp q (cut t b p2) _ _ _ _ _ _
     rw[cC (show b≤p1 from aJ le G.rd.le) l2,cC le G.rd.le];exact (h1.trans g1).trans (w2 _ _ _)
    ·rw[dX,dX,h2,g2]
     show out++[]++_++_=_++[];simp only[cA,fY]
  ·exact hk cs s.p (aK _) h (aI (dE e))
theorem FJ{y:V}{d:Bool}{q:Nat}{s:SS}(hy:y = .str [q])(hq:Qt d q)(hc:ch t s.p=q)(F:TF t):SQ t s (Qs 400 (uu (n+4)) (sc t s) y d):=by
 have len:=F.len
 have q0:q≠0:=by rcases hq with ⟨_,rfl⟩|⟨_,rfl⟩<;>decide
 have lt:=F.lt (i:=s.p) (by rw[hc];exact q0);refine bV (bC (by exact bA ‹_›) (eS lt ?_));rw[hc];refine GZ (n:=n+2) (q:=q) (s:={s with p:=s.p+1}) hq F lt fun cs p' R W S=>?_;have sm:=R.small F;refine mY (cs:=[]) (by show 0+_≤_;lia) ?_;dsimp only at R W S
 have I:In t q (s.p+1) p' cs:=by
  refine⟨R,?_,S⟩
  rcases W with ⟨w1,w2⟩|⟨_,w2⟩
  ·exact⟨[],[],[],by rw[w1];exact .nil,by rw[w2];rfl,.inl ⟨rfl,rfl⟩⟩
  ·exact⟨_,[],[],w2 [] [] [],by show _=([]++([]++cs.flatten))++[];rw[cA];rfl,.inl ⟨rfl,rfl⟩⟩
 have le:=R.le;refine Vj (n:=n) (b:=s.p+1) hq F 400 cs {s with p:=p'} I (by show t.length-p'<400;exact d4 ‹_›) (fun cs p2 k1 I2 c2=>?_) fun i e k1 k2 k3=>⟨i,k3,by have k1:p'≤i:=k1;exact aJ (bA ‹_›) ‹_›,k2⟩;have k1:p'≤p2:=k1;rw[bO];have l2:=F.lt (i:=p2) (by rw[c2];exact q0);refine aN (x_fs 400 (uu (n+4)) _ _ _ _ _ _) (eS (s:={s with p:=p2}) l2 (bV (s:={s with p:=p2+1}) (aH (mJ (by have:=I2.rd.small F;lia)) ?_)));refine⟨.sca cs.flatten false [q] s.p (p2+1),p2+1,s.allow,by rw[hy];rfl,rfl,rfl,by show s.p≤p2+1;lia,by lia,l2,?_,fun z=>absurd (show (0:Nat)=2 from z) (by decide),gA.refl fun z=>absurd (show (0:Nat)=2 from z) (by decide),by show (0:Nat)≠1;decide,rfl,rfl⟩;refine .inr (.inr ⟨rfl,q,cut t (s.p+1) p2,?_,rfl,?_,I2.val⟩)
 ·rcases hq with ⟨_,z⟩|⟨_,z⟩
  ·exact .inl z
  ·exact .inr z
 ·show cut t s.p (p2+1)=_
  rw[fW (by lia) (by exact bA ‹_›),Rv (by exact aJ ‹_› ‹_›) (by exact bA ‹_›),hc,c2]
theorem Gu{m:Str}{q:Nat}(hm:(m = "fetch_single" ∧ q=39)∨(m = "fetch_double" ∧ q=34))(F:TF t){s:SS}(h:J t g s 0)(hd:s.done=false)(hk:s.ks.length≤9000)(hc:ch t s.p=q):FQ t g s (uu (n+7) m [] [] (sc t s)):=by
 have hw:1≤wgt (ch t s.p):=by rw[hc];rcases hm with ⟨_,rfl⟩|⟨_,rfl⟩<;>decide
 rcases hm with ⟨rfl,rfl⟩|⟨rfl,rfl⟩
 ·refine bE (Rf 400 (uu (n+6)) (sc t s)) rfl (bS ?_)
  refine aN (Bw 400 (uu (n+5)) (sc t s) _) (bE (Gx 400 (uu (n+5)) (sc t s) _) rfl ?_);refine dG (mL (n:=n+2) (r:=fun S=>uu (n+5) mFs [vs "'"] [] S) F h hd hk hw fun s1 e1 _=>?_) (fun _ _ z=>z) fun _ z=>z;exact bE (HW 400 (uu (n+4)) (sc t s1)) rfl (FJ (n:=n) rfl (.inr ⟨rfl,rfl⟩) (by rw[e1];exact hc) F)
 ·refine bE (Rj 400 (uu (n+6)) (sc t s)) rfl (bS ?_)
  refine aN (Bw 400 (uu (n+5)) (sc t s) _) (bE (Gx 400 (uu (n+5)) (sc t s) _) rfl ?_);refine dG (mL (n:=n+2) (r:=fun S=>uu (n+5) mFs [vs "\""] [] S) F h hd hk hw fun s1 e1 _=>?_) (fun _ _ z=>z) fun _ z=>z;exact bE (HV 400 (uu (n+4)) (sc t s1)) rfl (FJ (n:=n) rfl (.inl ⟨rfl,rfl⟩) (by rw[e1];exact hc) F)
theorem DO{i:Int}{a:V}{s:SS}{K:Fl→St→Res}(F:TF t)(hp:s.p<t.length)(hk:∀j,s.p+j<t.length→(∀i,s.p≤i→i<s.p+j→ch t i=32)→ch t (s.p+j)≠32→(K .next (sl (psL i a (j:Int)) (sc t s))).sat Q E) :
  (LP 400 (uu (n+1)) mPs [] 2 400 psK (sl (psL i a 0) (sc t s)) K).sat Q E:=by
 have len:=F.len;have hs:=jT (t:=t) (Q:=Q) (E:=E) (s:=s) (L:=fun m k S=>LP 400 (uu (n+1)) mPs [] 2 m psK (sl (psL i a k) S) K) (K:=fun k S=>K .next (sl (psL i a k) S)) (g:=fun v=>aG .In v (vs " ")) (test:=fun c=>decide (c∈([32]:List Nat))) n F (fun m k S=>l_ps 400 (uu (n+1)) S m i a k K);exact hs (fun c=>rfl) rfl 400 0 hp (by exact d4 ‹_›) fun j h1 h2 h3 h4=>hk j h2 (fun i i1 i2=>cG (aI (h3 i i1 i2))) fun z=>cK h4 (List.mem_singleton.mpr z)
structure Gps(t:List Nat)(p p':Nat)(v:V):Prop where
 le:p≤p'
 lt:p'<t.length
 bl:eR t p p'
 v:cF v=some false∨∃cs,v = .lst (cs.map .str)∧cF v=some true∧Gp t 0 p p' cs
theorem Vh{p0 p1:Nat}{i:Int}{k:Int}{a w c pv:V}{al:Bool}(F:TF t)(h0:p0≤p1)(hs0:∀i,p0≤i→i<p1→ch t i=32)(hl:isL (ch t p1)=true):∀(m:Nat) (bs:List (List Nat)) (pv:V) (s:SS),Brs t 0 (p1+aV t p1) s.p bs→eR t p0 s.p→s.allow=al→t.length-s.p<m→(∀v p',Gps t p0 p' v→Q v (sc t {s with p:=p',allow:=al}))→
  (LP 400 (uu (n+2)) mPs [(6,0)] 5 m Ob (sl (psM i a k w c (.str [lbv (ch t p1)]) pv (bs.map .str)) (sc t s)) (nxt 400 (uu (n+2)) mPs [(6,0)] 6 (nxt 400 (uu (n+2)) mPs [] 7 bB))).sat Q E:=by
 intro m
 induction m with
 | zero=>intro bs pv s h _ _ h2;have:=h.rd.lt;exact absurd ‹_› (Nat.not_lt_zero _)
 | succ m ih=>
  intro bs pv s h hb ha hm hk;have sm:=h.rd.small F;have hp:=h.rd.lt;have l0:=dI t p1;have le:=h.rd.le;refine aN (GJ 400 (uu (n+2)) (sc t s) m i a k w c _ pv _) (bC hp (aH (a:=decide (ch t s.p∈([32,13,10,133,8232,8233]:List Nat))) rfl (aT (fun e=>?_) fun e=>?_)))
  ·refine bC hp (aH (a:=decide (ch t s.p=32)) (eW _ 32) (aT (fun e2=>?_) fun e2=>?_))
   ·have e2:=aI e2
    have lt:=F.lt (i:=s.p) (by rw[e2];decide)
    have sp1:∀i,s.p≤i→i<s.p+1→ch t i=32:=fun i i1 i2=>by rw[show i=s.p by exact Nat.le_antisymm (by exact Nat.le_of_lt_succ ‹_›) (by assumption)];exact e2
    refine eS lt (ih bs pv {s with p:=s.p+1} (h.sp (Nat.le_succ _) lt sp1) (hb.trans (jH sp1) (by lia) (Nat.le_succ _)) ha (by show t.length-(s.p+1)<m;exact dc ‹_› (by exact aK _) ‹_›) hk)
   ·have e2:=cK e2
    have el:isL (ch t s.p)=true:=by
     have:=aI e;refine bN ?_;simp only[List.mem_cons,List.not_mem_nil,or_false] at this ⊢;exact this.resolve_left e2
    refine gN (n:=n) F hp (fun _=>?_) fun e'=>by rw[el] at e';exact tz e'
    have l1:=cT F el;have l2:=dI t s.p;have hb2:=hb.trans (mS F el) (by lia) (bY _ _);refine tY (by lia) (dJ (s:={s with p:=s.p+aV t s.p}) (k:=3) l1 ?_);refine Qp (n:=n+1) (s:={s with p:=s.p+aV t s.p}) F l1 ?_ ?_
    ·rw[←ha] at hk
     exact hk .none (s.p+aV t s.p) ⟨by lia,l1,hb2,.inl rfl⟩
    ·exact ih _ _ {s with p:=s.p+aV t s.p} (h.brk F el) hb2 ha (by show t.length-(s.p+aV t s.p)<m;exact dc ‹_› (by lia) ‹_›) hk
  ·have e3:yC (ch t s.p)=false∧isL (ch t s.p)=false:=by
    have:=cK e;simp only[List.mem_cons,List.not_mem_nil,or_false,not_or] at this;refine⟨cE ?_,cE ?_⟩
    ·simp only[List.mem_cons,List.not_mem_nil,or_false,not_or]
     exact⟨this.1,fun z=>F.notabs z (by decide)⟩
    ·simp only[List.mem_cons,List.not_mem_nil,or_false,not_or]
     exact this.2
   have G:=Go F h0 hs0 hl h e3.1 e3.2;have fin:=fun tr=>hk (.lst ((yV (lbv (ch t p1)) bs++bs).map .str)) s.p ⟨by lia,hp,hb,.inr ⟨_,rfl,tr,G⟩⟩;rw[←ha] at fin;refine aN (EG 400 (uu (n+2)) (sc t s) i a k w c _ pv _) (aH (a:=!decide (lbv (ch t p1)=10)) (yU _ 10) ?_);revert fin;unfold yV;clear G
   cases decide (lbv (ch t p1)=10) with
   | false=>
    intro fin;exact aZ rfl (mY (cs:=[[lbv (ch t p1)]]) (ds:=bs) (K:=fun l=>.ok (.lst l) (sc t s)) (by show 1+_≤_;lia) (fin rfl))
   | true=>
    cases bs with
    | nil=>
     intro fin;exact aQ rfl (aZ rfl (mY (cs:=[[32]]) (ds:=[]) (K:=fun l=>.ok (.lst l) (sc t s)) (by decide) (fin rfl)))
    | cons b bs=>
     intro fin;exact aQ rfl (aQ rfl (mY (cs:=[]) (ds:=b::bs) (K:=fun l=>.ok (.lst l) (sc t s)) (by show 0+_≤_;lia) (fin rfl)))
theorem g_ps{i:Int}{a:V}{s:SS}{K:V→Sc→Res}(F:TF t)(hp:s.p<t.length)(hk:∀v p' al,Gps t s.p p' v→(K v (sc t {s with p:=p',allow:=al})).sat Q E):((uu (n+3) mPs [.int i,a] [] (sc t s)).go K).sat Q E:=by
 have len:=F.len;refine bS (bE (e_ps 400 (uu (n+2)) (sc t s) i a) rfl ?_);refine DO (n:=n+1) F hp fun j j1 j2 j3=>?_;rw[bO];refine aN (x_ps 400 (uu (n+2)) (sc t s) i a _) (dJ hp (jF j1 (by lia) (bC (s:={s with p:=s.p+j}) j1 ?_)));dsimp only;refine aH (a:=isL (ch t (s.p+j))) rfl (aT (fun e=>?_) fun e=>?_)
 ·refine gN (n:=n) (s:={s with p:=s.p+j}) F j1 (fun _=>?_) fun e'=>by have e':isL (ch t (s.p+j))=false:=e';rw[e] at e';exact tz e'
  dsimp only;have l1:=cT F e;have b2:eR t s.p (s.p+j+aV t (s.p+j)):=(jH j2).trans (mS F e) (bY _ _) (bY _ _);refine dJ (s:={s with p:=s.p+j+aV t (s.p+j),allow:=true}) (k:=3) l1 ?_;refine Qp (n:=n+1) (s:={s with p:=s.p+j+aV t (s.p+j),allow:=true}) F l1 ?_ ?_
  ·exact hk .none (s.p+j+aV t (s.p+j)) true ⟨by lia,l1,b2,.inl rfl⟩
  ·exact Vh (n:=n) (al:=true) (pv:=.none) F (bY s.p j) j2 e 400 [] _ {s with p:=s.p+j+aV t (s.p+j),allow:=true} (.nil l1) b2 rfl (by show t.length-(s.p+j+aV t (s.p+j))<400;exact d4 ‹_›) fun v p' G=>hk v p' true G
 ·have stop:isB (ch t (s.p+j))=true→ch t (s.p+j)=0:=fun z=>by
   rcases pY z with z|z|z
   ·exact z
   ·have:=aI z
    simp only[List.mem_cons,List.not_mem_nil,or_false] at this
    rcases this with y|y
    ·exact absurd y j3
    ·exact (F.notabs y (by decide)).elim
   ·rw[e] at z;exact bx z
  rw[iZ];refine aH (a:=!bU (cut t s.p (s.p+j))) rfl (aT (fun e=>?_) fun e=>?_)
  ·have j0:0<j:=by
    rcases Nat.eq_zero_or_pos j with y|y
    ·rw[y,Nat.add_zero,cY] at e;exact bx e
    ·exact y
   refine hk (.lst ([cut t s.p (s.p+j)].map .str)) (s.p+j) s.allow ⟨bY _ _,j1,jH j2,.inr ⟨_,rfl,rfl,⟨.one (by lia) j1 (by rw[iP (by exact bA ‹_›)];exact aK _),by lia,fun out=>⟨cut t s.p (s.p+j),[],rH (bl:=[]) fun c hc=>by obtain⟨i,i1,i2,_,rfl⟩:=fT hc;exact j2 i i1 i2,by rw[iT,List.flatten_nil,cA];rfl⟩,stop⟩⟩⟩
  ·exact hk (.lst []) (s.p+j) s.allow ⟨bY _ _,j1,jH j2,.inl rfl⟩
theorem Eh(t:List Nat)(p:Nat)(flow:Int):(isB (ch t p)||((decide (ch t p=58)&&(match decide (flow=0) with|true=>isB (ch t (p+1))|false=>isB (ch t (p+1))||decide (ch t (p+1)∈([44,91,93,123,125]:List Nat))))||(!decide (flow=0)&&decide (ch t p∈([44,63,91,93,123,125]:List Nat)))))=true↔dC t p flow:=by
 unfold dC;rw[Bool.or_eq_true,Bool.or_eq_true,Bool.and_eq_true,Bool.and_eq_true,decide_eq_true_iff,decide_eq_true_iff,Bool.not_eq_true',decide_eq_false_iff_not]
 cases h:decide (flow=0) with
 | true=>
  have h:=aI h;constructor
  ·rintro (z|z|z)
   ·exact .inl z
   ·exact .inr (.inl ⟨z.1,.inl z.2⟩)
   ·exact absurd h z.1
  ·rintro (z|z|z)
   ·exact .inl z
   ·rcases z with ⟨z1,z2|z2⟩
    ·exact .inr (.inl ⟨z1,z2⟩)
    ·exact absurd h z2.1
   ·exact absurd h z.1
 | false=>
  have h:=cK h;rw[Bool.or_eq_true,decide_eq_true_iff];constructor
  ·rintro (z|z|z)
   ·exact .inl z
   ·rcases z with ⟨z1,z2|z2⟩
    ·exact .inr (.inl ⟨z1,.inl z2⟩)
    ·exact .inr (.inl ⟨z1,.inr ⟨h,z2⟩⟩)
   ·exact .inr (.inr z)
  ·rintro (z|z|z)
   ·exact .inl z
   ·rcases z with ⟨z1,z2|z2⟩
    ·exact .inr (.inl ⟨z1,.inl z2⟩)
    ·exact .inr (.inl ⟨z1,.inr z2.2⟩)
   ·exact .inr (.inr z)
theorem DP{l:List V}{a e:V}{i:Int}{v:V}{s:SS}{K:Fl→St→Res}(F:TF t):∀(m k:Nat),s.p+k<t.length→t.length-(s.p+k)<m→(∀j,k≤j→s.p+j<t.length→(∀i,s.p+k≤i→i<s.p+j→¬dC t i s.flow)→dC t (s.p+j) s.flow→(K .next (sl (pK l a e i v (j:Int)) (sc t s))).sat Q E)→
  (LP 400 (uu (n+1)) mPl [(5,0)] 2 m Dh (sl (pK l a e i v (k:Int)) (sc t s)) K).sat Q E:=by
 intro m
 induction m with
 | zero=>intro k _ h;exact absurd ‹_› (Nat.not_lt_zero _)
 | succ m ih=>
  intro k hp hm hk;refine aN (GK 400 (uu (n+1)) (sc t s) m l a e i v _ K) (fV hp ?_)
  have main:∀b:Bool,(b=true↔dC t (s.p+k) s.flow)→(onB b (K .next (sl (pK l a e i v (k:Int)) (sc t s))) (LP 400 (uu (n+1)) mPl [(5,0)] 2 m Dh (sl (pK l a e i v ((k:Int)+1)) (sc t s)) K)).sat Q E:=fun b hb=>by
   refine aT (fun z=>hk k (aK _) hp (fun i i1 i2=>by lia) (hb.mp z)) fun z=>?_
   have ne:¬dC t (s.p+k) s.flow:=fun y=>by rw[hb.mpr y] at z;exact tz z
   have nz:ch t (s.p+k)≠0:=fun y=>ne (.inl (by rw[y];rfl));have lt:=F.lt nz;refine ih (k+1) (by assumption) (by exact dc ‹_› (by exact aK _) ‹_›) fun j h1 h2 h3 h4=>hk j (by exact bA ‹_›) h2 (fun i i1 i2=>?_) h4
   rcases Nat.lt_or_eq_of_le i1 with z|z
   ·exact h3 i (by assumption) i2
   ·rw[←z];exact ne
  have key:=Eh t (s.p+k) s.flow;rw[Fe];refine aH (a:=isB (ch t (s.p+k))) rfl (aT (fun h1=>main true ?_) fun h1=>?_)
  ·rw[h1] at key;exact key
  rw[h1] at key;rw[cJ]
  have last:∀c:Bool,(decide (ch t (s.p+k)=58)&&(match decide (s.flow=0) with|true=>isB (ch t (s.p+k+1))|false=>isB (ch t (s.p+k+1))||decide (ch t (s.p+k+1)∈([44,91,93,123,125]:List Nat))))=c→(onB c (onB true (K .next (sl (pK l a e i v (k:Int)) (sc t s))) (LP 400 (uu (n+1)) mPl [(5,0)] 2 m Dh (sl (pK l a e i v ((k:Int)+1)) (sc t s)) K)) (gO (fun S J=>J (!decide (S.flow=0)) S) (tC (aG .In (.str [ch t (s.p+k)]) (vs ",?[]{}"))) (sc t s) fun b S=>onB b (K .next (sl (pK l a e i v (k:Int)) S)) (LP 400 (uu (n+1)) mPl [(5,0)] 2 m Dh (sl (pK l a e i v ((k:Int)+1)) S) K))).sat Q E:=by
   intro c hc;rw[hc] at key;refine aT (fun z=>main true ?_) fun z=>?_
   ·rw[z] at key;exact key
   rw[cJ];refine aT (fun y=>aH (a:=decide (ch t (s.p+k)∈([44,63,91,93,123,125]:List Nat))) rfl (main _ ?_)) fun y=>main false ?_
   ·have y:(!decide (s.flow=0))=true:=y
    rw[z,y] at key;exact key
   ·have y:(!decide (s.flow=0))=false:=y
    rw[z,y] at key;exact key
  refine aH (a:=decide (ch t (s.p+k)=58)) (eW _ 58) (aT (fun h2=>?_) fun h2=>last false (by rw[h2];rfl));have l2:=F.lt (i:=s.p+k) (by rw[aI h2];decide);refine fV (k:=k+1) (by assumption) ?_;rw[show s.p+(k+1)=s.p+k+1 from rfl];refine aT (fun h3=>?_) fun h3=>?_
  ·have h3:=cO h3
   have h3:decide (s.flow=0)=false:=h3;refine aH (a:=decide (ch t (s.p+k+1)∈([0,32,9,13,10,133,8232,8233,44,91,93,123,125]:List Nat))) rfl (last _ ?_);rw[h2,h3];show (isB (ch t (s.p+k+1))||_)=_;unfold isB;rw[←Bool.decide_or];refine decide_eq_decide.mpr ?_;rw[←List.mem_append];rfl
  ·have h3:decide (s.flow=0)=true:=dE h3
   refine aH (a:=isB (ch t (s.p+k+1))) rfl (last _ ?_);rw[h2,h3];rfl
structure Pl(t:List Nat)(flow:Int)(b e p:Nat)(cs:List (List Nat)):Prop where
 rd:Rd t b e cs
 lt:b<e
 v:cs.flatten≠[]
 st:Stp 0 (cut t b e) [] [] [] cs.flatten [] []
 en:dC t e flow
 le:e≤p
 plt:p<t.length
 bl:eR t e p
theorem Eg{p:Nat}{flow:Int}(h:dC t p flow):ch t p≠35:=fun z=>by
 rcases h with y|⟨y,_⟩|⟨_,y⟩
 ·rw[z] at y;exact bx y
 ·rw[z] at y;cases y
 ·rw[z] at y;revert y;decide
theorem Vi{a:V}{i:Int}{b:Nat}{K:Fl→St→Res}(F:TF t):∀(m:Nat) (cs ds:List (List Nat)) (e:Nat) (s:SS),((cs=[]∧ds=[]∧e=b∧s.p=b∧b<t.length∧ch t b≠35∧¬dC t b s.flow)∨(Pl t s.flow b e s.p cs∧Gp t 0 e s.p ds))→t.length-s.p<m→
  (∀cs p' e' ds al,s.p≤p'→Pl t s.flow b e' p' cs→(K .next (sl (plL (cs.map .str) a (mk t e') i ds) (sc t {s with p:=p',allow:=al}))).sat Q E)→
  (LP 400 (uu (n+3)) mPl [] 5 m plK (sl (plL (cs.map .str) a (mk t e) i (.lst (ds.map .str))) (sc t s)) K).sat Q E:=by
 intro m
 induction m with
 | zero=>
  intro cs ds e s h h2
  rcases h with h|h
  ·have:=h.2.2.2.2.1;exact absurd ‹_› (Nat.not_lt_zero _)
  ·have:=h.1.plt;exact absurd ‹_› (Nat.not_lt_zero _)
 | succ m ih=>
  intro cs ds e s h hm hk;have len:=F.len
  have hp:s.p<t.length:=by
   rcases h with h|h
   ·rw[h.2.2.2.1];exact h.2.2.2.2.1
   ·exact h.1.plt
  refine aN (l_pl 400 (uu (n+3)) (sc t s) m _ a _ i _ K) (bC hp (aH (a:=decide (ch t s.p=35)) (eW _ 35) (aT (fun e0=>?_) fun _=>?_)))
  ·rcases h with h|h
   ·have e0:=aI e0
    rw[h.2.2.2.1] at e0;exact absurd e0 h.2.2.2.2.2.1
   ·exact hk cs s.p e _ s.allow (aK _) h.1
  refine DP (n:=n+2) (k:=0) F 400 hp (by exact d4 ‹_›) fun j _ j1 j2 j3=>?_;rw[bO];refine aN (EI 400 (uu (n+3)) (sc t s) m _ a _ i _ _ K) (aT (fun z=>?_) fun z=>?_)
  ·have j0:j=0:=by have:=aI z;exact Nat.le_antisymm (by lia) (by assumption)
   rcases h with h|h
   ·rw[j0,Nat.add_zero,h.2.2.2.1] at j3
    exact absurd j3 h.2.2.2.2.2.2
   ·exact hk cs s.p e _ s.allow (aK _) h.1
  ·have j0:0<j:=by have:=cK z;lia
   have w1:Wd1 0 (cut t s.p (s.p+j)) (cut t s.p (s.p+j)):=Wd1.chars fun c hc=>by
    refine Ca (fT hc) fun i i1 i2 _ e4=>?_;subst e4;have nb:=j2 i i1 i2
    have nB:isB (ch t i)=false:=by
     cases q:isB (ch t i) with
     | false=>rfl
     | true=>exact absurd (.inl q) nb
    have:=cK nB;simp only[List.mem_cons,List.not_mem_nil,or_false,not_or] at this;refine⟨?_,this.1⟩;unfold isW isL;rw[cE this.2.1,cE]
    ·rfl
    ·simp only[List.mem_cons,List.not_mem_nil,or_false,not_or];exact this.2.2.2
   have wne:cut t s.p (s.p+j)≠[]:=fun y=>by have:=Hc y (bY _ _) j1;lia
   have w2:=(w1.resolve_left fun y=>wne y.1).2
   have P:Pl t s.flow b (s.p+j) (s.p+j) (cs++ds++[cut t s.p (s.p+j)]):=by
    have one:Rd t s.p (s.p+j) [cut t s.p (s.p+j)]:=.one (by lia) j1 (by rw[iP (by exact bA ‹_›)];exact aK _)
    have fl:(cs++ds++[cut t s.p (s.p+j)]).flatten=(cs.flatten++ds.flatten)++cut t s.p (s.p+j):=by
     rw[dX,dX,iT,List.flatten_nil,cA]
    refine⟨?_,?_,by rw[fl];exact fun y=>wne (List.append_eq_nil_iff.mp y).2,?_,j3,aK _,j1,.refl _ _⟩
    ·rcases h with ⟨rfl,rfl,_,h,_⟩|h
     ·rw[←h];exact one
     ·exact (h.1.rd.app h.2.rd).app one
    ·rcases h with ⟨_,_,_,h,_⟩|h
     ·lia
     ·have:=h.1.lt;have:=h.1.le;lia
    ·rw[fl]
     rcases h with ⟨rfl,rfl,_,h,_⟩|h
     ·rw[←h];exact w2 [] [] []
     ·refine iJ (h.2.stp cs.flatten) fun bl en g1 g2=>?_
      have l1:=h.1.lt;have l2:=h.1.le;rw[cC (show b≤s.p by exact aJ (bA ‹_›) ‹_›) (bY _ _),cC (bA l1) l2,g2,fY cs.flatten];exact (h.1.st.trans g1).trans (w2 _ _ _)
   have sm:=P.rd.small F;rw[aU,aU] at sm;refine mY (by lia) (dJ (s:={s with allow:=false}) hp ?_);rw[iZ];refine tY (by rw[aU];lia) (jF (s:={s with allow:=false}) j1 (by lia) (bV (s:={s with allow:=false,p:=s.p+j}) ?_));refine g_ps (n:=n) (s:={s with allow:=false,p:=s.p+j}) F j1 fun v p' al G=>?_;have G:Gps t (s.p+j) p' v:=G;have P2:Pl t s.flow b (s.p+j) p' (cs++ds++[cut t s.p (s.p+j)]):=⟨P.rd,P.lt,P.v,P.st,P.en,G.le,G.lt,G.bl⟩;have ex:=fun al=>hk _ p' (s.p+j) v al (by have:=G.le;exact zt ‹_›) P2;dsimp only;unfold tIf;rw[Fe]
   rcases G.v with tv|⟨ds',rfl,tv,G2⟩
   ·refine aH tv (aZ rfl (ex al))
   ·refine aH tv (aQ rfl ?_)
    have go:∀al,(LP 400 (uu (n+3)) mPl [] 5 m plK (sl (plL ((cs++ds++[cut t s.p (s.p+j)]).map .str) a (mk t (s.p+j)) i (.lst (ds'.map .str))) (sc t {s with p:=p',allow:=al})) K).sat Q E:=fun al=>
     ih _ ds' (s.p+j) {s with p:=p',allow:=al} (.inr ⟨P2,G2⟩) (by show t.length-p'<m;have:=G.le;exact dc ‹_› (by lia) ‹_›) fun cs p2 e' ds al' k1 k2=>hk cs p2 e' ds al' (by have k1:p'≤p2:=k1;have:=G.le;lia) k2
    refine bC (s:={s with p:=p',allow:=al}) G.lt (aH (a:=decide (ch t p'=35)) (eW _ 35) (aT (fun _=>ex al) fun _=>?_));dsimp only;rw[cJ];refine aT (fun _=>aT (fun _=>ex al) fun _=>go al) fun _=>go al
theorem s_pl{s:SS}(F:TF t)(hp:s.p<t.length)(h1:ch t s.p≠35)(h2:¬dC t s.p s.flow):SQ t s (uu (n+4) mPl [] [] (sc t s)):=by
 have len:=F.len;refine bE (e_pl 400 (uu (n+3)) (sc t s)) rfl (bV ?_);refine Vi (n:=n) (b:=s.p) (cs:=[]) (ds:=[]) (e:=s.p) F 400 s (.inl ⟨rfl,rfl,rfl,rfl,hp,h1,h2⟩) (by exact d4 ‹_›) fun cs p' e' ds al k1 P=>?_;rw[bO];refine aN (EH 400 (uu (n+3)) _ _ _ _ _ _) (aH (mJ (by have:=P.rd.small F;lia)) ?_);have l1:=P.lt;have l2:=P.le;refine⟨.sca cs.flatten true [] s.p e',p',al,rfl,rfl,rfl,bA l1,by exact aJ ‹_› ‹_›,P.plt,.inl ⟨rfl,rfl,P.v,?_⟩,fun _=>P.en,⟨l2,fun _=>Eg P.en,P.bl _⟩,by show (2:Nat)≠1;decide,rfl,rfl⟩;rw[show cut t s.p (Tk.sca cs.flatten true [] s.p e').e=cut t s.p e' from rfl,P.st.done];show _=_++[];rw[cA]
theorem Wi{s:SS}(F:TF t)(h:J t g s 0)(hd:s.done=false)(hk:s.ks.length≤9000)(hw:1≤wgt (ch t s.p))(h1:ch t s.p≠35)(h2:¬dC t s.p s.flow):FQ t g s (uu (n+5) "fetch_plain" [] [] (sc t s)):=
 bE (Wr 400 (uu (n+4)) (sc t s)) rfl (mL (n:=n+1) (r:=fun S=>uu (n+4) mPl [] [] S) F h hd hk hw fun s1 e1 e2=>s_pl (n:=n) F (by rw[e1];exact h.plt) (by rw[e1];exact h1) (by rw[e1,e2];exact h2))
theorem AC{v:V}{S:Sc}(h:Q v S):(Res.ok v S).sat Q E:=h
theorem oB(cs:List (List Nat))(v:List Nat):cs.map V.str++[.str v]=(cs++[v]).map .str:=by rw[List.map_append];rfl
theorem rR{cs:List (List Nat)}(h:cs.length≤9000):Nat.ble (cs.map V.str).length aO=true:=by
 rw[List.length_map];refine fX ?_;show _≤10000;exact aJ ‹_› (by decide)
theorem kZ(cs:List (List Nat))(v:List Nat):(cs++[v]).length=cs.length+1:=by rw[aU];rfl
theorem cW(a b:List Nat):dF (a++b)=dF a++dF b:=List.filter_append ..
theorem jA{l:List Nat}(h:∀c∈l,c=32∨isL c=true):dF l=[]:=by
 refine List.filter_eq_nil_iff.mpr fun c hc z=>?_;obtain⟨z1,z2⟩:=aA z
 rcases h c hc with q|q
 ·rw[q] at z1;exact bx z1
 ·rw[q] at z2;exact bx z2
theorem Gg{c:Nat}(h:isL c=true):isL (lbv c)=true:=by
 unfold lbv
 cases decide (c∈([13,10,133]:List Nat)) with
 | true=>rfl
 | false=>exact h
structure Bk(t:List Nat)(p e p':Nat)(bk:List (List Nat)):Prop where
 rd:Rd t p p' bk
 le:p≤e
 le2:e≤p'
 sp:∀i,e≤i→i<p'→ch t i=32
 nil:dF (cut t p e)=[]
 so:dF bk.flatten=[]
theorem Bk.start{p:Nat}(hp:p<t.length):Bk t p p p []:=⟨⟨aK _,hp,Nat.zero_le _,Nat.zero_le _⟩,aK _,aK _,fun i i1 i2=>by exact Nat.le_antisymm (by lia) (by lia),by rw[cY];rfl,rfl⟩
theorem Bk.more{p e p1:Nat}{bk:List (List Nat)}(h:Bk t p e p1 bk)(hs:ch t p1=32)(lt:p1+1<t.length):Bk t p e (p1+1) bk:=by
 refine⟨h.rd.more (Nat.le_succ _) lt,h.le,Nat.le_succ_of_le h.le2,fun i i1 i2=>?_,h.nil,h.so⟩
 rcases Nat.lt_or_ge i p1 with z|z
 ·exact h.sp i i1 z
 ·rw[show i=p1 by exact Nat.le_antisymm (by exact Nat.le_of_lt_succ ‹_›) (by assumption)];exact hs
theorem Bk.brk{p e p1:Nat}{bk:List (List Nat)}(F:TF t)(h:Bk t p e p1 bk)(hl:isL (ch t p1)=true):Bk t p (p1+aV t p1) (p1+aV t p1) (bk++[[lbv (ch t p1)]]):=by
 have l1:=cT F hl;have l0:=dI t p1;have a1:=h.le;have a2:=h.le2;refine⟨h.rd.app (.one (Nat.lt_add_of_pos_right l0) l1 (by rw[Gf];exact zo l0)),by lia,aK _,fun i i1 i2=>by exact Nat.le_antisymm (by lia) (by lia),?_,?_⟩
 ·rw[cC (show p≤p1 by exact aJ ‹_› ‹_›) (bY _ _),cC a1 a2,cW,cW,h.nil]
  rw[jA (l:=cut t e p1) fun c hc=>by obtain⟨i,i1,i2,_,rfl⟩:=fT hc;exact .inl (h.sp i i1 i2)];refine jA fun c hc=>.inr ?_;rw[yP F hl] at hc
  by_cases q:aV t p1=2
  ·rw[if_pos q] at hc
   rcases al_mc hc with z|z
   ·rw[z];rfl
   ·rw[cG z];rfl
  ·rw[if_neg q] at hc
   rw[cG hc];exact hl
 ·rw[dX,cW,h.so]
  refine jA fun c hc=>.inr ?_;have hc:c∈[lbv (ch t p1)]:=hc;rw[cG hc];exact Gg hl
theorem Ml{w:List (Nat×Nat)}{i:Int}{l:List V}{p e:Nat}{bk:List (List Nat)}{K:Fl→St→Res}(hw:∀m S,LP 400 (uu (n+1)) mBb w 2 (m+1) bbK (sl (bbL i l (mk t e)) S) K=tIf (gO (tB (decide (S.col<i))) (pk0 (uu (n+1)) fun v=>aG .Eq v (vs " "))) S (fun S=>c0r (uu (n+1)) "forward" S fun S=>LP 400 (uu (n+1)) mBb w 2 m bbK (sl (bbL i l (mk t e)) S) K) (fun S=>K .next (sl (bbL i l (mk t e)) S)))(F:TF t) :
  ∀(m:Nat) (s:SS),Bk t p e s.p bk→t.length-s.p<m→(∀p',s.p≤p'→Bk t p e p' bk→(K .next (sl (bbL i l (mk t e)) (sc t {s with p:=p'}))).sat Q E)→(LP 400 (uu (n+1)) mBb w 2 m bbK (sl (bbL i l (mk t e)) (sc t s)) K).sat Q E:=by
 intro m
 induction m with
 | zero=>intro s h h2;have:=h.rd.lt;exact absurd ‹_› (Nat.not_lt_zero _)
 | succ m ih=>
  intro s h hm hk;have hp:=h.rd.lt;rw[hw];unfold tIf;rw[cJ];refine aT (fun _=>bC hp (aH (a:=decide (ch t s.p=32)) (eW _ 32) (aT (fun e=>?_) fun _=>hk s.p (aK _) h))) fun _=>hk s.p (aK _) h;have e:=aI e;have lt:=F.lt (i:=s.p) (by rw[e];decide);refine eS lt (ih {s with p:=s.p+1} (h.more e lt) (by show t.length-(s.p+1)<m;exact dc ‹_› (by exact aK _) ‹_›) fun p' k1=>hk p' (by have k1:s.p+1≤p':=k1;exact bA ‹_›))
theorem Ov{i:Int}{p:Nat}(F:TF t):∀(m e:Nat) (bk:List (List Nat)) (s:SS),Bk t p e s.p bk→t.length-s.p<m→(∀e' p' bk,s.p≤p'→Bk t p e' p' bk→Q (.tup [.lst (bk.map .str),mk t e']) (sc t {s with p:=p'}))→
  (LP 400 (uu (n+2)) mBb [] 3 m bbK (sl (bbL i (bk.map .str) (mk t e)) (sc t s)) (nxt 400 (uu (n+2)) mBb [] 4 bB)).sat Q E:=by
 intro m
 induction m with
 | zero=>intro e bk s h h2;have:=h.rd.lt;exact absurd ‹_› (Nat.not_lt_zero _)
 | succ m ih=>
  intro e bk s h hm hk;have len:=F.len;have hp:=h.rd.lt;have sm:=h.rd.small F;refine aN (BB 400 (uu (n+2)) (sc t s) m i _ _ _) (bC hp (aH (a:=isL (ch t s.p)) rfl (aT (fun el=>?_) fun el=>?_)))
  ·refine gN (n:=n) F hp (fun _=>?_) fun e'=>by rw[el] at e';exact tz e'
   have l1:=cT F el;have l0:=dI t s.p;rw[oB];refine aZ (rR (by rw[kZ];lia)) (bV (s:={s with p:=s.p+aV t s.p}) ?_);refine Ml (n:=n+1) (w:=[(3,0)]) (p:=p) (bk:=bk++[[lbv (ch t s.p)]]) (fun m S=>Vt 400 (uu (n+2)) S m i _ _ _) F 400 {s with p:=s.p+aV t s.p} (h.brk F el) (by show t.length-(s.p+aV t s.p)<400;exact d4 ‹_›) fun p' k1 hb=>?_;rw[Tv];have k1:s.p+aV t s.p≤p':=k1;exact ih _ _ {s with p:=p'} hb (by show t.length-p'<m;exact dc ‹_› (by lia) ‹_›) fun e' p2 bk k2=>hk e' p2 bk (by have k2:p'≤p2:=k2;lia)
  ·rw[bO]
   refine aN (Zm 400 (uu (n+2)) (sc t s) i _ _) ?_;exact hk e s.p bk (aK _) h
theorem HC{i:Int}{s:SS}{K:V→Sc→Res}(F:TF t)(hp:s.p<t.length)(hk:∀e' p' bk,Bk t s.p e' p' bk→(K (.tup [.lst (bk.map .str),mk t e']) (sc t {s with p:=p'})).sat Q E):((uu (n+3) mBb [.int i] [] (sc t s)).go K).sat Q E:=by
 have len:=F.len;refine bS (bE (IE 400 (uu (n+2)) (sc t s) i) rfl (bV ?_));refine Ml (n:=n+1) (w:=[]) (p:=s.p) (bk:=[]) (fun m S=>BC 400 (uu (n+2)) S m i [] (mk t s.p) _) F 400 s (.start hp) (by exact d4 ‹_›) fun p' k1 hb=>?_;rw[bO];refine aN (Zn 400 (uu (n+2)) _ _) ?_;exact Ov (n:=n) (p:=s.p) F 400 s.p [] {s with p:=p'} hb (by show t.length-p'<400;have:=hb.rd.le;exact d4 ‹_›) fun e' p2 bk _=>hk e' p2 bk
theorem Ou{p:Nat}(F:TF t):∀(m e:Nat) (k:Int) (bk:List (List Nat)) (s:SS),Bk t p e s.p bk→t.length-s.p<m→(∀e' p' bk k,s.p≤p'→Bk t p e' p' bk→Q (.tup [.lst (bk.map .str),.int k,mk t e']) (sc t {s with p:=p'}))→
  (LP 400 (uu (n+2)) mBn [] 3 m bnK (sl (bnL (bk.map .str) k (mk t e)) (sc t s)) (nxt 400 (uu (n+2)) mBn [] 4 bB)).sat Q E:=by
 intro m
 induction m with
 | zero=>intro e k bk s h h2;have:=h.rd.lt;exact absurd ‹_› (Nat.not_lt_zero _)
 | succ m ih=>
  intro e k bk s h hm hk;have hp:=h.rd.lt;have sm:=h.rd.small F;refine aN (GP 400 (uu (n+2)) (sc t s) m _ k _ _) (bC hp (aH (a:=decide (ch t s.p∈([32,13,10,133,8232,8233]:List Nat))) rfl (aT (fun e1=>?_) fun e1=>?_)))
  ·refine bC hp (aH (a:=!decide (ch t s.p=32)) (yU _ 32) (aT (fun e2=>?_) fun e2=>?_))
   ·have e2:=cK (cO e2)
    have el:isL (ch t s.p)=true:=by
     have:=aI e1;refine bN ?_;simp only[List.mem_cons,List.not_mem_nil,or_false] at this ⊢;exact this.resolve_left e2
    refine gN (n:=n) F hp (fun _=>?_) fun e'=>by rw[el] at e';exact tz e'
    have l1:=cT F el;have l0:=dI t s.p;rw[oB];refine aZ (rR (by rw[kZ];lia)) (bV (s:={s with p:=s.p+aV t s.p}) ?_);exact ih _ k _ {s with p:=s.p+aV t s.p} (h.brk F el) (by show t.length-(s.p+aV t s.p)<m;exact dc ‹_› (by lia) ‹_›) fun e' p' bk k' k1=>hk e' p' bk k' (by have k1:s.p+aV t s.p≤p':=k1;exact zt ‹_›)
   ·have e2:=aI (dE e2)
    have lt:=F.lt (i:=s.p) (by rw[e2];decide);refine eS lt ?_;have go:∀k,(LP 400 (uu (n+2)) mBn [] 3 m bnK (sl (bnL (bk.map .str) k (mk t e)) (sc t {s with p:=s.p+1})) (nxt 400 (uu (n+2)) mBn [] 4 bB)).sat Q E:=fun k=>ih e k bk {s with p:=s.p+1} (h.more e2 lt) (by show t.length-(s.p+1)<m;exact dc ‹_› (by exact aK _) ‹_›) fun e' p' bk k' k1=>hk e' p' bk k' (by have k1:s.p+1≤p':=k1;exact bA ‹_›);exact aT (fun _=>go _) fun _=>go _
  ·rw[bO]
   exact aN (EM 400 (uu (n+2)) (sc t s) _ k _) (hk e s.p bk k (aK _) h)
theorem HA{s:SS}{K:V→Sc→Res}(F:TF t)(hp:s.p<t.length)(hk:∀e' p' bk k,Bk t s.p e' p' bk→(K (.tup [.lst (bk.map .str),.int k,mk t e']) (sc t {s with p:=p'})).sat Q E):((uu (n+3) mBn [] [] (sc t s)).go K).sat Q E:=by
 have len:=F.len;refine bS (bE (IB 400 (uu (n+2)) (sc t s)) rfl (bV ?_));exact Ou (n:=n) (p:=s.p) F 400 s.p 0 [] s (.start hp) (by exact d4 ‹_›) fun e' p' bk k _=>hk e' p' bk k
theorem DT{a e lb l:V}{mi mx ind:Int}{cs bk:List V}{s:SS}{K:Fl→St→Res}(F:TF t)(hp:s.p<t.length)(hk:∀j,s.p+j<t.length→isE (ch t (s.p+j))=true→(K .next (sl (bsM a mi cs bk mx e ind lb l (j:Int)) (sc t s))).sat Q E) :
  (LP 400 (uu (n+1)) mBs [(10,0)] 3 400 Sn (sl (bsM a mi cs bk mx e ind lb l 0) (sc t s)) K).sat Q E:=by
 have len:=F.len;have hs:=jT (t:=t) (Q:=Q) (E:=E) (s:=s) (L:=fun m k S=>LP 400 (uu (n+1)) mBs [(10,0)] 3 m Sn (sl (bsM a mi cs bk mx e ind lb l k) S) K) (K:=fun k S=>K .next (sl (bsM a mi cs bk mx e ind lb l k) S)) (g:=fun v=>aG .NotIn v zE) (test:=fun c=>!isE c) n F (fun m k S=>GR 400 (uu (n+1)) S m a mi mx ind k cs bk e lb l K);exact hs (fun c=>rfl) rfl 400 0 hp (by exact d4 ‹_›) fun j h1 h2 h3 h4=>hk j h2 (dE h4)
structure Bs(t:List Nat)(b e p:Nat)(cs bk:List (List Nat))(lb:List Nat):Prop where
 be:b+1≤e
 le:e≤p
 lt:p<t.length
 sp:∀i,e≤i→i<p→ch t i=32
 so:dF cs.flatten=dF (cut t (b+1) e)
 sbk:dF bk.flatten=[]
 slb:dF lb=[]
 n1:cs.length+bk.length≤3*(p-b)
 n2:cs.flatten.length+bk.flatten.length≤3*(p-b)
 n3:lb.length≤1
theorem Vm{a:V}{b:Nat}{mi mx ind:Int}{K:Fl→St→Res}(F:TF t):∀(m e:Nat) (cs bk:List (List Nat)) (lb:List Nat) (s:SS),Bs t b e s.p cs bk lb→t.length-s.p<m→(∀e' p' cs bk lb,s.p≤p'→Bs t b e' p' cs bk lb→(K .next (sl (bsL a mi (cs.map .str) (bk.map .str) mx (mk t e') ind (.str lb)) (sc t {s with p:=p'}))).sat Q E)→
  (LP 400 (uu (n+3)) mBs [] 10 m bsK (sl (bsL a mi (cs.map .str) (bk.map .str) mx (mk t e) ind (.str lb)) (sc t s)) K).sat Q E:=by
 intro m
 induction m with
 | zero=>intro e cs bk lb s h h2;have:=h.lt;exact absurd ‹_› (Nat.not_lt_zero _)
 | succ m ih=>
  intro e cs bk lb s h hm hk;have len:=F.len;have hp:=h.lt;have n1:=h.n1;have n2:=h.n2;have n3:=h.n3;have hb:=h.be;have hle:=h.le;have bp:=bA (aJ hb hle);have n6:=bb3 n1 hp len;have stop:=hk e s.p cs bk lb (aK _) h;refine aN (l_bs 400 (uu (n+3)) (sc t s) m a mi mx ind _ _ _ _ K) ?_;unfold tIf;rw[cJ];refine aT (fun _=>bC hp (aH (a:=!decide (ch t s.p=0)) (yU _ 0) (aT (fun e0=>?_) fun _=>stop))) fun _=>stop;have e0:=cK (cO e0);refine aZ ?_ (bC hp (aH rfl ?_))
  ·rw[aU,List.length_map,List.length_map]
   refine fX ?_;exact aJ n6 (by decide)
  rw[←List.map_append];refine DT (n:=n+2) F hp fun j j1 j2=>?_;rw[bO];refine aN (EO 400 (uu (n+3)) (sc t s) a mi mx ind _ _ _ _ _ _ _) (dJ hp ?_);rw[iZ];rw[oB];refine aZ (rR (by rw[kZ,aU];exact aJ (Nat.succ_le_succ n6) (by decide))) (jF j1 (by lia) ?_)
  have so1:dF (cs++bk++[cut t s.p (s.p+j)]).flatten=dF (cut t (b+1) (s.p+j)):=by
   rw[cC (show b+1≤s.p by exact aJ ‹_› ‹_›) (bY s.p j),cC hb hle,dX,dX,iT,List.flatten_nil,cA,cW,cW,cW,cW,h.so,h.sbk];rw[jA (l:=cut t e s.p) fun c hc=>by obtain⟨i,i1,i2,_,rfl⟩:=fT hc;exact .inl (h.sp i i1 i2)]
  have next:∀(p1:Nat) (lb':List Nat),s.p+j≤p1→s.p<p1→p1<t.length→dF (cut t (s.p+j) p1)=[]→dF lb'=[]→lb'.length≤1→(c1 (uu (n+3)) mBb (.int ind) (sc t {s with p:=p1}) fun q S=>TA 400 (uu (n+3)) mBs [(10,0)] 7 q (sl (bsM a mi ((cs++bk++[cut t s.p (s.p+j)]).map .str) (bk.map .str) mx (mk t e) ind (.str lb') (.bool (!decide (ch t s.p∈([32,9]:List Nat)))) (j:Int)) S) (aft 400 (uu (n+3)) mBs [] 10 m bsK K)).sat Q E:=by
   intro p1 lb' l1 l2 l3 s1 s2 s3;refine HC (n:=n) (s:={s with p:=p1}) F l3 fun e' p2 bk' B=>?_;have B:Bk t p1 e' p2 bk':=B;have r1:=B.rd.n1;have r2:=B.rd.n2;have r3:=B.rd.le;have r4:=B.le;have r5:=B.le2;have r6:=B.rd.lt
   have cl:(cut t s.p (s.p+j)).length=j:=by rw[iP (by exact bA ‹_›)];exact Nat.add_sub_cancel_left ..
   have N:Bs t b e' p2 (cs++bk++[cut t s.p (s.p+j)]) bk' lb':=by
    refine⟨aJ (Nat.succ_le_of_lt (iS bp l2)) r4,r5,r6,B.sp,?_,B.so,s2,?_,?_,s3⟩
    ·rw[so1,cC (show b+1≤p1 by exact iS ‹_› ‹_›) r4,cC (show b+1≤s.p+j by lia) l1,cW,cW,s1,B.nil,cA,cA]
    ·rw[aU,aU]
     exact aJ (Nat.add_le_add_right (Nat.le_succ _) _) (gg0 n1 bp l2 r1 r3)
    ·rw[dX,dX,iT,List.flatten_nil,cA,aU,aU,cl]
     exact gg2 (l:=0) n2 bp l2 r2 r3 l1 (Nat.zero_le _)
   have stop2:=hk e' p2 _ bk' lb' (by exact aJ (bA ‹_›) ‹_›) N;refine aN (EZ 400 (uu (n+3)) _ a mi mx ind _ _ _ _ _ _ _ _ _) ?_;unfold tIf;rw[cJ]
   have brk:(aft 400 (uu (n+3)) mBs [] 10 m bsK K .brk (sl (bsM a mi ((cs++bk++[cut t s.p (s.p+j)]).map .str) (bk'.map .str) mx (mk t e') ind (.str lb') (.bool (!decide (ch t s.p∈([32,9]:List Nat)))) (j:Int)) (sc t {s with p:=p2}))).sat Q E:=by
    refine aN (r':=K .next (sl (bsL a mi ((cs++bk++[cut t s.p (s.p+j)]).map .str) (bk'.map .str) mx (mk t e') ind (.str lb')) (sc t {s with p:=p2}))) ?_ stop2
    kernel_rfl
   refine aT (fun _=>bC (s:={s with p:=p2}) r6 (aH (a:=!decide (ch t p2=0)) (yU _ 0) (aT (fun _=>?_) fun _=>brk))) fun _=>brk;rw[oB];refine aZ (rR (by rw[kZ,kZ,aU];exact aJ (Nat.succ_le_succ (Nat.succ_le_succ n6)) (by decide))) ?_
   have N2:Bs t b e' p2 (cs++bk++[cut t s.p (s.p+j)]++[lb']) bk' lb':=by
    refine⟨N.be,N.le,N.lt,N.sp,?_,N.sbk,N.slb,?_,?_,s3⟩
    ·rw[dX,iT,List.flatten_nil,cA,cW,s2,cA];exact N.so
    ·rw[aU,aU,aU]
     exact gg0 n1 bp l2 r1 r3
    ·rw[dX,dX,dX,iT,List.flatten_nil,cA,iT,List.flatten_nil,cA,aU,aU,aU,cl]
     exact gg2 n2 bp l2 r2 r3 l1 s3
   refine aN (r':=LP 400 (uu (n+3)) mBs [] 10 m bsK (sl (bsL a mi ((cs++bk++[cut t s.p (s.p+j)]++[lb']).map .str) (bk'.map .str) mx (mk t e') ind (.str lb')) (sc t {s with p:=p2})) K) ?_ (ih e' _ bk' lb' {s with p:=p2} N2 (dc hm (jI l2 r3) hp) fun e2 p3 cs bk lb k1=>hk e2 p3 cs bk lb (by have k1:p2≤p3:=k1;lia))
   kernel_rfl
  refine gN (n:=n+1) (s:={s with p:=s.p+j}) F j1 (fun e1=>?_) fun e1=>?_
  ·have e1:isL (ch t (s.p+j))=true:=e1
   have l1:=cT F e1;have l0:=dI t (s.p+j);refine next (s.p+j+aV t (s.p+j)) [lbv (ch t (s.p+j))] (bY _ _) (by exact zv ‹_›) l1 ?_ (jA fun c hc=>.inr (by rw[cG hc];exact Gg e1)) (aK _);exact (Bk.brk F (.start j1) e1).nil
  ·have j0:0<j:=by
    rcases Nat.eq_zero_or_pos j with y|y
    ·rw[y] at j2 e1
     rcases Ea j2 with z|z
     ·exact absurd z e0
     ·have e1:isL (ch t (s.p+0))=false:=e1
      rw[z] at e1;exact tz e1
    ·exact y
   exact next (s.p+j) [] (aK _) (by lia) j1 (by rw[cY];rfl) rfl (Nat.zero_le _)
theorem s_bs{s:SS}(F:TF t)(hc:ch t s.p=124):SQ t s (uu (n+4) mBs [vs "|"] [] (sc t s)):=by
 have len:=F.len;have c1:=F.bar _ hc;have lt:=F.lt (i:=s.p) (by rw[hc];decide);have l2:=F.lt (i:=s.p+1) (by rw[c1];decide);refine bE (e_bs 400 (uu (n+3)) (sc t s)) rfl (bV (eS lt ?_));refine bS (bE (ID 400 (uu (n+2)) (sc t {s with p:=s.p+1}) _) rfl (bC (s:={s with p:=s.p+1}) lt ?_));dsimp only;rw[c1];refine aH (a:=false) rfl (aQ rfl (aH (a:=false) rfl (aQ rfl (bC (s:={s with p:=s.p+1}) lt ?_))));dsimp only;rw[c1];refine aH (a:=false) rfl (aQ rfl (AC ?_));refine aN (FA 400 (uu (n+3)) _ _) ?_
 refine HB (n:=n) (s:={s with p:=s.p+1}) F lt (by show isE (ch t (s.p+1))=true;rw[c1];rfl) (fun _=>?_) fun z=>by have z:ch t (s.p+1)=0:=z;rw[c1] at z;cases z
 have hl:isL (ch t (s.p+1))=true:=by rw[c1];rfl
 have l1:=cT F hl;have l0:=dI t (s.p+1);dsimp only
 have rest:∀mi:Int,SQ t s (c0 (uu (n+3)) mBn (sc t {s with p:=s.p+1+aV t (s.p+1)}) fun q S=>TA 400 (uu (n+3)) mBs [(8,0)] 0 q (sl (bsB (mk t s.p) mi) S) (nxt 400 (uu (n+3)) mBs [] 9 bB)):=by
  intro mi;refine HA (n:=n) (s:={s with p:=s.p+1+aV t (s.p+1)}) F l1 fun e p' bk mx B=>?_;have B:Bk t (s.p+1+aV t (s.p+1)) e p' bk:=B;have r1:=B.rd.n1;have r2:=B.rd.n2;have r3:=B.rd.le;have r4:=B.le;have r5:=B.le2;have r6:=B.rd.lt;refine aN (EY 400 (uu (n+3)) _ _ mi mx _ _) ?_;refine Vm (n:=n) (b:=s.p) (cs:=[]) (lb:=[]) F 400 e _ {s with p:=p'} ⟨by exact zt ‹_›,r5,r6,B.sp,?_,B.so,rfl,ss0 (q:=1+aV t (s.p+1)) (by rw[←Nat.add_assoc];exact r1),ss0 (q:=1+aV t (s.p+1)) (by rw[←Nat.add_assoc];exact r2),Nat.zero_le _⟩ (by show t.length-p'<400;exact d4 ‹_›) fun e' p2 cs bk lb k1 N=>?_
  ·rw[cC (show s.p+1≤s.p+1+aV t (s.p+1) by exact bY _ _) r4,cW,B.nil,cA]
   exact (Bk.brk F (.start lt) hl).nil.symm
  ·rw[bO]
   have a1:=N.n1;have a2:=N.n2;have a3:=N.n3;have a4:=N.be;have a5:=N.le;have a6:=N.lt;have k1:p'≤p2:=k1
   have em:cs.map V.str++[.str lb]=(cs++[lb]).map .str:=by rw[List.map_append];rfl
   refine aN (Zo 400 (uu (n+3)) _ _ mi mx _ _ _ _ _) (aZ ?_ ?_)
   ·rw[em,List.length_map,aU]
    refine fX ?_;exact aJ (Nat.succ_le_succ (aJ (bY _ _) (bb3 a1 a6 len))) (by decide)
   ·rw[em]
    refine aH (mJ ?_) ?_
    ·rw[dX,iT,List.flatten_nil,cA,aU];exact aJ (Nat.add_le_add (aJ (bY ..) (bb3 a2 a6 len)) a3) (by decide)
    ·refine⟨.sca (cs++[lb]).flatten false [124] s.p e',p2,s.allow,rfl,rfl,rfl,by show s.p≤e';exact bA ‹_›,by exact aJ ‹_› ‹_›,a6,.inr (.inl ⟨rfl,rfl,cut t (s.p+1) e',?_,?_,?_⟩),fun z=>absurd (show (0:Nat)=2 from z) (by decide),⟨a5,fun z=>absurd (show (0:Nat)=2 from z) (by decide),jH N.sp _⟩,by show (0:Nat)≠1;decide,rfl,rfl⟩
     ·show cut t s.p e'=_
      rw[fW (by assumption) (by exact bA ‹_›),hc]
     ·rw[dX,iT,List.flatten_nil,cA,cW,N.slb,cA];exact N.so
     ·rw[dX,iT,List.flatten_nil,cA,aU];exact aJ (Nat.add_le_add (aJ (bY ..) (bb3 a2 a6 len)) a3) (by decide)
 exact aT (fun _=>rest _) fun _=>rest _
theorem HG{s:SS}(F:TF t)(h:J t g s 0)(hd:s.done=false)(hc:ch t s.p=124):FQ t g s (uu (n+6) "fetch_literal" [] [] (sc t s)):=by
 refine bE (HO 400 (uu (n+5)) (sc t s)) rfl (bS ?_);refine aN (Ro 400 (uu (n+4)) (sc t s) _) (bE (Xe 400 (uu (n+4)) (sc t s) _) rfl ?_);refine iH (n:=n+2) (s:={s with allow:=true}) ?_ fun e q=>⟨s.p,q,aK _,h.plt⟩;refine dG (mA (t:=t) (s:=s) (r:=fun S=>uu (n+4) mBs [vs "|"] [] S) (ks:=dY s.flow s.ks) (a:=true) F h hd (by rw[hc];decide) (h.ord.sublist dM) (fun x hx=>⟨(h.delKey x hx).1,.inl (h.delKey x hx).2.2⟩) fun s2 e2 e3=>s_bs (n:=n) F (by rw[e2];exact hc)) (fun _ _ z=>z) fun _ z=>z
end
section
variable{t:List Nat}{n:Nat}{Q:V→Sc→Prop}{E:V→Prop}{s:SS}{g:List Tk}
theorem Uy:∀{ks:List Ky} {lo N:Nat},Ord ks→(∀k∈ks,lo≤k.i∧k.i<N)→lo≤N→ks.length+lo≤N:=by
 intro ks
 induction ks with
 | nil=>intro lo N _ _ h;show 0+lo≤N;lia
 | cons k r ih=>
  intro lo N o h l;refine aE (List.pairwise_cons.mp o) fun o1 o2=>?_;have h1:=h k (.head _);have:=ih (lo:=k.i+1) (N:=N) o2 (fun j hj=>⟨(o1 j hj).2,(h j (.tail _ hj)).2⟩) h1.2;show r.length+1+lo≤N;lia
theorem J.keys{c:Nat}(F:TF t)(h:J t g s c)(cc:c≤100):s.ks.length≤9000:=by
 have h1:=Uy (lo:=0) (N:=(g++s.ts).length) h.ord (fun k hk=>by
  obtain⟨_,_,_,q,e,_⟩:=h.key k hk
  exact⟨Nat.zero_le _,(List.getElem?_eq_some_iff.mp e).1⟩) (Nat.zero_le _)
 have h2:=h.pot;have h3:=h.tk;have h4:=F.wt;rw[aU] at h1;lia
theorem GG{p:Nat}(h:ch t p=10):(lc t (p+1)).2=0:=by
 show (lC (ch t p) (ch t (p+1)) (lc t p)).2=0;rw[h];rfl
theorem Tz{c:Nat}(h:Hn c)(h0:c≠0):1≤wgt c:=by
 unfold wgt
 cases decide (c=58) with
 | true=>show 1≤4;exact Nat.succ_pos _
 | false=>
  cases (decide (c=45)||decide (c=63)) with
  | true=>show 1≤3;exact Nat.succ_pos _
  | false=>rw[cE h.1,cE h0,h.2.2];exact aK _
theorem ED{α:Type}{a:α}{k:α→Res}:O1 (some a) k=k a:=rfl
theorem lL{v:V}{S:Sc}{k:V→Sc→Res}:(Res.ok v S).go k=k v S:=rfl
theorem yF{r:Res}:(r.go fun v S=>.ok v S)=r:=by cases r<;>rfl
theorem tX{f:Str→MFn}{c d:Nat}{x m:Str}{S:Sc}{r:Sc→Res}(hx:vs x = .str [d])(h1:c=d→(f m [] [] S).sat Q E)(h2:c≠d→(r S).sat Q E):(mB f (.str [c]) x m S r).sat Q E:=by
 unfold mB;rw[hx];refine aH (eW _ _) (aT (fun e=>?_) fun e=>h2 (cK e));show Res.sat ((f m [] [] S).go fun v S=>.ok v S) Q E;rw[yF];exact h1 (aI e)
theorem Kz{f:Str→MFn}{c d:Nat}{x k m:Str}{S:Sc}{r:Sc→Res}{b:Bool}{v:V}(hx:vs x = .str [d])(hk:c=d→f k [] [] S = .ok v S)(hv:cF v=some b)(h1:c=d→b=true→(f m [] [] S).sat Q E)(h2:(c=d→b=false)→(r S).sat Q E):(mC f (.str [c]) x k m S r).sat Q E:=by
 unfold mC tIf;rw[hx,cJ];refine aH (eW _ _) (aT (fun e=>?_) fun e=>h2 fun z=>absurd z (cK e));have e:=aI e;show Res.sat ((f k [] [] S).go _) Q E;rw[hk e];refine aH hv (aT (fun z=>?_) fun z=>h2 fun _=>z);show Res.sat ((f m [] [] S).go fun v S=>.ok v S) Q E;rw[yF];exact h1 e z
theorem IN:uu (n+2) "check_directive" [] [] (sc t s) = .ok (match decide ((lc t s.p).2=0) with|true=>.bool true|false=>.none) (sc t s):=by
 refine (Rm 400 (uu (n+1)) (sc t s)).trans ?_;show onB (decide ((lc t s.p).2=0)) _ _=_
 cases decide ((lc t s.p).2=0)<;>rfl
theorem yT(lt:s.p+1<t.length):(c1 (uu (n+1)) "peek" (.int 1) (sc t s) fun v S=>O1 (aG .In v zB) fun b=>.ok (.bool b) S) = .ok (.bool (isB (ch t (s.p+1)))) (sc t s):=by
 show (uu (n+1) "peek" [.int ((1:Nat):Int)] [] (sc t s)).go _=_;rw[rV lt];rfl
theorem c_be(lt:s.p+1<t.length):uu (n+2) "check_block_entry" [] [] (sc t s) = .ok (.bool (isB (ch t (s.p+1)))) (sc t s):=(Xc 400 (uu (n+1)) (sc t s)).trans (yT lt)
theorem IM(lt:s.p+1<t.length):uu (n+2) "check_key" [] [] (sc t s) = .ok (.bool (!decide (s.flow=0)||isB (ch t (s.p+1)))) (sc t s):=by
 refine (Rl 400 (uu (n+1)) (sc t s)).trans ?_;rw[yT lt];show onB (!decide (s.flow=0)) _ _=_
 cases decide (s.flow=0)<;>rfl
theorem IL(lt:s.p+1<t.length):uu (n+2) "check_value" [] [] (sc t s) = .ok (.bool (!decide (s.flow=0)||isB (ch t (s.p+1)))) (sc t s):=by
 refine (Rk 400 (uu (n+1)) (sc t s)).trans ?_;rw[yT lt];show onB (!decide (s.flow=0)) _ _=_
 cases decide (s.flow=0)<;>rfl
theorem Za{m:Str}{a:Nat}{x:Str}(F:TF t)(hx:vs x = .str [a,a,a])(ha:a≠0)(hp:s.p<t.length)(e:uu (n+2) m [] [] (sc t s)=onB (decide ((sc t s).col=0)) (tIf (gO (pf (uu (n+1)) 3 fun v=>aG .Eq v (vs x)) (pk (uu (n+1)) 3 fun v=>aG .In v zB)) (sc t s) (fun S=>.ok (.bool true) S) ok0) (ok0 (sc t s))) :
  ∃b,uu (n+2) m [] [] (sc t s) = .ok (match b with|true=>.bool true|false=>.none) (sc t s)∧(b=true→s.p+3<t.length∧cut t s.p (s.p+3)=[a,a,a]):=by
 rw[e];unfold tIf;rw[cJ]
 cases (decide ((sc t s).col=0)) with
 | false=>exact⟨false,rfl,fun z=>by exact bx z⟩
 | true=>
  rw[eP];show ∃b,(uu (n+1) "prefix" [.int ((3:Nat):Int)] [] (sc t s)).go _=_∧_;rw[zK hp];rw[lL,hx];dsimp only;rw[cEq];dsimp only[aX]
  cases h:decide ((t.drop s.p).take 3=[a,a,a]) with
  | false=>exact⟨false,rfl,fun z=>by exact bx z⟩
  | true=>
   have T:=Xz F (aI h) ha hp;refine⟨isB (ch t (s.p+3)),?_,fun _=>T⟩;rw[eP];show (uu (n+1) "peek" [.int ((3:Nat):Int)] [] (sc t s)).go _=_;rw[rV T.1,lL];dsimp only;rw[show aG .In (.str [ch t (s.p+3)]) zB=some (isB (ch t (s.p+3))) from rfl,aX]
   cases isB (ch t (s.p+3))<;>rfl
theorem Xj(hp:s.p<t.length)(lt:s.p+1<t.length):uu (n+2) "check_plain" [] [] (sc t s) = .ok (.bool (!decide (ch t s.p∈([0,32,9,13,10,133,8232,8233,45,63,58,44,91,93,123,125,35,38,42,33,124,62,39,34,37,64,96]:List Nat))||(!isB (ch t (s.p+1))&&(decide (ch t s.p=45)||(decide (s.flow=0)&&decide (ch t s.p∈([63,58]:List Nat))))))) (sc t s):=by
 refine (Wz 400 (uu (n+1)) (sc t s)).trans ?_;show (uu (n+1) "peek" [] [] (sc t s)).go _=_;rw[Fc hp,lL,show aG .NotIn (.str [ch t s.p]) zP=some (!decide (ch t s.p∈([0,32,9,13,10,133,8232,8233,45,63,58,44,91,93,123,125,35,38,42,33,124,62,39,34,37,64,96]:List Nat))) from rfl,ED]
 cases (!decide (ch t s.p∈([0,32,9,13,10,133,8232,8233,45,63,58,44,91,93,123,125,35,38,42,33,124,62,39,34,37,64,96]:List Nat))) with
 | true=>rfl
 | false=>
  rw[bI];show (uu (n+1) "peek" [.int ((1:Nat):Int)] [] (sc t s)).go _=_;rw[rV lt,lL,show aG .NotIn (.str [ch t (s.p+1)]) zB=some (!isB (ch t (s.p+1))) from rfl,ED]
  cases isB (ch t (s.p+1)) with
  | true=>rfl
  | false=>
   rw[show aG .Eq (.str [ch t s.p]) (vs "-")=some (decide (ch t s.p=45)) from eW _ 45];dsimp only[aX,ED]
   cases decide (ch t s.p=45) with
   | true=>rfl
   | false=>
    show onB (!(!(!decide (s.flow=0)))) (Res.ok (.bool (!(!decide (s.flow=0)))) (sc t s)) _=_
    cases decide (s.flow=0)<;>rfl
theorem Lb{p:Nat}{flow:Int}(h1:isB (ch t p)=false)(h2:ch t p=58→flow=0∧isB (ch t (p+1))=false)(h3:ch t p∈([44,63,91,93,123,125]:List Nat)→flow=0):¬dC t p flow:=fun h=>by
 rcases h with h|⟨h,h'|h'⟩|⟨h,h'⟩
 ·rw[h1] at h;exact bx h
 ·rw[(h2 h).2] at h';exact bx h'
 ·exact h'.1 (h2 h).1
 ·exact h (h3 h')
set_option maxHeartbeats 1000000 in
theorem BX(F:TF t)(h:J t g s 0)(hd:s.done=false)(so:Hn (ch t s.p)) :
  FQ t g s (c0 (uu (n+7)) "peek" (sc t s) fun ch S=>mB (uu (n+7)) ch "\x00" "fetch_stream_end" S fun S=>mC (uu (n+7)) ch "%" "check_directive" "fetch_directive" S fun S=>mC (uu (n+7)) ch "-" "check_document_start" "fetch_document_start" S fun S=>mC (uu (n+7)) ch "." "check_document_end" "fetch_document_end" S fun S=>
 mB (uu (n+7)) ch "[" "fetch_flow_sequence_start" S fun S=>mB (uu (n+7)) ch "{" "fetch_flow_mapping_start" S fun S=>mB (uu (n+7)) ch "]" "fetch_flow_sequence_end" S fun S=>mB (uu (n+7)) ch "}" "fetch_flow_mapping_end" S fun S=>mB (uu (n+7)) ch "," "fetch_flow_entry" S fun S=>
 mC (uu (n+7)) ch "-" "check_block_entry" "fetch_block_entry" S fun S=>mC (uu (n+7)) ch "?" "check_key" "fetch_key" S fun S=>mC (uu (n+7)) ch ":" "check_value" "fetch_value" S fun S=>mB (uu (n+7)) ch "*" "fetch_alias" S fun S=>mB (uu (n+7)) ch "&" "fetch_anchor" S fun S=>mB (uu (n+7)) ch "!" "fetch_tag" S fun S=>
 mF (uu (n+7)) ch "|" "fetch_literal" S fun S=>tIf (gO (tC (aG .Eq ch (vs ">"))) (fun S K=>K (!(!decide (S.flow=0))) S)) S (fun _=>.bad) fun S=>mB (uu (n+7)) ch "'" "fetch_single" S fun S=>mB (uu (n+7)) ch "\"" "fetch_double" S fun S=>tIf (tM fun S=>uu (n+7) "check_plain" [] [] S) S (Jk (uu (n+7)) "fetch_plain") fun S=>
 O1 (hE (.str mK) ch) fun m=>c0 (uu (n+7)) "get_mark" S fun e _=>.err (nF (vs "while scanning for the next token") .none m e)):=by
 have hp:=h.plt;have hk:=h.keys F (by exact Nat.zero_le _);refine bC (n:=n+6) hp ?_;refine tX (d:=0) rfl (fun e=>BW (n:=n+4) F h hd e) fun n0=>?_;have lt:=F.lt n0;have hw:=Tz so n0;refine Kz (d:=37) (v:=.bool true) (b:=true) rfl (fun e=>?_) rfl (fun e _=>HI (n:=n+2) F h hd e) fun np=>?_
 ·obtain⟨_,_,j,e1,e2⟩:=F.pct _ e
  have z:(lc t s.p).2=0:=by rw[e1];exact GG e2
  rw[IN (n:=n+5),z];rfl
 refine aB (Za (n:=n+5) (s:=s) (m := "check_document_start") (x := "---") (a:=45) F rfl (by decide) hp (Xa 400 (uu (n+6)) (sc t s))) fun b1 k1 k2=>?_;refine Kz (d:=45) (b:=b1) rfl (fun _=>k1) (by cases b1<;>rfl) (fun e z=>Yw (n:=n+3) (.inl ⟨rfl,rfl⟩) F h hd (k2 z).1 (k2 z).2 hw) fun _=>?_;refine aB (Za (n:=n+5) (s:=s) (m := "check_document_end") (x := "...") (a:=46) F rfl (by decide) hp (Xb 400 (uu (n+6)) (sc t s))) fun b2 k3 k4=>?_;refine Kz (d:=46) (b:=b2) rfl (fun _=>k3) (by cases b2<;>rfl) (fun e z=>Yw (n:=n+3) (.inr ⟨rfl,rfl⟩) F h hd (k4 z).1 (k4 z).2 hw) fun _=>?_;refine tX (d:=91) rfl (fun e=>yI (n:=n+2) (.inl ⟨rfl,rfl⟩) F h hd lt hk (by rw[e];rfl) hw) fun n1=>?_;refine tX (d:=123) rfl (fun e=>yI (n:=n+2) (.inr (.inl ⟨rfl,rfl⟩)) F h hd lt hk (by rw[e];rfl) hw) fun n2=>?_;refine tX (d:=93) rfl (fun e=>yI (n:=n+2) (.inr (.inr (.inl ⟨rfl,rfl⟩))) F h hd lt hk (by rw[e];rfl) hw) fun n3=>?_;refine tX (d:=125) rfl (fun e=>yI (n:=n+2) (.inr (.inr (.inr ⟨rfl,rfl⟩))) F h hd lt hk (by rw[e];rfl) hw) fun n4=>?_;refine tX (d:=44) rfl (fun e=>BY (n:=n+4) F h hd lt e) fun n5=>?_;refine Kz (d:=45) (v:=.bool (isB (ch t (s.p+1)))) (b:=isB (ch t (s.p+1))) rfl (fun _=>c_be (n:=n+5) lt) rfl (fun e _=>CA (n:=n+4) F h hd lt e) fun nb=>?_;refine Kz (d:=63) (v:=.bool (!decide (s.flow=0)||isB (ch t (s.p+1)))) (b:=!decide (s.flow=0)||isB (ch t (s.p+1))) rfl (fun _=>IM (n:=n+5) lt) rfl (fun e _=>HH (n:=n+4) F h hd lt e) fun nk=>?_;refine Kz (d:=58) (v:=.bool (!decide (s.flow=0)||isB (ch t (s.p+1)))) (b:=!decide (s.flow=0)||isB (ch t (s.p+1))) rfl (fun _=>IL (n:=n+5) lt) rfl (fun e _=>Wh (n:=n+4) F h hd lt e) fun nv=>?_;refine tX (d:=42) rfl (fun e=>Qx (n:=n+3) (.inl ⟨rfl,e⟩) F h hd hk) fun n6=>?_;refine tX (d:=38) rfl (fun e=>Qx (n:=n+3) (.inr ⟨rfl,e⟩) F h hd hk) fun n7=>?_;refine tX (d:=33) rfl (fun e=>HF (n:=n+3) F h hd hk e) fun n8=>?_;unfold mF tIf;rw[cJ]
 have rest:(ch t s.p=124→s.flow≠0)→FQ t g s (gO (tC (aG .Eq (.str [ch t s.p]) (vs ">"))) (fun S K=>K (!(!decide (S.flow=0))) S) (sc t s) fun b S=>onB b .bad (mB (uu (n+7)) (.str [ch t s.p]) "'" "fetch_single" S fun S=>mB (uu (n+7)) (.str [ch t s.p]) "\"" "fetch_double" S fun S=>tM (fun S=>uu (n+7) "check_plain" [] [] S) S fun b S=>onB b (Jk (uu (n+7)) "fetch_plain" S)
   (O1 (hE (.str mK) (.str [ch t s.p])) fun m=>c0 (uu (n+7)) "get_mark" S fun e _=>.err (nF (vs "while scanning for the next token") .none m e)))):=by
  intro nf;rw[cJ];refine aH (a:=decide (ch t s.p=62)) (eW _ 62) (aQ (cE fun z=>F.notabs z (by decide)) (aQ rfl ?_));refine tX (d:=39) rfl (fun e=>Gu (n:=n) (.inl ⟨rfl,rfl⟩) F h hd hk e) fun n9=>?_;refine tX (d:=34) rfl (fun e=>Gu (n:=n) (.inr ⟨rfl,rfl⟩) F h hd hk e) fun n10=>?_
  have nB:isB (ch t s.p)=false:=by
   cases q:isB (ch t s.p) with
   | false=>rfl
   | true=>
    rcases pY q with z|z|z
    ·exact absurd z n0
    ·have:=aI z
     simp only[List.mem_cons,List.not_mem_nil,or_false] at this
     rcases this with y|y
     ·exact absurd y so.1
     ·exact (F.notabs y (by decide)).elim
    ·rw[so.2.2] at z;exact bx z
  have ne:¬dC t s.p s.flow:=Lb nB (fun e=>by
   refine aE (Bool.or_eq_false_iff.mp (nv e)) fun y1 y2=>?_
   exact⟨aI (dE y1),y2⟩) fun e=>by
   simp only[List.mem_cons,List.not_mem_nil,or_false] at e
   rcases e with z|z|z|z|z|z
   ·exact absurd z n5
   ·exact aI (dE (Bool.or_eq_false_iff.mp (nk z)).1)
   ·exact absurd z n1
   ·exact absurd z n3
   ·exact absurd z n2
   ·exact absurd z n4
  show Res.sat ((uu (n+7) "check_plain" [] [] (sc t s)).go _) _ _;rw[Xj (n:=n+5) hp lt];refine aH rfl (aT (fun _=>?_) fun hb=>?_)
  ·show Res.sat ((uu (n+7) "fetch_plain" [] [] (sc t s)).go fun v S=>.ok v S) _ _
   rw[yF];exact Wi (n:=n+2) F h hd hk hw so.2.1 ne
  ·refine aE (Bool.or_eq_false_iff.mp hb) fun y1 y2=>?_
   have y1:=aI (dE y1)
   have nx:isB (ch t (s.p+1))=false→ch t s.p=45∨(s.flow=0∧(ch t s.p=63∨ch t s.p=58))→False:=fun z y=>by
    rw[z] at y2;have y2:(decide (ch t s.p=45)||(decide (s.flow=0)&&decide (ch t s.p∈([63,58]:List Nat))))=false:=y2;refine aE (Bool.or_eq_false_iff.mp y2) fun x1 x2=>?_
    rcases y with y|⟨y,y'⟩
    ·rw[y] at x1;exact tz x1
    ·rw[bN y] at x2
     have x2:=cK (show decide (ch t s.p∈([63,58]:List Nat))=false from x2);refine x2 ?_;simp only[List.mem_cons,List.not_mem_nil,or_false];exact y'
   have c124:ch t s.p=124:=by
    simp only[List.mem_cons,List.not_mem_nil,or_false] at y1
    rcases y1 with z|z|z|z|z|z|z|z|z|z|z|z|z|z|z|z|z|z|z|z|z|z|z|z|z|z|z
    ·exact absurd z n0
    ·exact absurd z so.1
    ·exact (F.notabs z (by decide)).elim
    iterate 5 (rw[z] at nB;exact tz nB)
    ·exact (nx (nb z) (.inl z)).elim
    ·refine aE (Bool.or_eq_false_iff.mp (nk z)) fun x1 x2=>?_
     exact (nx x2 (.inr ⟨aI (dE x1),.inl z⟩)).elim
    ·refine aE (Bool.or_eq_false_iff.mp (nv z)) fun x1 x2=>?_
     exact (nx x2 (.inr ⟨aI (dE x1),.inr z⟩)).elim
    ·exact absurd z n5
    ·exact absurd z n1
    ·exact absurd z n3
    ·exact absurd z n2
    ·exact absurd z n4
    ·exact absurd z so.2.1
    ·exact absurd z n7
    ·exact absurd z n6
    ·exact absurd z n8
    ·exact z
    ·exact (F.notabs z (by decide)).elim
    ·exact absurd z n9
    ·exact absurd z n10
    ·cases np z
    ·exact (F.notabs z (by decide)).elim
    ·exact (F.notabs z (by decide)).elim
   rw[c124];exact aH (a:=.any) rfl (bV (n:=n+6) ⟨s.p,⟨_,_,_,rfl⟩,aK _,hp⟩)
 refine aH (a:=decide (ch t s.p=124)) (eW _ 124) (aT (fun e=>?_) fun e=>?_)
 ·have e:=aI e
  refine aT (fun _=>?_) fun e2=>?_
  ·show Res.sat ((uu (n+7) "fetch_literal" [] [] (sc t s)).go fun v S=>.ok v S) _ _
   rw[yF];exact HG (n:=n+1) F h hd e
  ·have e2:decide (s.flow=0)=false:=by
    have e2:(!(!decide (s.flow=0)))=false:=e2;rw[Bool.not_not] at e2;exact e2
   exact rest fun _=>cK e2
 ·exact rest fun z=>absurd z (cK e)
noncomputable def st1:SS:=⟨0,false,0,[],1,-1,[],true,[]⟩
noncomputable def Rdy(t:List Nat)(g:List Tk)(s:SS):Prop:=J t g s 0∨(g=[]∧s=st1)
theorem tI(t:List Nat):(ls0 t).last=ep t 0:=by
 unfold ls0 ep
 cases decide (ch t 0=65279)<;>rfl
theorem Ra{q:Nat}(l:ep t 0≤q):ep t q=q:=by
 rcases Nat.eq_zero_or_pos q with z|z
 ·exact yL (p:=0) (Nat.le_antisymm (by lia) (Yx t 0)) (Nat.zero_le _)
 ·unfold ep
  rw[cE (by lia)];rfl
theorem Rdy.next{q:Nat}{a:Bool}(h:Rdy t g s)(hd:s.done=false)(l:ep t s.p≤q)(hq:q<t.length)(b:eR t (ep t s.p) q):J t g {s with p:=q,allow:=a} 0:=by
 rcases h with h|⟨rfl,rfl⟩
 ·rw[h.pos] at l b
  exact h.skip hd l hq b
 ·have l:ep t 0≤q:=l
  have b:eR t (ep t 0) q:=b;refine⟨⟨trivial,⟨by show (ls0 t).last≤q;rw[tI];exact l,fun z=>absurd (show (0:Nat)=2 from z) (by decide),?_⟩,rfl,rfl,⟨fun z=>absurd (show (0:Nat)=1 from z) (by decide),fun z=>by exact bx z⟩⟩,hq,Ra l,rfl,.nil,List.Pairwise.nil,(fun _ hx=>nomatch hx),?_,fun z=>by exact bx z⟩
  ·show ∃r,fJ _ (cut t (ls0 t).last q)=some r
   rw[tI];exact b _
  ·have:=rF (t:=t) (Nat.zero_le q)
   show 1+0+0+wt t q+1≤wt t 0+2+0;lia
theorem Rdy.plt(F:TF t)(h:Rdy t g s):s.p<t.length:=by
 rcases h with h|⟨_,rfl⟩
 ·exact h.plt
 ·exact F.pos
theorem Wj(F:TF t)(h:Rdy t g s)(hd:s.done=false):(uu (n+8) "fetch_more_tokens" [] [] (sc t s)).sat (fun _ S=>∃s',S=sc t s'∧J t g s' 0∧(s.p<s'.p∨s'.done=true)) (EP t (ep t s.p)):=by
 refine bE (Wu 400 (uu (n+7)) (sc t s)) rfl ?_;refine Qo (n:=n+4) F (h.plt F) fun q a l hq b so _=>?_;have h1:=h.next (a:=a) hd l hq b;have eq:∀e,iL t q e→EP t (ep t s.p) e:=fun e z=>⟨q,z,l,hq⟩;refine Gq (n:=n+5) (s:={s with p:=q,allow:=a}) F hq h1.ord (fun k hk=>(h1.key k hk).2.2.1) ?_ fun _ _ _=>eq;have h2:=h1.stale (fresh t q);refine oM (n:=n+5) (c:=0) (s:={s with p:=q,allow:=a,ks:=s.ks.filter (fresh t q)}) F (by have:=AX t q;show -1≤(lc t q).2;lia) (by exact Nat.zero_le _) h2 hd fun s3 h3 e3 _=>?_
 have ep3:s3.p=q:=by rw[e3]
 have lp:=Yx t s.p;refine dG (BX (n:=n) F h3 (by rw[e3];exact hd) (by rw[ep3];exact so)) (fun v S z=>?_) fun e z=>?_
 ·refine fA z fun s' z1 z2 z3=>?_;clear z
  exact⟨s',z1,z2,z3.imp (fun z=>by rw[ep3] at z;lia) id⟩
 ·refine fA z fun i z1 z2 z3=>?_;clear z
  exact⟨i,z1,by rw[ep3] at z2;exact aJ ‹_› ‹_›,z3⟩
theorem nK{K:V→Sc→Res}(F:TF t)(h:Rdy t g s)(h0:s.done=true→(K (.bool false) (sc t s)).sat Q E)(h1:s.done=false→s.ts=[]→(K (.bool true) (sc t s)).sat Q E)
  (h2:s.done=false→s.ts≠[]→J t g s 0→∀b,(b=true↔∃k r,s.ks.filter (fresh t s.p)=k::r∧k.i=g.length)→(K (match b with|true=>.bool true|false=>.none) (sc t {s with ks:=s.ks.filter (fresh t s.p)})).sat Q E) (he:∀k∈s.ks,fresh t s.p k=false→∀e,iL t s.p e→E e) :
  ((uu (n+3) "need_more_tokens" [] [] (sc t s)).go K).sat Q E:=by
 refine bS (bE (Ei 400 (uu (n+2)) (sc t s)) rfl (aT (fun e=>h0 e) fun e=>?_));have e:s.done=false:=e;refine aT (fun z=>?_) fun z=>?_
 ·refine h1 e ?_
  have z:(!!bU (s.ts.map (tkV t)))=true:=z;rw[Bool.not_not] at z;exact List.map_eq_nil_iff.mp (gK z)
 ·have ne:s.ts≠[]:=fun y=>by
   have z:(!!bU (s.ts.map (tkV t)))=false:=z;rw[y] at z;exact tz z
  have hj:J t g s 0:=by
   rcases h with h|⟨_,rfl⟩
   ·exact h
   ·exact absurd rfl ne
  refine Gq (n:=n) F hj.plt hj.ord (fun k hk=>(hj.key k hk).2.2.1) ?_ he;refine Kx (n:=n) (s:={s with ks:=s.ks.filter (fresh t s.p)}) (hj.stale (fresh t s.p)).ord ?_;have fin:=h2 e ne hj;dsimp only
  cases hk:s.ks.filter (fresh t s.p) with
  | nil=>
   rw[hk] at fin;refine aH (a:=false) rfl (aQ rfl (fin false ⟨fun y=>(by exact bx y),fun ⟨k,r,y,_⟩=>(by cases y)⟩))
  | cons k r=>
   rw[hk] at fin;refine aH (a:=decide ((k.i:Int)+1=(s.taken:Int))) rfl (aT (fun y=>?_) fun y=>?_)
   ·have y:=aI y
    exact fin true ⟨fun _=>⟨k,r,rfl,by have:=hj.tk;exact Nat.le_antisymm (by lia) (by lia)⟩,fun _=>rfl⟩
   ·have y:=cK y
    exact fin false ⟨fun y=>(by exact bx y),fun ⟨k',r',y1,y2⟩=>by cases y1;have:=hj.tk;lia⟩
noncomputable def FL(n:Nat):Nat→Sc→Res
 | 0,_=>.bad
 | m+1,S=>c0 (uu (n+8)) "need_more_tokens" S fun v S=>O1 (cF v) fun b=>onB b (c0 (uu (n+8)) "fetch_more_tokens" S fun _ S=>FL n m S) (ok0 S)
theorem Bp{r:Res}{f k:V→Sc→Res}:(r.go f).go k=r.go fun v S=>(f v S).go k:=by cases r<;>rfl
theorem To{L:Nat→Sc→Res}{K:Sc→Res}(h0:∀S,L 0 S = .bad)(hs:∀m S,L (m+1) S=c0 (uu (n+8)) "need_more_tokens" S fun v S=>O1 (cF v) fun b=>onB b (c0 (uu (n+8)) "fetch_more_tokens" S fun _ S=>L m S) (K S)):∀m S,L m S=(FL n m S).go fun _ S=>K S:=by
 intro m
 induction m with
 | zero=>intro S;rw[h0];rfl
 | succ m ih=>
  intro S;rw[hs];show _=Res.go (Res.go _ _) _;rw[Bp]
  congr 1
  funext v S
  cases cF v with
  | none=>rfl
  | some b=>cases b with
   | false=>rfl
   | true=>
    show Res.go _ _=Res.go (Res.go _ _) _;rw[Bp]
    congr 1
    funext _ S
    exact ih S
structure JD(t:List Nat)(n:Nat)(g:List Tk)(s:SS):Prop where
 j:J t g s 0
 stays:∀m,FL n (m+1) (sc t s) = .ok .none (sc t s)
 ts:s.ts=[]→s.done=true
 key:∀k∈s.ks,g.length<k.i
theorem No{r:Res}{v:V}{S:Sc}(h:r.sat (fun v' S'=>v'=v∧S'=S) fun _=>False):r = .ok v S:=by
 cases r with
 | ok v' S'=>obtain⟨h1,h2⟩:=h;rw[h1,h2]
 | err e=>exact h.elim
 | bad=>exact h.elim
theorem EE(F:TF t):∀(m:Nat) (s:SS),Rdy t g s→(t.length-s.p)+(match s.done with|true=>0|false=>1)<m→(FL n m (sc t s)).sat (fun _ S=>∃s',S=sc t s'∧JD t n g s') (EP t (ep t s.p)):=by
 intro m
 induction m with
 | zero=>intro s _ h;exact absurd ‹_› (Nat.not_lt_zero _)
 | succ m ih=>
  intro s h hm
  have more:∀s1,Rdy t g s1→s1.done=false→s.done=false→s1.p=s.p→Res.sat (c0 (uu (n+8)) "fetch_more_tokens" (sc t s1) fun _ S=>FL n m S) (fun _ S=>∃s',S=sc t s'∧JD t n g s') (EP t (ep t s.p)):=by
   intro s1 h1 d1 d0 e1;refine bS (dG (Wj (n:=n) F h1 d1) (fun v S z=>?_) fun e z=>by rw[e1] at z;exact z);refine fA z fun s' e1 z2 z3=>?_;clear z;subst e1;have lt:=z2.plt;refine dG (ih s' (.inl z2) ?_) (fun _ _ z=>z) fun e z=>?_
   ·rw[d0] at hm
    have hm:t.length-s.p+1<m+1:=hm
    rcases z3 with z|z
    ·rw[e1] at z
     cases s'.done with
     | false=>exact zf hm lt z
     | true=>exact Nat.lt_of_succ_lt (zf hm lt z)
    ·rw[z];simp only
     have lp:s.p<t.length:=h.plt F
     rcases Nat.lt_or_ge s'.p s.p with y|y
     ·exfalso
      have f:=(z2.fin z).1;lia
     ·exact zg ‹_› ‹_›
   ·refine fA z fun i y1 y2 y3=>?_;clear z
    rw[z2.pos] at y2;refine⟨i,y1,?_,y3⟩
    rcases z3 with z|z
    ·rw[e1] at z
     unfold ep
     cases decide (s.p=0)&&decide (ch t 0=65279) with
     | true=>show 1≤i;lia
     | false=>show s.p≤i;exact aJ (bA ‹_›) ‹_›
    ·have f:=(z2.fin z).1
     have:=h.plt F;unfold ep
     cases hb:decide (s.p=0)&&decide (ch t 0=65279) with
     | true=>
      have l1:=F.lt (i:=0) (by rw[aI (aA hb).2];decide);show 1≤i;lia
     | false=>show s.p≤i;lia
  show Res.sat ((uu (n+8) "need_more_tokens" [] [] (sc t s)).go _) _ _;refine nK (n:=n+5) F h (fun d=>?_) (fun d e=>?_) (fun d ne hj b hb=>?_) fun k hk hf e z=>⟨s.p,z,?_,h.plt F⟩
  ·have hj:J t g s 0:=by
    rcases h with h|⟨_,rfl⟩
    ·exact h
    ·exact bx d
   refine aH (a:=false) rfl (aQ rfl ⟨s,rfl,hj,fun m=>No ?_,fun _=>d,fun k hk=>by rw[(hj.fin d).2.2.2] at hk;cases hk⟩);show Res.sat ((uu (n+8) "need_more_tokens" [] [] (sc t s)).go _) _ _
   exact nK (n:=n+5) F h (fun _=>aH (a:=false) rfl (aQ rfl ⟨rfl,rfl⟩)) (fun d'=>by rw[d] at d';exact tz d') (fun d'=>by rw[d] at d';exact tz d') fun k hk=>by rw[(hj.fin d).2.2.2] at hk;cases hk
  ·exact aH (a:=true) rfl (aZ rfl (more s h d d rfl))
  ·have hj2:=hj.stale (fresh t s.p)
   cases b with
   | true=>exact aH (a:=true) rfl (aZ rfl (more {s with ks:=s.ks.filter (fresh t s.p)} (.inl hj2) d d rfl))
   | false=>
    have nk:¬∃k r,s.ks.filter (fresh t s.p)=k::r∧k.i=g.length:=fun y=>by cases hb.mpr y
    have ff:(s.ks.filter (fresh t s.p)).filter (fresh t s.p)=s.ks.filter (fresh t s.p):=List.filter_eq_self.mpr fun k hk=>(List.mem_filter.mp hk).2;refine aH (a:=false) rfl (aQ rfl ⟨{s with ks:=s.ks.filter (fresh t s.p)},rfl,hj2,fun m=>No ?_,fun e=>absurd e ne,fun k hk=>?_⟩)
    ·show Res.sat ((uu (n+8) "need_more_tokens" [] [] (sc t {s with ks:=s.ks.filter (fresh t s.p)})).go _) _ _
     refine nK (n:=n+5) (s:={s with ks:=s.ks.filter (fresh t s.p)}) F (.inl hj2) (fun d'=>by rw[show s.done=true from d'] at d;exact tz d) (fun _ e=>absurd e ne) (fun _ _ _ b hb=>?_) fun k hk hf=>by
      rw[(List.mem_filter.mp hk).2] at hf;exact tz hf
     dsimp only at hb ⊢;rw[ff] at hb ⊢
     cases b with
     | true=>exact absurd (hb.mp rfl) nk
     | false=>exact aH (a:=false) rfl (aQ rfl ⟨rfl,rfl⟩)
    ·have o:=hj2.ord
     have kk:=hj2.key;dsimp only at o kk
     cases hl:s.ks.filter (fresh t s.p) with
     | nil=>rw[show ({s with ks:=s.ks.filter (fresh t s.p)}:SS).ks=s.ks.filter (fresh t s.p) from rfl,hl] at hk;cases hk
     | cons j r=>
      rw[show ({s with ks:=s.ks.filter (fresh t s.p)}:SS).ks=s.ks.filter (fresh t s.p) from rfl,hl] at hk;rw[hl] at o;have j1:=(kk j (by rw[hl];exact .head _)).2.1;have j2:j.i≠g.length:=fun y=>nk ⟨j,r,hl,y⟩
      rcases al_mc hk with z|z
      ·rw[z];lia
      ·have:=((List.pairwise_cons.mp o).1 k z).2
       exact iS ‹_› ‹_›
  ·rcases h with h|⟨_,rfl⟩
   ·rw[h.pos];exact aK _
   ·cases hk
end
noncomputable abbrev gT(S:Sc):Res:=uu 12 "get_token" [] [] S
noncomputable abbrev pT(S:Sc):Res:=uu 12 "peek_token" [] [] S
noncomputable abbrev kT(c:V)(S:Sc):Res:=uu 12 "check_token" [c] [] S
theorem Ec(S:Sc):gT S=(FL 3 400 S).go fun _ S=>onB (!bU S.toks) (O1 (uncons S.toks) fun p=>.ok p.1 {S with taken:=S.taken+1,toks:=p.2}) (ok0 S):=by
 refine ((vB (n:=3+8) rfl).trans (HQ 400 (uu (3+8)) S)).trans ?_;refine (To (n:=3) (L:=fun m S=>LP 400 (uu (3+8)) "get_token" [] 0 m ["self"] (s0 [] S) (nxt 400 (uu (3+8)) "get_token" [] 1 bB)) (K:=fun S=>nxt 400 (uu (3+8)) "get_token" [] 1 bB .next (s0 [] S)) (fun _=>rfl) (fun m S=>GL 400 (uu (3+8)) S m _) 400 S).trans ?_
 congr 1
theorem sX(S:Sc):pT S=(FL 3 400 S).go fun _ S=>onB (!bU S.toks) (O1 (iF S.toks 0) fun t=>.ok t S) (ok0 S):=by
 refine ((vB (n:=3+8) rfl).trans (Ws 400 (uu (3+8)) S)).trans ?_;refine (To (n:=3) (L:=fun m S=>LP 400 (uu (3+8)) "peek_token" [] 0 m ["self"] (s0 [] S) (nxt 400 (uu (3+8)) "peek_token" [] 1 bB)) (K:=fun S=>nxt 400 (uu (3+8)) "peek_token" [] 1 bB .next (s0 [] S)) (fun _=>rfl) (fun m S=>Vr 400 (uu (3+8)) S m _) 400 S).trans ?_
 congr 1
theorem oV(c:V)(S:Sc):kT c S=(FL 3 400 S).go fun _ S=>onB (!bU S.toks) (O1 (cF c) fun b=>onB (!b) (.ok (.bool true) S) (O1 (iF S.toks 0) fun t=>at_ 400 (uu (3+8)) t "id" fun i=>O1 (aG .In i c) fun b=>onB b (.ok (.bool true) S) (.ok (.bool false) S))) (.ok (.bool false) S):=by
 refine ((vB (n:=3+8) rfl).trans (Xd 400 (uu (3+8)) S c)).trans ?_;refine (To (n:=3) (L:=fun m S=>LP 400 (uu (3+8)) "check_token" [] 0 m ["self", "choices"] (s0 [("choices", c)] S) (nxt 400 (uu (3+8)) "check_token" [] 1 bB)) (K:=fun S=>nxt 400 (uu (3+8)) "check_token" [] 1 bB .next (s0 [("choices", c)] S)) (fun _=>rfl) (fun m S=>Vs 400 (uu (3+8)) S m c _) 400 S).trans ?_
 congr 1
theorem Ll(S:Sc):uu 12 "check_token" [] [] S=kT (.tup []) S:=(vB (n:=3+8) rfl).trans ((Rn 400 (uu (3+8)) S).trans (vB (n:=3+8) rfl).symm)
noncomputable def sL(s:Str):List Nat:=s.cps.toList
noncomputable def kE:Tk→List Nat
 | .two c _ _=>(([(283,sL "<stream end>"),(295,sL "<block sequence start>"),(307,sL "<block mapping start>"),(319,sL "<block end>"),(331,sL "["),(343,sL "{"),(355,sL "]"),(367,sL "}"),(379,sL "?"),(391,sL ":"),(403,sL "-"),(415,sL ","),(239,sL "<document start>"),(251,sL "<document end>")]:List (Nat×List Nat)).lookup c).getD []
 | .dir _ _=>sL "<directive>"
 | .nam c _ _ _=>match decide (c=434) with
  | true=>sL "<alias>"
  | false=>sL "<anchor>"
 | .tag _ _ _ _=>sL "<tag>"
 | .sca _ _ _ _ _=>sL "<scalar>"
structure Gv(S S1 S2:Sc)(v:V)(id:List Nat):Prop where
 g:gT S = .ok v S2
 p:pT S = .ok v S1
 c0:kT (.tup []) S = .ok (.bool true) S1
 c:∀x l,kT (.tup (x::l)) S=O1 (inV (.str id) (.tup (x::l))) fun b=>onB b (.ok (.bool true) S1) (.ok (.bool false) S1)
structure Nn(S S1:Sc):Prop where
 g:gT S = .ok .none S1
 p:pT S = .ok .none S1
 c:∀c,kT c S = .ok (.bool false) S1
structure Er(S:Sc)(e:V):Prop where
 g:gT S = .err e
 p:pT S = .err e
 c:∀c,kT c S = .err e
theorem HM{S:Sc}{e:V}(h:FL 3 400 S = .err e):Er S e:=⟨by rw[Ec,h];rfl,by rw[sX,h];rfl,fun c=>by rw[oV,h];rfl⟩
theorem Yj{S S1:Sc}{v:V}(h:FL 3 400 S = .ok v S1)(e:S1.toks=[]):Nn S S1:=by
 refine⟨?_,?_,fun c=>?_⟩
 ·rw[Ec,h,lL,e];rfl
 ·rw[sX,h,lL,e];rfl
 ·rw[oV,h,lL,e];rfl
theorem Qh{S S1:Sc}{v x:V}{l:List V}{id:List Nat}(h:FL 3 400 S = .ok v S1)(e:S1.toks=x::l)(hi:∀f,eJ (OO 400 f) x "id" = some (.str id)):Gv S S1 {S1 with taken:=S1.taken+1,toks:=l} x id:=by
 refine⟨?_,?_,?_,fun y r=>?_⟩
 ·rw[Ec,h,lL,e];rfl
 ·rw[sX,h,lL,e];rfl
 ·rw[oV,h,lL,e];rfl
 ·rw[oV,h,lL,e]
  show onO (eJ _ x "id") _ _=_;rw[hi];rfl
section
variable{t:List Nat}{s:SS}{g:List Tk}
noncomputable def Cls:Tk→Prop
 | .two c _ _=>c∈kM
 | .nam c _ _ _=>c=434∨c=453
 | _=>True
theorem Sd{k:Tk}{part:List Nat}(h:spelt k part):Cls k:=by
 cases k with
 | two c b e=>exact h.1
 | nam c v b e=>exact h.imp (·.1) (·.1)
 | _=>trivial
theorem Qb{k:Tk}(h:Cls k)(f:Str→MFn):eJ (OO 400 f) (tkV t k) "id" = some (.str (kE k)):=by
 cases k with
 | two c b e=>
  have h:c∈kM:=h;unfold kM at h;simp only[List.mem_cons,List.not_mem_nil,or_false] at h
  rcases h with rfl|rfl|rfl|rfl|rfl|rfl|rfl|rfl|rfl|rfl|rfl|rfl|rfl|rfl<;>kernel_rfl
 | nam c v b e=>
  rcases h with rfl|rfl<;>kernel_rfl
 | dir=>kernel_rfl
 | tag=>kernel_rfl
 | sca=>kernel_rfl
theorem Bo{l:List Tk}:∀{s:LS},uR t s l→∀k∈l,Cls k:=by
 induction l with
 | nil=>intro s _ k hk;cases hk
 | cons j l ih=>
  intro s h k hk
  rcases al_mc hk with z|z
  ·rw[z];exact Sd h.1.spelt
  ·exact ih h.2 k z
theorem J.pop{k:Tk}{r:List Tk}(h:J t g s 0)(e:s.ts=k::r)(hk:∀x∈s.ks,g.length<x.i):J t (g++[k]) {s with taken:=s.taken+1,ts:=r} 0:=by
 have ea:(g++[k])++r=g++s.ts:=by rw[e,fY];rfl
 have hc:=h.ch;have hf:=h.fin;have hkey:=h.key;rw[←ea] at hc hf hkey;refine⟨hc,h.plt,h.pos,?_,h.ind,h.ord,fun x hx=>?_,?_,hf⟩
 ·rw[aU];have:=h.tk;show s.taken+1=g.length+1+1;lia
 ·refine oQ (hkey x hx) fun h1 h2 h3 h4=>?_
  refine⟨h1,?_,h3,h4⟩;rw[aU];exact hk x hx
 ·have:=h.pot
  rw[e,List.length_cons] at this;exact aJ (Nat.add_le_add_right (show s.taken+1+r.length+s.inds.length+wt t s.p≤s.taken+(r.length+1)+s.inds.length+wt t s.p by lia) _) this
theorem outs(F:TF t)(h:Rdy t g s):(∃e i,Er (sc t s) e∧iL t i e∧ep t s.p≤i∧i<t.length)∨(∃s1,Nn (sc t s) (sc t s1)∧Nn (sc t s1) (sc t s1)∧J t g s1 0∧s1.ts=[]∧s1.done=true)∨
  (∃s1 s2 k,Gv (sc t s) (sc t s1) (sc t s2) (tkV t k) (kE k)∧Gv (sc t s1) (sc t s1) (sc t s2) (tkV t k) (kE k)∧J t (g++[k]) s2 0):=by
 have len:=F.len;have:=EE (n:=3) F 400 s h (by cases s.done<;>(simp only;lia))
 cases hr:FL 3 400 (sc t s) with
 | bad=>rw[hr] at this;exact this.elim
 | err e=>
  rw[hr] at this;refine fA this fun i h1 h2 h3=>?_;clear this;exact .inl ⟨e,i,HM hr,h1,h2,h3⟩
 | ok v S=>
  rw[hr] at this;refine aB this fun s1 e1 L=>?_;clear this;subst e1;have hr1:=L.stays 399
  cases ht:s1.ts with
  | nil=>
   have e:(sc t s1).toks=[]:=by show s1.ts.map (tkV t)=[];rw[ht];rfl
   exact .inr (.inl ⟨s1,Yj hr e,Yj hr1 e,L.j,ht,L.ts ht⟩)
  | cons k r=>
   have e:(sc t s1).toks=tkV t k::r.map (tkV t):=by show s1.ts.map (tkV t)=_;rw[ht];rfl
   have hk:Cls k:=Bo L.j.ch.good k (List.mem_append.mpr (.inr (by rw[ht];exact .head _)));exact .inr (.inr ⟨s1,{s1 with taken:=s1.taken+1,ts:=r},k,Qh hr e (Qb hk),Qh hr1 e (Qb hk),L.j.pop ht L.key⟩)
noncomputable def Sw(t:List Nat):V:=.obj 271 [("start_mark", mk t 0),("end_mark", mk t 0),("encoding", .none)]
theorem Tn(m:Nat):FL 3 (m+1) (dO t) = .ok .none (dO t):=by
 have e:uu (3+8) "need_more_tokens" [] [] (dO t) = .ok .none (dO t):=by kernel_rfl
 show (uu (3+8) "need_more_tokens" [] [] (dO t)).go _=_;rw[e];rfl
theorem nU:Gv (dO t) (dO t) (sc t st1) (Sw t) (sL "<stream start>"):=Qh (Tn 399) rfl fun f=>by kernel_rfl
end
noncomputable abbrev PV:=Option (V×aL)
noncomputable def gD(m:Str):Dn:=oR 0 m cI
noncomputable abbrev OQ(fns:List (Str×aY)):Orc:=(TT 400).orc [] fns false
noncomputable def spP(fns:List (Str×aY))(m:Str):aY:=eC (evN (OQ fns) 60) false (gD m).1 (gD m).2.1 (gD m).2.2
noncomputable def gOf(sp:aY):PFn:=fun args kw=>open Classical in if h:∃v,∀fl,eK sp args kw fl=some (v,fl) then some h.choose else none
theorem Qr{sp:aY}{args:List V}{kw:List (Str×V)}{v:V}(h:gOf sp args kw=some v):∀fl,eK sp args kw fl=some (v,fl):=by
 unfold gOf at h
 by_cases q:∃v,∀fl,eK sp args kw fl=some (v,fl)
 ·rw[dif_pos q] at h
  obtain rfl:=so h;exact q.choose_spec
 ·rw[dif_neg q] at h;exact ox h
theorem gW{sp:aY}{args:List V}{kw:List (Str×V)}{v:V}(h:∀fl,eK sp args kw fl=some (v,fl)):gOf sp args kw=some v:=by
 have q:∃v,∀fl,eK sp args kw fl=some (v,fl):=⟨v,h⟩;unfold gOf;rw[dif_pos q];have e:=q.choose_spec [];rw[h []] at e;exact congrArg some (congrArg Prod.fst (Option.some.inj e)).symm
noncomputable def XQ(fns:List (Str×aY))(m:Str)(w:List (Nat×Nat))(i:Nat)(st:St):R Fl:=(evN (OQ fns) (60-2*w.length)).execs (gD m).1 ((lS w (gD m).2.2).drop i) st
noncomputable def kF(f:Fl)(st:St):PV:=some (xK f,st.flds)
noncomputable abbrev nxQ(fns:List (Str×aY))(m:Str)(w:List (Nat×Nat))(i:Nat)(K:Fl→St→PV):Fl→St→PV:=fun fl st=>pN fl st (XQ fns m w i st) PV K (fun _ _=>none) none
noncomputable def LQ(fns:List (Str×aY))(m:Str)(w:List (Nat×Nat))(i n:Nat)(ks:List Str)(st:St)(k:Fl→St→PV):PV:=
 tJ n ((evN (OQ fns) (58-2*w.length)).test (gD m).1 (Cq (stm i (lS w (gD m).2.2)))) (fun s=>R.keep ks ((evN (OQ fns) (58-2*w.length)).execs (gD m).1 (br (stm i (lS w (gD m).2.2)) 0) s)) st PV k (fun _ _=>none) none
noncomputable def FQ1(fns:List (Str×aY))(m:Str)(w:List (Nat×Nat))(i:Nat)(ks:List Str)(l:List V)(st:St)(k:Fl→St→PV):PV:=
 eU (iR (evN (OQ fns) (58-2*w.length)) (gD m).1 (jZ (stm i (lS w (gD m).2.2))).1 (jZ (stm i (lS w (gD m).2.2))).2 ks) l st PV k (fun _ _=>none) none
noncomputable def mV:Tk→V
 | .two _ _ _=>.none
 | .dir _ _=>.none
 | .nam _ v _ _=>.str v
 | .tag h x _ _=>.tup [.str h,.str x]
 | .sca v p s _ _=>.tup [.str v,.bool p,Ct s]
noncomputable def gC(k:Tk):V:=.tup [.str (kE k),mV k,.int k.b,.int k.e]
noncomputable def dP:V:=.tup [.str (sL "<stream start>"),.none,.int 0,.int 0]
noncomputable def Nq:aY:=spP [] "_law_told"
theorem AE{t:List Nat}{k:Tk}(h:Cls k)(fl:aL):eK Nq [tkV t k] [] fl=some (gC k,fl):=by
 cases k with
 | two c b e=>
  have h:c∈kM:=h;unfold kM at h;simp only[List.mem_cons,List.not_mem_nil,or_false] at h
  rcases h with rfl|rfl|rfl|rfl|rfl|rfl|rfl|rfl|rfl|rfl|rfl|rfl|rfl|rfl<;>kernel_rfl
 | nam c v b e=>
  rcases h with rfl|rfl<;>kernel_rfl
 | dir=>kernel_rfl
 | tag=>kernel_rfl
 | sca=>kernel_rfl
theorem FO{t:List Nat}(fl:aL):eK Nq [Sw t] [] fl=some (dP,fl):=by kernel_rfl
noncomputable def Ji:aY:=spP [] "_law_gap"
theorem HR(bl:V)(l:List V)(fl:aL):eK Ji [bl,.lst l] [] fl=onB (!!bU l) (some (bl,fl)) (onO (iF l 0) (fun c=>onO (aG .NotEq c (vs "\n")) (fun b=>onB b (onO (jY (.lst l)) (fun r=>some (r,fl)) none)
 (onB (decide ((1:Int)<(l.length:Int))) (onO (bR (.lst l) (.int 1) .none) (fun s=>onO (jY s) (fun r=>some (r,fl)) none) none) (some (.str [32],fl)))) none) none):=by kernel_rfl
noncomputable def chs(l:List Nat):List V:=l.map fun c=>.str [c]
theorem vS{l:List Nat}(h:l.length≤9000):jY (.lst (chs l))=some (.str l):=by
 have e:chs l=(l.map fun c=>[c]).map .str:=by unfold chs;rw[List.map_map];rfl
 have f:(l.map fun c=>[c]).flatten=l:=by
  clear h e
  induction l with
  | nil=>rfl
  | cons c l ih=>show [c]++(l.map fun c=>[c]).flatten=_;rw[ih];rfl
 rw[e,mJ (by rw[f];exact aJ ‹_› (by decide)),f]
theorem wA(bl:List Nat)(c:Nat)(r:List Nat):gJ bl (c::r)=match decide (c=10) with
  | false=>c::r
  | true=>match r with
   | []=>[32]
   | _::_=>r:=rfl
theorem Ny{bl en:List Nat}(h:en.length≤9000)(fl:aL):eK Ji [.str bl,.lst (chs en)] [] fl=some (.str (gJ bl en),fl):=by
 rw[HR]
 cases en with
 | nil=>rfl
 | cons c r=>
  have i0:iF (chs (c::r)) 0=some (.str [c]):=rfl;rw[show (!!bU (chs (c::r)))=false from rfl,bI,i0,aX,show aG .NotEq (.str [c]) (vs "\n")=some (!decide (c=10)) from yU c 10,aX];rw[wA];clear i0
  cases decide (c=10) with
  | false=>
   show onO (jY (.lst (chs (c::r)))) _ _=_;rw[vS h];rfl
  | true=>
   cases r with
   | nil=>rfl
   | cons d r=>
    have e:bR (.lst (chs (c::d::r))) (.int 1) .none=some (.lst (chs (d::r))):=by
     show some (V.lst (((chs (c::d::r)).drop (clipAt (chs (c::d::r)).length 1)).take ((chs (c::d::r)).length-clipAt (chs (c::d::r)).length 1)))=_
     have l1:(chs (c::d::r)).length=r.length+2:=by unfold chs;rw[List.length_map];rfl
     rw[show clipAt (chs (c::d::r)).length 1=1 by rw[l1];exact yQ _];show some (V.lst ((chs (d::r)).take _))=_;rw[List.take_of_length_le (by rw[l1];unfold chs;rw[List.length_map];show r.length+1≤_;exact aK _)]
    show onB (decide ((1:Int)<((chs (c::d::r)).length:Int))) _ _=_;rw[bN (by unfold chs;rw[List.length_map];show (1:Int)<((r.length+1+1:Nat):Int);lia),eP,e];show onO (jY (.lst (chs (d::r)))) _ _=_;rw[vS (by have:r.length+1+1≤9000:=h;show r.length+1≤_;exact bA ‹_›)];rfl
noncomputable def cQ:List (Str×aY):=[("_law_gap", oE (gOf Ji))]
noncomputable def Ag:aY:=spP cQ "_law_fold"
noncomputable abbrev sq(l:aL)(fl:aL):St:=⟨l,fl,true⟩
noncomputable abbrev foL(p q:V)(o b:V)(e:List V)(i:Int):aL:=[("part", .val p),("quote", .val q),("out", .val o),("blank", .val b),("ends", .lst e),("i", .val (.int i))]
noncomputable abbrev foK:List Str:=["part", "quote", "out", "blank", "ends", "i"]
theorem CY(p q:V)(fl:aL):eK Ag [p,q] [] fl=LQ cQ "_law_fold" [] 4 400 foK (sq (foL p q (.str []) (.str []) [] 0) fl) (nxQ cQ "_law_fold" [] 5 kF):=by kernel_rfl
theorem Zk(p q o b:V)(e:List V)(i:Int)(fl:aL):XQ cQ "_law_fold" [] 5 (sq (foL p q o b e i) fl) PV kF (fun _ _=>none) none=onO (gOf Ji [b,.lst e] []) (fun g=>onO (iX o g) (fun r=>some (r,fl)) none) none:=by kernel_rfl
theorem AZ(n:Nat)(p q:V)(o b:V)(e:List V)(i:Int)(fl:aL)(K:Fl→St→PV):LQ cQ "_law_fold" [] 4 (n+1) foK (sq (foL p q o b e i) fl) K=onO (lA p) (fun n1=>onO (aG .Lt (.int i) n1) (fun z=>onB z (onO (dN p (.int i)) (fun c=>(fun J:Bool→PV=>onO (aG .Eq c (vs "\r")) (fun z=>onB (!z) (J z) (onO (bR p (.int (i+1)) (.int (i+1+1))) (fun s=>onO (aG .Eq s (vs "\n")) (fun z=>onB (!z) (J z) (J true)) none) none)) none) fun z=>
 onB z (LQ cQ "_law_fold" [] 4 n foK (sq (foL p q o b e (i+1)) fl) K) (onO (aG .In c (vs "\r\n\u0085")) (fun z=>onB z (onB (Nat.ble (e++[vs "\n"]).length aO) (LQ cQ "_law_fold" [] 4 n foK (sq (foL p q o b (e++[vs "\n"]) (i+1)) fl) K) none)
 (onO (aG .In c (vs "\u2028\u2029")) (fun z=>onB z (onB (Nat.ble (e++[c]).length aO) (LQ cQ "_law_fold" [] 4 n foK (sq (foL p q o b (e++[c]) (i+1)) fl) K) none)
  (onO (aG .Eq c (vs " ")) (fun z=>onB z (onO (iX b c) (fun b=>LQ cQ "_law_fold" [] 4 n foK (sq (foL p q o b e (i+1)) fl) K) none)
  (onO (aG .Eq c q) (fun z=>(fun J:Int→PV=>onB z (J (i+1+1)) (J (i+1))) fun i=>onO (gOf Ji [b,.lst e] []) (fun g=>onO (iX g c) (fun r=>onO (iX o r) (fun o=>LQ cQ "_law_fold" [] 4 n foK (sq (foL p q o (.str []) [] i) fl) K) none) none) none) none)) none)) none)) none)) none) (K .next (sq (foL p q o b e i) fl))) none) none:=by kernel_rfl
theorem Pp{l:List Nat}{i:Nat}(h:i<l.length):dN (.str l) (.int (i:Int))=some (.str [ch l i]):=by
 refine (yB (u:=l.drop (i+1)) ?_);exact eN h
theorem Zz{l:List Nat}{i:Nat}:bR (.str l) (.int ((i:Int)+1)) (.int ((i:Int)+1+1))=some (.str ((l.drop (i+1)).take 1)):=by
 show some (V.str ((l.drop (clipAt l.length ((i:Int)+1))).take (clipAt l.length ((i:Int)+1+1)-clipAt l.length ((i:Int)+1))))=_;rw[show (i:Int)+1+1=((i+1+1:Nat):Int) from rfl,show (i:Int)+1=((i+1:Nat):Int) from rfl,eI,eI]
 rcases Nat.lt_or_ge (i+1) l.length with q|q
 ·rw[Nat.min_eq_left (bA q),Nat.min_eq_left q,show (i+1).succ-(i+1)=1 from Nat.add_sub_cancel_left (n:=i+1) (m:=1)]
 ·rw[Nat.min_eq_right q,Nat.min_eq_right (by lia),List.drop_eq_nil_of_le (aK _),List.drop_eq_nil_of_le q,List.take_nil,List.take_nil]
theorem uP{a b:List Nat}(h:a.length+b.length≤90000):iX (.str a) (.str b)=some (.str (a++b)):=by
 show cV (Nat.ble (a.length+b.length) gH) _=_;rw[fX (show a.length+b.length≤100000 by exact aJ ‹_› (by decide))];rfl
theorem uG(l:List Nat)(c:Nat):chs l++[.str [c]]=chs (l++[c]):=by unfold chs;rw[List.map_append];rfl
theorem Hg(l:List Nat):(chs l).length=l.length:=List.length_map _
theorem Gn(bl en:List Nat):(gJ bl en).length≤bl.length+en.length+1:=by
 cases en with
 | nil=>show bl.length≤_;exact bY _ _
 | cons c r=>
  rw[wA]
  cases decide (c=10) with
  | false=>show r.length+1≤bl.length+(r.length+1)+1;lia
  | true=>
   cases r with
   | nil=>show 1≤_;exact Nat.succ_pos _
   | cons d r=>show r.length+1≤bl.length+(r.length+1+1)+1;lia
theorem Ka{part:List Nat}{q:List Nat}{qn:Nat}{fl:aL}(hq:∀i,i<part.length→aG .Eq (.str [ch part i]) (.str q)=some (decide (ch part i=qn)))(hp:part.length≤400):∀(m k:Nat) (out bl en:List Nat) (i:Nat),part.length-i<m→part.length-i≤k→out.length+bl.length+en.length≤4*i→en.length≤i→i≤part.length+1→
  LQ cQ "_law_fold" [] 4 m foK (sq (foL (.str part) (.str q) (.str out) (.str bl) (chs en) (i:Int)) fl) (nxQ cQ "_law_fold" [] 5 kF)=some (.str (dK qn k (part.drop i) out bl en),fl):=by
 intro m
 induction m with
 | zero=>intro k out bl en i h;exact absurd ‹_› (Nat.not_lt_zero _)
 | succ m ih=>
  intro k out bl en i hm hk hl hen hi;rw[AZ];rw[show lA (.str part)=some (.int part.length) from rfl,aX,show aG .Lt (.int (i:Int)) (.int part.length)=some (decide ((i:Int)<(part.length:Int))) from rfl,aX]
  rcases Nat.lt_or_ge i part.length with lt|ge
  ·obtain⟨k,rfl⟩:∃j,k=j+1:=⟨k-1,by exact pm (by exact zl ‹_› ‹_›)⟩
   rw[bN (show (i:Int)<(part.length:Int) by exact Int.ofNat_lt.mpr ‹_›),eP,Pp lt,aX,Zz,eN lt,jR]
   have hh:decide ((part.drop (i+1)).take 1=[10])=decide ((part.drop (i+1)).head? = some 10):=by
    cases part.drop (i+1) with
    | nil=>rfl
    | cons d r=>
     refine decide_eq_decide.mpr ?_;show [d]=[10]↔some d=some 10;constructor
     ·intro z;rw[(List.cons.inj z).1]
     ·intro z;rw[Option.some.inj z]
   have step:∀(out' bl' en':List Nat),out'.length+bl'.length+en'.length≤4*(i+1)→en'.length≤i+1→LQ cQ "_law_fold" [] 4 m foK (sq (foL (.str part) (.str q) (.str out') (.str bl') (chs en') ((i:Int)+1)) fl) (nxQ cQ "_law_fold" [] 5 kF)=some (.str (dK qn k (part.drop (i+1)) out' bl' en'),fl):=fun out' bl' en' h1 h2=>ih k out' bl' en' (i+1) (by exact dc ‹_› (by exact aK _) ‹_›) (by exact dc0 ‹_› (by exact aK _) (by assumption)) h1 h2 (by exact zj _ ‹_›)
   have snoc:∀x:Nat,Nat.ble (chs en++[V.str [x]]).length aO=true:=fun x=>by
    rw[uG,Hg,aU];refine fX ?_;show en.length+1≤10000;lia
   have gl:=Gn bl en
   have nl:(gJ bl en++[ch part i]).length=(gJ bl en).length+1:=by rw[aU];rfl
   have nl2:(out++(gJ bl en++[ch part i])).length=out.length+((gJ bl en).length+1):=by rw[aU,nl]
   have key:onO (aG .In (.str [ch part i]) (vs "\r\n\u0085")) (fun z=>onB z (onB (Nat.ble (chs en++[vs "\n"]).length aO) (LQ cQ "_law_fold" [] 4 m foK (sq (foL (.str part) (.str q) (.str out) (.str bl) (chs en++[vs "\n"]) ((i:Int)+1)) fl) (nxQ cQ "_law_fold" [] 5 kF)) none)
 (onO (aG .In (.str [ch part i]) (vs "\u2028\u2029")) (fun z=>onB z (onB (Nat.ble (chs en++[V.str [ch part i]]).length aO) (LQ cQ "_law_fold" [] 4 m foK (sq (foL (.str part) (.str q) (.str out) (.str bl) (chs en++[V.str [ch part i]]) ((i:Int)+1)) fl) (nxQ cQ "_law_fold" [] 5 kF)) none)
  (onO (aG .Eq (.str [ch part i]) (vs " ")) (fun z=>onB z (onO (iX (.str bl) (.str [ch part i])) (fun b=>LQ cQ "_law_fold" [] 4 m foK (sq (foL (.str part) (.str q) (.str out) b (chs en) ((i:Int)+1)) fl) (nxQ cQ "_law_fold" [] 5 kF)) none)
  (onO (aG .Eq (.str [ch part i]) (.str q)) (fun z=>(fun J:Int→PV=>onB z (J ((i:Int)+1+1)) (J ((i:Int)+1))) fun i1=>onO (gOf Ji [.str bl,.lst (chs en)] []) (fun g=>onO (iX g (.str [ch part i])) (fun r=>onO (iX (.str out) r) (fun o=>LQ cQ "_law_fold" [] 4 m foK (sq (foL (.str part) (.str q) o (.str []) [] i1) fl) (nxQ cQ "_law_fold" [] 5 kF)) none) none) none) none)) none)) none)) none=some (V.str (match decide (ch part i∈([13,10,133]:List Nat)) with
     | true=>dK qn k (part.drop (i+1)) out bl (en++[10])
     | false=>match decide (ch part i∈([8232,8233]:List Nat)) with
      | true=>dK qn k (part.drop (i+1)) out bl (en++[ch part i])
      | false=>match decide (ch part i=32) with
       | true=>dK qn k (part.drop (i+1)) out (bl++[ch part i]) en
       | false=>match decide (ch part i=qn) with
        | true=>dK qn k (part.drop (i+1)).tail (out++(gJ bl en++[ch part i])) [] []
        | false=>dK qn k (part.drop (i+1)) (out++(gJ bl en++[ch part i])) [] []),fl):=by
    rw[show aG .In (.str [ch part i]) (vs "\r\n\u0085")=some (decide (ch part i∈([13,10,133]:List Nat))) from rfl,aX]
    cases decide (ch part i∈([13,10,133]:List Nat)) with
    | true=>
     rw[eP,show vs "\n" = .str [10] from rfl,snoc,eP,uG];exact step out bl (en++[10]) (by rw[aU];show _+_+(_+1)≤_;lia) (by rw[aU];show _+1≤_;exact Nat.succ_le_succ ‹_›)
    | false=>
     rw[bI,show aG .In (.str [ch part i]) (vs "\u2028\u2029")=some (decide (ch part i∈([8232,8233]:List Nat))) from rfl,aX]
     cases decide (ch part i∈([8232,8233]:List Nat)) with
     | true=>
      rw[eP,snoc,eP,uG];exact step out bl (en++[ch part i]) (by rw[aU];show _+_+(_+1)≤_;lia) (by rw[aU];show _+1≤_;exact Nat.succ_le_succ ‹_›)
     | false=>
      rw[bI,show aG .Eq (.str [ch part i]) (vs " ")=some (decide (ch part i=32)) from eW _ 32,aX]
      cases decide (ch part i=32) with
      | true=>
       rw[eP,uP (by show _+1≤_;lia),aX];exact step out (bl++[ch part i]) en (by rw[aU];show _+(_+1)+_≤_;lia) (by lia)
      | false=>
       rw[bI,hq i lt,aX];dsimp only
       cases decide (ch part i=qn) with
       | true=>
        rw[eP,gW (Ny (bl:=bl) (en:=en) (by lia)),aX,uP (by show _+1≤_;lia),aX,uP (by rw[nl];lia),aX,List.tail_drop];exact ih k _ [] [] (i+1+1) (by exact dc ‹_› (by exact bY _ _) ‹_›) (by exact dc0 ‹_› (by exact bY _ _) (by assumption)) (by rw[nl2];show _+0+0≤_;lia) (by show 0≤_;exact Nat.zero_le _) (by exact Nat.succ_le_succ ‹_›)
       | false=>
        rw[bI,gW (Ny (bl:=bl) (en:=en) (by lia)),aX,uP (by show _+1≤_;lia),aX,uP (by rw[nl];lia),aX];exact step _ [] [] (by rw[nl2];show _+0+0≤_;lia) (by show 0≤_;lia)
   rw[show aG .Eq (.str [ch part i]) (vs "\r")=some (decide (ch part i=13)) from eW _ 13];dsimp only;rw[aX]
   cases h13:decide (ch part i=13) with
   | false=>exact key
   | true=>
    rw[show (!true)=false from rfl,bI,aX,show aG .Eq (.str ((part.drop (i+1)).take 1)) (vs "\n")=some (decide ((part.drop (i+1)).take 1=[10])) from rfl,aX,hh]
    cases hd:decide ((part.drop (i+1)).head? = some 10) with
    | false=>exact key
    | true=>exact step out bl en (by lia) (by lia)
  ·rw[cE (show ¬(i:Int)<(part.length:Int) by lia),bI,List.drop_eq_nil_of_le ge,wB]
   show XQ cQ "_law_fold" [] 5 (sq (foL (.str part) (.str q) (.str out) (.str bl) (chs en) (i:Int)) fl) PV kF (fun _ _=>none) none=_;have gl:=Gn bl en;rw[Zk,gW (Ny (bl:=bl) (en:=en) (by lia)),aX,uP (by lia),aX]
theorem Nz{part q:List Nat}{qn:Nat}(hq:∀i,i<part.length→aG .Eq (.str [ch part i]) (.str q)=some (decide (ch part i=qn)))(hp:part.length≤300)(fl:aL):eK Ag [.str part,.str q] [] fl=some (.str (Bu qn part),fl):=by
 rw[CY];exact Ka (i:=0) hq (by exact aJ ‹_› (by decide)) 400 part.length [] [] [] (by lia) (by exact aK _) (Nat.zero_le _) (Nat.zero_le _) (Nat.zero_le _)
noncomputable def Nr:aY:=spP [] "_law_bare"
noncomputable def Dd:aY:=spP [] "_law_ended"
noncomputable def sR:aY:=spP [] "_law_solid"
noncomputable def Gr:List (Str×aY):=[("_law_fold", oE (gOf Ag)),("_law_solid", oE (gOf sR))]
noncomputable def kQ:aY:=spP Gr "_law_spelt"
noncomputable abbrev baL(g b:V)(r:V):aL:=[("gap", .val g),("before", .val b),("rest", .val r)]
noncomputable abbrev baK:List Str:=["gap", "before", "rest"]
theorem DH(g b:List Nat)(fl:aL):eK Nr [.str g,.str b] [] fl=(fun K:Bool→PV=>onO (aG .Eq (.str b) (vs "plain")) (fun z=>onB (!z) (K z) (onO (bR (.str g) .none (.int 1)) (fun s=>onO (aG .Eq s (vs "#")) (fun z=>onB (!z) (K z) (K true)) none) none)) none) fun z=>
 onB z (some (.bool false,fl)) (onO (aG .Eq (.str b) (vs "<directive>")) (fun r=>FQ1 [] "_law_bare" [] 2 baK (chs g) (sq (baL (.str g) (.str b) (.bool r)) fl) (nxQ [] "_law_bare" [] 3 kF)) none):=by kernel_rfl
theorem Zh(g b r:V)(fl:aL):FQ1 [] "_law_bare" [] 2 baK [] (sq (baL g b r) fl) (nxQ [] "_law_bare" [] 3 kF)=some (.bool true,fl):=by kernel_rfl
theorem BE(g b:V)(r:Bool)(c:V)(l:List V)(fl:aL):FQ1 [] "_law_bare" [] 2 baK (c::l) (sq (baL g b (.bool r)) fl) (nxQ [] "_law_bare" [] 3 kF)=onO (aG .In c (vs "\r\n\u0085\u2028\u2029")) (fun z=>onB z (FQ1 [] "_law_bare" [] 2 baK l (sq (baL g b (.bool false)) fl) (nxQ [] "_law_bare" [] 3 kF))
 (onO (aG .Eq c (vs "#")) (fun z=>onB z (FQ1 [] "_law_bare" [] 2 baK l (sq (baL g b (.bool true)) fl) (nxQ [] "_law_bare" [] 3 kF)) ((fun K:Bool→PV=>onO (aG .NotEq c (vs " ")) (fun z=>onB (!z) (K z) (onB (!(!r)) (K (!r)) (K true))) none) fun z=>onB z (some (.bool false,fl)) (FQ1 [] "_law_bare" [] 2 baK l (sq (baL g b (.bool r)) fl) (nxQ [] "_law_bare" [] 3 kF)))) none)) none:=by kernel_rfl
theorem Kb{g b:V}{fl:aL}:∀(l:List Nat) (r r':Bool),fJ r l=some r'→FQ1 [] "_law_bare" [] 2 baK (chs l) (sq (baL g b (.bool r)) fl) (nxQ [] "_law_bare" [] 3 kF)=some (.bool true,fl):=by
 intro l
 induction l with
 | nil=>intro r r' _;exact Zh g b _ fl
 | cons c l ih=>
  intro r r' h;rw[gM] at h;refine (BE g b r (.str [c]) (chs l) fl).trans ?_;rw[show aG .In (.str [c]) (vs "\r\n\u0085\u2028\u2029")=some (isL c) from rfl,aX]
  cases hl:isL c with
  | true=>rw[hl] at h;exact ih _ _ h
  | false=>
   rw[hl] at h;rw[bI,show aG .Eq (.str [c]) (vs "#")=some (decide (c=35)) from eW c 35,aX]
   cases h5:decide (c=35) with
   | true=>rw[h5] at h;exact ih _ _ h
   | false=>
    rw[h5] at h;rw[bI];dsimp only;rw[show aG .NotEq (.str [c]) (vs " ")=some (!decide (c=32)) from yU c 32,aX]
    cases h2:decide (c=32) with
    | true=>rw[h2] at h;exact ih _ _ h
    | false=>
     rw[h2] at h
     cases r with
     | true=>exact ih _ _ h
     | false=>exact ox h
theorem Qe(l:List Nat):bR (.str l) .none (.int 1)=some (.str (l.take 1)):=by
 show some (V.str ((l.drop 0).take (clipAt l.length 1-0)))=_;rw[List.drop_zero]
 cases l with
 | nil=>rw[List.take_nil,List.take_nil]
 | cons c r=>
  rw[show clipAt (c::r).length 1-0=1 from yQ _]
noncomputable def BfS(bf:Nat)(b:List Nat):Prop:=(b=sL "plain" ↔ bf=2)∧(b=sL "<directive>" ↔ bf=3)∧(b=sL "<stream end>" ↔ bf=1)
theorem AF{g b:List Nat}{bf:Nat}{r:Bool}(hb:BfS bf b)(h1:bf=2→∀c l,g=c::l→c≠35)(h2:fJ (decide (bf=3)) g=some r)(fl:aL):eK Nr [.str g,.str b] [] fl=some (.bool true,fl):=by
 rw[DH];dsimp only
 have main:onB false (some (V.bool false,fl)) (onO (aG .Eq (.str b) (vs "<directive>")) (fun r=>FQ1 [] "_law_bare" [] 2 baK (chs g) (sq (baL (.str g) (.str b) (.bool r)) fl) (nxQ [] "_law_bare" [] 3 kF)) none)=some (.bool true,fl):=by
  rw[bI,show aG .Eq (.str b) (vs "<directive>")=some (decide (b=sL "<directive>")) from rfl,aX,show decide (b=sL "<directive>")=decide (bf=3) from decide_eq_decide.mpr hb.2.1];exact Kb g _ _ h2
 rw[show aG .Eq (.str b) (vs "plain")=some (decide (b=sL "plain")) from rfl,aX]
 cases hp:decide (b=sL "plain") with
 | false=>exact main
 | true=>
  have e2:=hb.1.mp (aI hp);rw[show (!true)=false from rfl,bI,Qe,aX,show aG .Eq (.str (g.take 1)) (vs "#")=some (decide (g.take 1=[35])) from rfl,aX]
  have:decide (g.take 1=[35])=false:=cE fun z=>by
   cases g with
   | nil=>cases z
   | cons c l=>exact h1 e2 c l rfl (List.cons.inj z).1
  rw[this];exact main
theorem Wq(p:List Nat)(fl:aL):eK sR [.str p] [] fl=onO (sO (fun n=>(some (!decide ([n]=[32]))).bind fun b=>match b with
 | true=>(some (!decide (n∈([13,10,133,8232,8233]:List Nat)))).bind fun b=>match b with
  | true=>some true
  | false=>some false
 | false=>some false) (chs p)) (fun l=>onB (Nat.ble l.length aO) (some (.lst l,fl)) none) none:=by kernel_rfl
theorem Jf:∀p:List Nat,sO (fun n=>(some (!decide ([n]=[32]))).bind fun b=>match b with
 | true=>(some (!decide (n∈([13,10,133,8232,8233]:List Nat)))).bind fun b=>match b with
  | true=>some true
  | false=>some false
 | false=>some false) (chs p)=some (chs (dF p)):=by
 intro p
 induction p with
 | nil=>rfl
 | cons c p ih=>
  have e:dF (c::p)=match !decide (c=32) && !isL c with|true=>c::dF p|false=>dF p:=by
   unfold dF;rw[List.filter_cons]
   cases (!decide (c=32) && !isL c)<;>rfl
  show (match !decide ([c]=[32]) with
 | true=>(some (!decide (c∈([13,10,133,8232,8233]:List Nat)))).bind fun b=>match b with
  | true=>some true
  | false=>some false
 | false=>some false).bind _=_
  rw[e,xO];unfold isL
  cases decide (c=32) with
  | true=>exact ih
  | false=>
   cases decide (c∈([13,10,133,8232,8233]:List Nat)) with
   | true=>exact ih
   | false=>
    show (sO _ (chs p)).map _=_;rw[ih];rfl
theorem Fo{p:List Nat}(h:p.length≤9000)(fl:aL):eK sR [.str p] [] fl=some (.lst (chs (dF p)),fl):=by
 rw[Wq,Jf,aX]
 have:(chs (dF p)).length≤10000:=by
  rw[Hg];have:(dF p).length≤p.length:=List.length_filter_le _ _;lia
 rw[fX (show (chs (dF p)).length≤aO from this)];rfl
theorem Wv(x:List Nat)(a:Int)(lv:Int)(fl:aL):eK Dd [.str x,.int a,.int lv] [] fl=onO (bR (.str x) (.int a) (.int (a+1))) (fun c=>onO (bR (.str x) (.int (a+1)) (.int (a+2))) (fun d=>
 (fun K:Bool→PV=>onO (aG .Eq c (vs "")) (fun z=>onB z (K z) (onO (aG .Eq c (vs " ")) (fun z=>onB z (K z) (onO (aG .In c (vs "\r\n\u0085\u2028\u2029")) (fun z=>onB z (K z) (K false)) none)) none)) none) fun z=>onB z (some (.bool true,fl)) (onO (aG .Eq c (vs ":")) (fun z=>
  onB z (onO (aG .Eq d (vs "")) (fun z=>onB z (some (.bool z,fl)) (onO (aG .Eq d (vs " ")) (fun z=>onB z (some (.bool z,fl)) (onO (aG .In d (vs "\r\n\u0085\u2028\u2029")) (fun z=>onB z (some (.bool z,fl)) (onB (!(!decide (lv=0))) (some (.bool (!decide (lv=0)),fl)) (onO (aG .In d (vs ",[]{}")) (fun z=>some (.bool z,fl)) none))) none)) none)) none)
   (onB (!(!decide (lv=0))) (some (.bool (!decide (lv=0)),fl)) (onO (aG .In c (vs ",?[]{}")) (fun z=>some (.bool z,fl)) none))) none)) none) none:=by kernel_rfl
theorem lY{l:List Nat}{a b:Nat}(h:a≤l.length):bR (.str l) (.int (a:Int)) (.int (b:Int))=some (.str (cut l a b)):=by
 show some (V.str ((l.drop (clipAt l.length (a:Int))).take (clipAt l.length (b:Int)-clipAt l.length (a:Int))))=_;rw[eI,eI,Nat.min_eq_left h];unfold cut
 rcases Nat.le_total b l.length with q|q
 ·rw[Nat.min_eq_left q]
 ·rw[Nat.min_eq_right q,List.take_of_length_le (by rw[List.length_drop];exact aK _),List.take_of_length_le (by rw[List.length_drop];exact Nat.sub_le_sub_right ‹_› _)]
theorem Jc{x:List Nat}{a:Nat}(h:a≤x.length):bR (.str x) (.int (a:Int)) (.int ((a:Int)+1))=some (.str (cut x a (a+1))):=lY (b:=a+1) h
theorem iK{x:List Nat}{i:Nat}(h:i<x.length):ch (x++[0]) i=ch x i:=by
 unfold ch;rw[List.getElem?_append_left h]
theorem Cc{x:List Nat}{a b:Nat}(h:x.length≤a):cut x a b=[]:=by
 unfold cut;rw[List.drop_eq_nil_of_le h,List.take_nil]
theorem Rs{x:List Nat}{a:Nat}(h:a≤x.length):(x++[0]).drop a=x.drop a++[0]:=by
 rw[List.drop_append,Nat.sub_eq_zero_of_le h];rfl
theorem Hd{x:List Nat}{a b:Nat}(h:b≤x.length)(l:a≤b):cut (x++[0]) a b=cut x a b:=by
 unfold cut;rw[Rs (by exact aJ ‹_› ‹_›),List.take_append_of_le_length (by rw[List.length_drop];exact Nat.sub_le_sub_right ‹_› _)]
theorem Bm{c:Nat}(h:isB c=true):c=0∨c=32∨c=9∨isL c=true:=by
 rcases pY h with z|z|z
 ·exact .inl z
 ·have:=aI z
  simp only[List.mem_cons,List.not_mem_nil,or_false] at this
  rcases this with y|y
  ·exact .inr (.inl y)
  ·exact .inr (.inr (.inl y))
 ·exact .inr (.inr (.inr z))
theorem Us{x:List Nat}{a:Nat}{lv:Int}(F:TF (x++[0]))(h:dC (x++[0]) a lv)(ha:a≤x.length)(fl:aL):eK Dd [.str x,.int (a:Int),.int lv] [] fl=some (.bool true,fl):=by
 have len:(x++[0]).length=x.length+1:=by rw[aU];rfl
 have nz:∀i,i<x.length→ch x i≠0:=fun i hi=>by rw[←iK hi];exact F.nz i (by lia)
 have n9:∀i,i<x.length→ch x i≠9:=fun i hi z=>by
  rw[←iK hi] at z;exact F.notabs z (by decide)
 rw[Wv,Jc ha,aX]
 rcases Nat.lt_or_eq_of_le ha with lt|eq
 ·have cc:cut x a (a+1)=[ch x a]:=eZ lt
  have hd:bR (.str x) (.int ((a:Int)+1)) (.int ((a:Int)+2))=some (.str (cut x (a+1) (a+2))):=lY (a:=a+1) (b:=a+2) lt;rw[hd,aX,cc];dsimp only;unfold dC at h;rw[iK lt] at h;rw[show aG .Eq (.str [ch x a]) (vs "")=some false from rfl,aX,bI,show aG .Eq (.str [ch x a]) (vs " ")=some (decide (ch x a=32)) from eW _ 32,aX]
  cases h32:decide (ch x a=32) with
  | true=>rfl
  | false=>
   rw[bI,show aG .In (.str [ch x a]) (vs "\r\n\u0085\u2028\u2029")=some (isL (ch x a)) from rfl,aX]
   cases hL:isL (ch x a) with
   | true=>rfl
   | false=>
    have nB:isB (ch x a)=true→False:=fun z=>by
     rcases Bm z with y|y|y|y
     ·exact nz a lt y
     ·exact cK h32 y
     ·exact n9 a lt y
     ·rw[hL] at y;exact bx y
    rw[bI,bI,show aG .Eq (.str [ch x a]) (vs ":")=some (decide (ch x a=58)) from eW _ 58,aX]
    cases h58:decide (ch x a=58) with
    | true=>
     rw[eP]
     have h2:isB (ch (x++[0]) (a+1))=true∨(lv≠0∧ch (x++[0]) (a+1)∈([44,91,93,123,125]:List Nat)):=by
      rcases h with z|z|z
      ·exact (nB z).elim
      ·exact z.2
      ·exfalso
       have:=z.2;rw[aI h58] at this;revert this;decide
     rcases Nat.lt_or_ge (a+1) x.length with l2|g2
     ·have c2:cut x (a+1) (a+2)=[ch x (a+1)]:=eZ l2
      rw[iK l2] at h2;rw[c2,show aG .Eq (.str [ch x (a+1)]) (vs "")=some false from rfl,aX,bI,show aG .Eq (.str [ch x (a+1)]) (vs " ")=some (decide (ch x (a+1)=32)) from eW _ 32,aX]
      cases k32:decide (ch x (a+1)=32) with
      | true=>rfl
      | false=>
       rw[bI,show aG .In (.str [ch x (a+1)]) (vs "\r\n\u0085\u2028\u2029")=some (isL (ch x (a+1))) from rfl,aX]
       cases kL:isL (ch x (a+1)) with
       | true=>rfl
       | false=>
        have h3:lv≠0∧ch x (a+1)∈([44,91,93,123,125]:List Nat):=by
         rcases h2 with z|z
         ·exfalso
          rcases Bm z with y|y|y|y
          ·exact nz _ l2 y
          ·exact cK k32 y
          ·exact n9 _ l2 y
          ·rw[kL] at y;exact bx y
         ·exact z
        rw[bI,cE h3.1];rw[show (!!false)=false from rfl,bI,show aG .In (.str [ch x (a+1)]) (vs ",[]{}")=some (decide (ch x (a+1)∈([44,91,93,123,125]:List Nat))) from rfl,bN h3.2];rfl
     ·rw[Cc g2];rfl
    | false=>
     have h3:lv≠0∧ch x a∈([44,63,91,93,123,125]:List Nat):=by
      rcases h with z|z|z
      ·exact (nB z).elim
      ·exact absurd z.1 (cK h58)
      ·exact z
     rw[bI,cE h3.1];rw[show (!!false)=false from rfl,bI,show aG .In (.str [ch x a]) (vs ",?[]{}")=some (decide (ch x a∈([44,63,91,93,123,125]:List Nat))) from rfl,bN h3.2];rfl
 ·have c0:cut x a (a+1)=[]:=Cc (Nat.le_of_eq eq.symm)
  have hd:∃r,bR (.str x) (.int ((a:Int)+1)) (.int ((a:Int)+2))=some (.str r):=⟨_,rfl⟩;obtain⟨r,hd⟩:=hd;rw[hd,aX,c0];rfl
theorem Ux(v part:List Nat)(fl:aL):eK kQ [.str (sL "<alias>"),.str v,.str part] [] fl=onO (iX (vs "*") (.str v)) (fun s=>onO (aG .Eq (.str part) s) (fun z=>some (.bool z,fl)) none) none:=by kernel_rfl
theorem Og(v part:List Nat)(fl:aL):eK kQ [.str (sL "<anchor>"),.str v,.str part] [] fl=onO (iX (vs "&") (.str v)) (fun s=>onO (aG .Eq (.str part) s) (fun z=>some (.bool z,fl)) none) none:=by kernel_rfl
theorem FR(h x part:List Nat)(fl:aL):eK kQ [.str (sL "<tag>"),.tup [.str h,.str x],.str part] [] fl=onO (iX (.str h) (.str x)) (fun s=>onO (aG .Eq (.str part) s) (fun z=>some (.bool z,fl)) none) none:=by kernel_rfl
theorem Uw(v part:List Nat)(fl:aL):eK kQ [.str (sL "<scalar>"),.tup [.str v,.bool true,.none],.str part] [] fl=onO (aG .NotEq (.str v) (vs "")) (fun z=>onB (!z) (some (.bool z,fl)) (onO (gOf Ag [.str part,vs ""] []) (fun f=>onO (aG .Eq (.str v) f) (fun z=>some (.bool z,fl)) none) none)) none:=by kernel_rfl
theorem FT(v part:List Nat)(fl:aL):eK kQ [.str (sL "<scalar>"),.tup [.str v,.bool false,.str [124]],.str part] [] fl=onO (bR (.str part) .none (.int 1)) (fun a=>onO (aG .Eq a (vs "|")) (fun z=>onB (!z) (some (.bool z,fl)) (onO (gOf sR [.str v] []) (fun p=>onO (bR (.str part) (.int 1) .none) (fun r=>onO (gOf sR [r] []) (fun q=>onO (aG .Eq p q) (fun z=>some (.bool z,fl)) none) none) none) none)) none) none:=by kernel_rfl
theorem Uv(v part:List Nat)(q:Nat)(hq:q=34∨q=39)(fl:aL):eK kQ [.str (sL "<scalar>"),.tup [.str v,.bool false,.str [q]],.str part] [] fl=onB (!decide ((1:Int)<(part.length:Int))) (some (.bool (decide ((1:Int)<(part.length:Int))),fl)) (onO (bR (.str part) .none (.int 1)) (fun a=>onO (aG .Eq a (.str [q])) (fun z=>onB (!z) (some (.bool z,fl))
 (onO (bR (.str part) (.int (-1)) .none) (fun a=>onO (aG .Eq a (.str [q])) (fun z=>onB (!z) (some (.bool z,fl)) (onO (bR (.str part) (.int 1) (.int (-1))) (fun r=>onO (gOf Ag [r,.str [q]] []) (fun f=>onO (aG .Eq (.str v) f) (fun z=>some (.bool z,fl)) none) none) none)) none) none)) none) none):=by
 rcases hq with rfl|rfl<;>kernel_rfl
theorem mM(a:List Nat):aG .Eq (.str a) (.str a)=some true:=congrArg some (bN rfl)
theorem CN(a:List Nat):aG .Eq (.lst (chs a)) (.lst (chs a))=some true:=by
 show (match Nat.beq (chs a).length (chs a).length with|true=>kK (gE 3) (chs a) (chs a)|false=>some false)=_;rw[Nat.beq_refl]
 induction a with
 | nil=>rfl
 | cons c a ih=>
  show (some (decide ([c]=[c]))).bind _=_;rw[bN rfl];show (kK (gE 3) (chs a) (chs a)).map _=_;have ih:kK (gE 3) (chs a) (chs a)=some true:=ih;rw[ih];rfl
theorem EW{l:List Nat}{c:Nat}:bR (.str (c::l)) (.int 1) .none=some (.str l):=by
 show some (V.str (((c::l).drop (clipAt (l.length+1) ((1:Nat):Int))).take (l.length+1-clipAt (l.length+1) ((1:Nat):Int))))=_;rw[show clipAt (l.length+1) ((1:Nat):Int)=1 from yQ _];show some (V.str (l.take l.length))=_;rw[List.take_length]
theorem GI{l:List Nat}{c d:Nat}:bR (.str (c::(l++[d]))) (.int (-1)) .none=some (.str [d]):=by
 have len:(c::(l++[d])).length=l.length+2:=by rw[List.length_cons,aU];rfl
 show some (V.str (((c::(l++[d])).drop (clipAt (c::(l++[d])).length (-1))).take ((c::(l++[d])).length-clipAt (c::(l++[d])).length (-1))))=_;rw[len,Cd]
 have:(c::(l++[d])).drop (l.length+1)=[d]:=by
  show (l++[d]).drop l.length=_;rw[List.drop_left]
 rw[this,show l.length+2-(l.length+1)=1 from Nat.add_sub_cancel_left (n:=l.length+1) (m:=1)];rfl
theorem mid1{l:List Nat}{c d:Nat}:bR (.str (c::(l++[d]))) (.int 1) (.int (-1))=some (.str l):=by
 have len:(c::(l++[d])).length=l.length+2:=by rw[List.length_cons,aU];rfl
 show some (V.str (((c::(l++[d])).drop (clipAt (c::(l++[d])).length ((1:Nat):Int))).take (clipAt (c::(l++[d])).length (-1)-clipAt (c::(l++[d])).length ((1:Nat):Int))))=_;rw[len,Cd,eI,Nat.min_eq_left (Nat.succ_pos _)];show some (V.str ((l++[d]).take l.length))=_;rw[List.take_left]
theorem Ur{k:Tk}{part:List Nat}(h:spelt k part)(hp:part.length≤300)(hz:∀i,i<part.length→ch part i≠0)(fl:aL):eK kQ [.str (kE k),mV k,.str part] [] fl=some (.bool true,fl):=by
 cases k with
 | two c b e=>
  refine aE h fun h1 h2=>?_;clear h;unfold kM at h1;simp only[List.mem_cons,List.not_mem_nil,or_false] at h1
  rcases h1 with rfl|rfl|rfl|rfl|rfl|rfl|rfl|rfl|rfl|rfl|rfl|rfl|rfl|rfl<;>rcases h2 with h2|⟨h3,h2⟩<;>first|(cases h3;done)|(subst h2;kernel_rfl)
 | dir b e=>
  have h:part=[37,68]:=h;subst h;kernel_rfl
 | nam c v b e=>
  rcases h with ⟨rfl,rfl⟩|⟨rfl,rfl⟩
  ·refine (Ux v _ fl).trans ?_
   rw[show vs "*" = .str [42] from rfl,uP (by have:v.length+1≤300:=hp;show 1+_≤_;lia),aX];show onO (aG .Eq (.str (42::v)) (.str (42::v))) _ _=_;rw[mM];rfl
  ·refine (Og v _ fl).trans ?_
   rw[show vs "&" = .str [38] from rfl,uP (by have:v.length+1≤300:=hp;show 1+_≤_;lia),aX];show onO (aG .Eq (.str (38::v)) (.str (38::v))) _ _=_;rw[mM];rfl
 | tag x y b e=>
  have h:part=x++y:=h;subst h;refine (FR x y _ fl).trans ?_;rw[uP (by rw[aU] at hp;exact aJ ‹_› (by decide)),aX,mM];rfl
 | sca v p s b e=>
  rcases h with ⟨rfl,rfl,h3,h4⟩|⟨rfl,rfl,r,rfl,h4,hv⟩|⟨rfl,q,r,hq,rfl,rfl,h4⟩
  ·refine (Uw v _ fl).trans ?_
   rw[show aG .NotEq (.str v) (vs "")=some (!decide (v=[])) from rfl,aX,cE h3]
   rw[show (!false)=true from rfl,show (!true)=false from rfl,bI,show vs "" = .str [] from rfl,gW (Nz (part:=part) (q:=[]) (qn:=0) (fun i hi=>by
    rw[cE (hz i hi)];rfl) hp),aX,←h4,mM];rfl
  ·refine (FT v _ fl).trans ?_
   have lv:(dF v).length≤300:=by
    rw[h4];have:(dF r).length≤r.length:=List.length_filter_le _ _;have hp:r.length+1≤300:=hp;exact aJ ‹_› (bA ‹_›)
   rw[Qe,aX,show aG .Eq (.str ((124::r).take 1)) (vs "|")=some true from rfl,aX,show (!true)=false from rfl,bI,gW (Fo (p:=v) hv),aX,EW,aX,gW (Fo (p:=r) (by have hp:r.length+1≤300:=hp;lia)),aX,h4,CN];rfl
  ·refine (Uv v _ q hq fl).trans ?_
   have len:(q::(r++[q])).length=r.length+2:=by rw[List.length_cons,aU];rfl
   rw[bN (show (1:Int)<((q::(r++[q])).length:Int) by rw[len];lia),show (!true)=false from rfl,bI,Qe,aX,show aG .Eq (.str ((q::(r++[q])).take 1)) (.str [q])=some true from congrArg some (bN rfl),aX,show (!true)=false from rfl,bI,GI,aX,mM,aX,show (!true)=false from rfl,bI,mid1,aX,
    gW (Nz (part:=r) (q:=[q]) (qn:=q) (fun i _=>eW _ q) (by rw[len] at hp;exact zt ‹_›)),aX,←h4,mM];rfl
section
structure LA where
 f:Str→MFn
 ini:List V→Option Sc
 told:PFn
 bare:PFn
 spelt:PFn
 ended:PFn
noncomputable def Pz(ini:List V→Option Sc):aY:=fun args kw fl _ k _ b=>onB (bP kw&&bP fl) (onO (ini args) (fun S=>k .none (mkF S)) b) b
noncomputable def OL(A:LA):Orc:=(TT 400).orc (("__init__", Pz A.ini)::pP A.f (TT 400).mths) [("_law_told", oE A.told),("_law_bare", oE A.bare),("_law_spelt", oE A.spelt),("_law_ended", oE A.ended)] true
noncomputable abbrev lwB(w:List (Nat×Nat)):List PySem.Stmt:=lS w (gD "law").2.2
noncomputable def XLR(A:LA)(w:List (Nat×Nat))(i:Nat)(st:St):R Fl:=yJ ((evN (OL A) (59-2*w.length)).exec (gD "law").1) ((lwB w).drop i) st
noncomputable abbrev XLw(A:LA)(w:List (Nat×Nat))(i:Nat)(st:St)(k:Fl→St→Prop)(ke:V→St→Prop):Prop:=XLR A w i st Prop k ke False
noncomputable def EX(A:LA)(w:List (Nat×Nat))(i:Nat)(st:St)(k:Fl→St→Prop)(ke:V→St→Prop):Prop:=(evN (OL A) (59-2*w.length)).exec (gD "law").1 (stm i (lwB w)) st Prop k ke False
theorem bD{A:LA}{w:List (Nat×Nat)}{i:Nat}{st:St}{k:Fl→St→Prop}{ke:V→St→Prop}(h:i<(lwB w).length):XLw A w i st k ke=EX A w i st (fun fl st=>pN fl st (XLR A w (i+1) st) Prop k ke False) ke:=by
 have e:(lwB w).drop i=stm i (lwB w)::(lwB w).drop (i+1):=by
  unfold stm;rw[List.drop_eq_getElem_cons h];rfl
 unfold XLw XLR;rw[e];rfl
theorem zA{A:LA}{w:List (Nat×Nat)}{i:Nat}{st:St}{k:Fl→St→Prop}{ke:V→St→Prop}(h:(lwB w).length≤i):XLw A w i st k ke=k .next st:=by
 unfold XLw XLR;rw[List.drop_eq_nil_of_le h];rfl
theorem cP:(lwB []).length=20:=by kernel_rfl
noncomputable def FL1(A:LA)(w:List (Nat×Nat))(i:Nat)(ks:List Str)(l:List V)(st:St)(k:Fl→St→Prop)(ke:V→St→Prop):Prop:=
 eU (iR (evN (OL A) (58-2*w.length)) (gD "law").1 (jZ (stm i (lwB w))).1 (jZ (stm i (lwB w))).2 ks) l st Prop k ke False
noncomputable abbrev OP{α:Type}(o:Option α)(k:α→Prop):Prop:=onO o k False
noncomputable abbrev noE:V→St→Prop:=fun _ _=>False
variable(A:LA)(k:Fl→St→Prop)(ke:V→St→Prop)
noncomputable abbrev q1(sv:V)(h:V):aL:=[("script", .val sv),("head", .val h)]
noncomputable abbrev q2(sv h tl:V):aL:=[("script", .val sv),("head", .val h),("tail", .val tl)]
noncomputable abbrev q4(sv h tl x kn:V):aL:=[("script", .val sv),("head", .val h),("tail", .val tl),("text", .val x),("known", .val kn)]
theorem w_0(sv:List V):EX A [] 0 ⟨[("script", .val (.lst sv))],[],true⟩ k ke=(fun J:V→Prop=>onB (!bU sv) (OP (dN (.lst sv) (.int 0)) fun a=>OP (hE a (.int 4)) J) (J (.int 0))) fun h=>k .next ⟨q1 (.lst sv) h,[],true⟩:=by kernel_rfl
theorem w_1(sv:List V)(h:V):EX A [] 1 ⟨q1 (.lst sv) h,[],true⟩ k ke=OP (bR (.lst sv) (.int 1) (.int 8)) fun s=>OP ((eY s).bind fun l=>kU (Jx 5040) l) fun vs=>onB (Nat.ble vs.length aO) (k .next ⟨q2 (.lst sv) h (.lst vs),[],true⟩) False:=by kernel_rfl
noncomputable def Bn:Nat→List Nat
 | 0=>[107,58,32,118]
 | 1=>[65279,45,32]
 | 2=>[45,32]
 | _=>[63,32,91,107,93,10,58,32]
noncomputable def eG:Nat→List V
 | 0=>[vs "<stream start>", vs "<block mapping start>", vs "?", vs "<scalar>", vs ":"]
 | 1=>[vs "<stream start>", vs "<block sequence start>", vs "-"]
 | 2=>[vs "<stream start>", vs "<block sequence start>", vs "-"]
 | _=>[vs "<stream start>", vs "<block mapping start>", vs "?", vs "[", vs "<scalar>", vs "]", vs ":"]
theorem w_2(sv tl:V)(j:Nat)(hj:j<4):EX A [] 2 ⟨q2 sv (.int j) tl,[],true⟩ k ke=k .next ⟨q4 sv (.int j) tl (.str (Bn j)) (.lst (eG j)),[],true⟩:=by
 rcases j with _|_|_|_|j
 ·kernel_rfl
 ·kernel_rfl
 ·kernel_rfl
 ·kernel_rfl
 ·lia
noncomputable abbrev qK4:List Str:=["script", "head", "tail", "text", "known"]
noncomputable def Db:V:=rU "_law_SIGNS" cI
theorem w_3(sv h x kn tl:V):EX A [] 3 ⟨q4 sv h tl x kn,[],true⟩ k ke=OP (lA tl) fun n=>OP (nH n) fun l=>FL1 A [] 3 qK4 l ⟨q4 sv h tl x kn,[],true⟩ k ke:=by kernel_rfl
theorem l_3(sv h x kn tl:V)(i:Int)(l:List V):FL1 A [] 3 qK4 (.int i::l) ⟨q4 sv h tl x kn,[],true⟩ k ke=OP (dN tl (.int i)) fun a=>OP (Fy (.int 5) (.int i)) fun m=>OP (iX a m) fun s=>OP (hE s (.int 28)) fun r=>OP (dN Db r) fun g=>OP (iX x g) fun x=>FL1 A [] 3 qK4 l ⟨q4 sv h tl x kn,[],true⟩ k ke:=by kernel_rfl
noncomputable abbrev q7(sv h tl x kn:V)(sl row:Slot)(fa:V):aL:=[("script", .val sv),("head", .val h),("tail", .val tl),("text", .val x),("known", .val kn),("scanner", sl),("row", row),("fault", .val fa)]
noncomputable abbrev q5(sv h tl x kn:V)(sl:Slot):aL:=[("script", .val sv),("head", .val h),("tail", .val tl),("text", .val x),("known", .val kn),("scanner", sl)]
noncomputable abbrev q6(sv h tl x kn:V)(sl row:Slot):aL:=[("script", .val sv),("head", .val h),("tail", .val tl),("text", .val x),("known", .val kn),("scanner", sl),("row", row)]
theorem w_4(sv h x kn tl:V):EX A [] 4 ⟨q4 sv h tl x kn,[],true⟩ k ke=OP (A.ini [x]) fun S=>k .next ⟨q5 sv h tl x kn .self,mkF S,true⟩:=by kernel_rfl
theorem w_5(sv h x kn tl:V)(sl:Slot)(fl:aL):EX A [] 5 ⟨q5 sv h tl x kn sl,fl,true⟩ k ke=k .next ⟨q6 sv h tl x kn sl (.lst []),fl,true⟩:=by kernel_rfl
theorem w_6(sv h x kn tl:V)(sl row:Slot)(fl:aL):EX A [] 6 ⟨q6 sv h tl x kn sl row,fl,true⟩ k ke=k .next ⟨q7 sv h tl x kn sl row (.int (-1)),fl,true⟩:=by kernel_rfl
noncomputable abbrev qK7:List Str:=["script", "head", "tail", "text", "known", "scanner", "row", "fault"]
end
section
variable(A:LA)(k:Fl→St→Prop)(ke:V→St→Prop)
noncomputable def hndl:PySem.Stmt→List ExceptHandler
 | .Try _ hs _ _ _=>hs
 | _=>[]
noncomputable def CT(A:LA)(i:Nat)(e:V)(st:St)(k:Fl→St→Prop):Prop:=Eo (OL A) (gD "law").1 (hndl (stm i (lwB []))) e st Prop k noE False
theorem w_7(sv h x kn tl fa:V)(sl:Slot)(r:Slot)(fl:aL):EX A [] 7 ⟨q7 sv h tl x kn sl r fa,fl,true⟩ k ke=XLw A [(7,0)] 0 ⟨q7 sv h tl x kn sl r fa,fl,true⟩ (fun f st=>k f (st.keep qK7)) (fun e st=>CT A 7 e (st.keep qK7) k):=by kernel_rfl
theorem w_70(sv h x kn tl fa:V)(sl:Slot)(r:Slot)(fl:aL):EX A [(7,0)] 0 ⟨q7 sv h tl x kn sl r fa,fl,true⟩ k ke=OP (nH (.int 120)) fun l=>FL1 A [(7,0)] 0 qK7 l ⟨q7 sv h tl x kn sl r fa,fl,true⟩ k ke:=by kernel_rfl
theorem BF(sv h x kn tl fa c:V)(l r:List V)(S:Sc):FL1 A [(7,0)] 0 qK7 (c::l) ⟨q7 sv h tl x kn .self (.lst r) fa,mkF S,true⟩ k ke=(A.f "get_token" [] [] S).on (fun v S=>OP (oH v) fun z=>onB z (k .next ⟨q7 sv h tl x kn .self (.lst r) fa,mkF S,true⟩) (OP (A.told [v] []) fun w=>onB (Nat.ble (r++[w]).length aO)
 (FL1 A [(7,0)] 0 qK7 l ⟨q7 sv h tl x kn .self (.lst (r++[w])) fa,mkF S,true⟩ k ke) False)) (fun e=>ke e ⟨q7 sv h tl x kn .gone (.lst r) fa,[],true⟩) False:=by kernel_rfl
theorem c_7(sv h x kn tl fa a b c:V)(sl r:Slot)(fl:aL)(t:List Nat)(i:Nat):CT A 7 (nF a b c (mk t i)) ⟨q7 sv h tl x kn sl r fa,fl,true⟩ k=k .next ⟨q7 sv h tl x kn sl r (.int i),fl,true⟩:=by kernel_rfl
theorem w_8(sv h x kn tl fa:V)(sl:Slot)(r:List V)(fl:aL):EX A [] 8 ⟨q7 sv h tl x kn sl (.lst r) fa,fl,true⟩ k ke=(fun Kt:Bool→Prop=>OP (bR (.lst r) .none (.int 1)) fun a=>OP (aG .NotEq a (.lst [dP])) fun z=>onB z (Kt z) (OP (lA kn) fun n=>OP (bR (.lst r) .none n) fun s=>OP ((eY s).bind fun l=>kU qV l) fun vs=>onB (Nat.ble vs.length aO)
 (OP (aG .NotEq (.lst vs) kn) fun z=>onB z (Kt z) (Kt false)) False)) fun c=>onB c (k (.ret (.bool false)) ⟨q7 sv h tl x kn sl (.val (.lst r)) fa,fl,true⟩) (k .next ⟨q7 sv h tl x kn sl (.val (.lst r)) fa,fl,true⟩):=by kernel_rfl
noncomputable abbrev q9(sv h tl x kn:V)(sl:Slot)(r fa la:V):aL:=[("script", .val sv),("head", .val h),("tail", .val tl),("text", .val x),("known", .val kn),("scanner", sl),("row", .val r),("fault", .val fa),("last", .val la)]
noncomputable abbrev q10(sv h tl x kn:V)(sl:Slot)(r fa la lv:V):aL:=[("script", .val sv),("head", .val h),("tail", .val tl),("text", .val x),("known", .val kn),("scanner", sl),("row", .val r),("fault", .val fa),("last", .val la),("level", .val lv)]
noncomputable abbrev q11(sv h tl x kn:V)(sl:Slot)(r fa la lv bl:V):aL:=[("script", .val sv),("head", .val h),("tail", .val tl),("text", .val x),("known", .val kn),("scanner", sl),("row", .val r),("fault", .val fa),("last", .val la),("level", .val lv),("blocks", .val bl)]
noncomputable abbrev q12(sv h tl x kn:V)(sl:Slot)(r fa la lv bl bf:V):aL:=[("script", .val sv),("head", .val h),("tail", .val tl),("text", .val x),("known", .val kn),("scanner", sl),("row", .val r),("fault", .val fa),("last", .val la),("level", .val lv),("blocks", .val bl),("before", .val bf)]
noncomputable abbrev kR:List Str:=["script", "head", "tail", "text", "known", "scanner", "row", "fault", "last", "level", "blocks", "before"]
theorem w_9(sv h x kn tl fa r:V)(sl:Slot)(fl:aL):EX A [] 9 ⟨q7 sv h tl x kn sl (.val r) fa,fl,true⟩ k ke=OP (aG .Eq h (.int 1)) fun z=>onB z (k .next ⟨q9 sv h tl x kn sl r fa (.int 1),fl,true⟩) (k .next ⟨q9 sv h tl x kn sl r fa (.int 0),fl,true⟩):=by kernel_rfl
theorem w_10(sv h x kn tl fa r la:V)(sl:Slot)(fl:aL):EX A [] 10 ⟨q9 sv h tl x kn sl r fa la,fl,true⟩ k ke=k .next ⟨q10 sv h tl x kn sl r fa la (.int 0),fl,true⟩:=by kernel_rfl
theorem w_11(sv h x kn tl fa r la lv:V)(sl:Slot)(fl:aL):EX A [] 11 ⟨q10 sv h tl x kn sl r fa la lv,fl,true⟩ k ke=k .next ⟨q11 sv h tl x kn sl r fa la lv (.int 0),fl,true⟩:=by kernel_rfl
theorem w_12(sv h x kn tl fa r la lv bl:V)(sl:Slot)(fl:aL):EX A [] 12 ⟨q11 sv h tl x kn sl r fa la lv bl,fl,true⟩ k ke=k .next ⟨q12 sv h tl x kn sl r fa la lv bl (.str []),fl,true⟩:=by kernel_rfl
theorem w_13(sv h x kn tl fa r la lv bl bf:V)(sl:Slot)(fl:aL):EX A [] 13 ⟨q12 sv h tl x kn sl r fa la lv bl bf,fl,true⟩ k ke=OP (bR r (.int 1) .none) fun s=>OP (eY s) fun l=>FL1 A [] 13 kR l ⟨q12 sv h tl x kn sl r fa la lv bl bf,fl,true⟩ k ke:=by kernel_rfl
noncomputable abbrev q16(sv h tl x kn:V)(sl:Slot)(r fa la lv bl bf kd to b e:V):aL:=[("script", .val sv),("head", .val h),("tail", .val tl),("text", .val x),("known", .val kn),("scanner", sl),("row", .val r),("fault", .val fa),("last", .val la),("level", .val lv),("blocks", .val bl),("before", .val bf),("kind", .val kd),("told", .val to),("begun", .val b),("ended", .val e)]
noncomputable def RF1(A:LA)(w:List (Nat×Nat))(i:Nat)(ks:List Str)(l:List V)(st:St):R Fl:=eU (iR (evN (OL A) (58-2*w.length)) (gD "law").1 (jZ (stm i (lwB w))).1 (jZ (stm i (lwB w))).2 ks) l st
theorem l_13(sv h x kn tl fa r la lv bl bf kd to b e:V)(sl:Slot)(fl:aL)(l:List V):FL1 A [] 13 kR (.tup [kd,to,b,e]::l) ⟨q12 sv h tl x kn sl r fa la lv bl bf,fl,true⟩ k ke=XLw A [(13,0)] 0 ⟨q16 sv h tl x kn sl r fa la lv bl bf kd to b e,fl,true⟩ (fun f st=>uX f (st.keep kR) (RF1 A [] 13 kR l (st.keep kR)) Prop k ke False) (fun e st=>ke e (st.keep kR)):=by kernel_rfl
theorem IZ(sv h x kn tl fa r kd to:V)(la lv bl b e:Int)(bf:List Nat)(sl:Slot)(fl:aL):EX A [(13,0)] 0 ⟨q16 sv h tl x kn sl r fa (.int la) (.int lv) (.int bl) (.str bf) kd to (.int b) (.int e),fl,true⟩ k ke=(fun Kt:Bool→Prop=>OP (aG .Eq (.str bf) (vs "<stream end>")) fun z=>onB z (Kt z) ((fun J:Bool→Prop=>onB (decide (la≤b)) (onB (decide (b≤e)) (OP (lA x) fun n=>OP (leV (.int e) n) J) (J false)) (J false)) fun c=>onB (!c) (Kt (!c)) (Kt false))) fun c=>
 onB c (k (.ret (.bool false)) ⟨q16 sv h tl x kn sl r fa (.int la) (.int lv) (.int bl) (.str bf) kd to (.int b) (.int e),fl,true⟩) (k .next ⟨q16 sv h tl x kn sl r fa (.int la) (.int lv) (.int bl) (.str bf) kd to (.int b) (.int e),fl,true⟩):=by kernel_rfl
theorem IY(sv h x kn tl fa r kd to la lv bl b e bf:V)(sl:Slot)(fl:aL):EX A [(13,0)] 1 ⟨q16 sv h tl x kn sl r fa la lv bl bf kd to b e,fl,true⟩ k ke=(fun Kt:Bool→Prop=>OP (bR x la b) fun g=>OP (A.bare [g,bf] []) fun v=>OP (cF v) fun z=>onB (!z) (Kt (!z)) (OP (bR x b e) fun p=>OP (A.spelt [kd,to,p] []) fun v=>OP (cF v) fun z=>onB (!z) (Kt (!z)) (Kt false))) fun c=>
 onB c (k (.ret (.bool false)) ⟨q16 sv h tl x kn sl r fa la lv bl bf kd to b e,fl,true⟩) (k .next ⟨q16 sv h tl x kn sl r fa la lv bl bf kd to b e,fl,true⟩):=by kernel_rfl
theorem IX(sv h x kn tl fa r kd to la lv bl b e bf:V)(sl:Slot)(fl:aL):EX A [(13,0)] 2 ⟨q16 sv h tl x kn sl r fa la lv bl bf kd to b e,fl,true⟩ k ke=k .next ⟨q16 sv h tl x kn sl r fa la lv bl kd kd to b e,fl,true⟩:=by kernel_rfl
theorem IW(sv h x kn tl fa r kd to la lv bl b e bf:V)(sl:Slot)(fl:aL):EX A [(13,0)] 4 ⟨q16 sv h tl x kn sl r fa la lv bl bf kd to b e,fl,true⟩ k ke=k .next ⟨q16 sv h tl x kn sl r fa e lv bl bf kd to b e,fl,true⟩:=by kernel_rfl
theorem Xs(sv h x kn tl fa r to la lv bl b e bf:V)(sl:Slot)(fl:aL)(kd:List Nat)(hk:kd=sL "<stream end>" ∨ kd=sL "?" ∨ kd=sL ":" ∨ kd=sL "-" ∨ kd=sL "," ∨ kd=sL "<document start>" ∨ kd=sL "<document end>" ∨ kd=sL "<directive>" ∨ kd=sL "<alias>" ∨ kd=sL "<anchor>" ∨ kd=sL "<tag>") :
  EX A [(13,0)] 3 ⟨q16 sv h tl x kn sl r fa la lv bl bf (.str kd) to b e,fl,true⟩ k ke=k .next ⟨q16 sv h tl x kn sl r fa la lv bl bf (.str kd) to b e,fl,true⟩:=by
 rcases hk with rfl|rfl|rfl|rfl|rfl|rfl|rfl|rfl|rfl|rfl|rfl<;>kernel_rfl
theorem Xo(sv h x kn tl fa r to la bl b e bf:V)(lv:Int)(sl:Slot)(fl:aL)(kd:List Nat)(hk:kd=sL "[" ∨ kd=sL "{") :
  EX A [(13,0)] 3 ⟨q16 sv h tl x kn sl r fa la (.int lv) bl bf (.str kd) to b e,fl,true⟩ k ke=k .next ⟨q16 sv h tl x kn sl r fa la (.int (lv+1)) bl bf (.str kd) to b e,fl,true⟩:=by
 rcases hk with rfl|rfl<;>kernel_rfl
theorem Xq(sv h x kn tl fa r to la bl b e bf:V)(lv:Int)(sl:Slot)(fl:aL)(kd:List Nat)(hk:kd=sL "]" ∨ kd=sL "}") :
  EX A [(13,0)] 3 ⟨q16 sv h tl x kn sl r fa la (.int lv) bl bf (.str kd) to b e,fl,true⟩ k ke=k .next ⟨q16 sv h tl x kn sl r fa la (.int (lv-1)) bl bf (.str kd) to b e,fl,true⟩:=by
 rcases hk with rfl|rfl<;>kernel_rfl
theorem Xr(sv h x kn tl fa r to la lv b e bf:V)(bl:Int)(sl:Slot)(fl:aL)(kd:List Nat)(hk:kd=sL "<block sequence start>" ∨ kd=sL "<block mapping start>") :
  EX A [(13,0)] 3 ⟨q16 sv h tl x kn sl r fa la lv (.int bl) bf (.str kd) to b e,fl,true⟩ k ke=k .next ⟨q16 sv h tl x kn sl r fa la lv (.int (bl+1)) bf (.str kd) to b e,fl,true⟩:=by
 rcases hk with rfl|rfl<;>kernel_rfl
theorem Xp(sv h x kn tl fa r to la lv b e bf:V)(bl:Int)(sl:Slot)(fl:aL) :
  EX A [(13,0)] 3 ⟨q16 sv h tl x kn sl r fa la lv (.int bl) bf (vs "<block end>") to b e,fl,true⟩ k ke=onB (decide (bl-1<0)) (k (.ret (.bool false)) ⟨q16 sv h tl x kn sl r fa la lv (.int (bl-1)) bf (vs "<block end>") to b e,fl,true⟩) (k .next ⟨q16 sv h tl x kn sl r fa la lv (.int (bl-1)) bf (vs "<block end>") to b e,fl,true⟩):=by kernel_rfl
theorem Xn(sv h x kn tl fa r la lv bl b e bf v s:V)(p:Bool)(sl:Slot)(fl:aL) :
  EX A [(13,0)] 3 ⟨q16 sv h tl x kn sl r fa la lv bl bf (vs "<scalar>") (.tup [v,.bool p,s]) b e,fl,true⟩ k ke=onB (!p) (k .next ⟨q16 sv h tl x kn sl r fa la lv bl bf (vs "<scalar>") (.tup [v,.bool p,s]) b e,fl,true⟩)
   (OP (A.ended [x,e,lv] []) fun w=>OP (cF w) fun z=>onB (!z) (k (.ret (.bool false)) ⟨q16 sv h tl x kn sl r fa la lv bl (vs "plain") (vs "<scalar>") (.tup [v,.bool p,s]) b e,fl,true⟩) (k .next ⟨q16 sv h tl x kn sl r fa la lv bl (vs "plain") (vs "<scalar>") (.tup [v,.bool p,s]) b e,fl,true⟩)):=by
 cases p<;>kernel_rfl
theorem w_14(sv h x kn tl r:V)(f la lv bl:Int)(bf:List Nat)(sl:Slot)(fl:aL):EX A [] 14 ⟨q12 sv h tl x kn sl r (.int f) (.int la) (.int lv) (.int bl) (.str bf),fl,true⟩ k ke=(fun Kt:Bool→Prop=>onB (decide (f<0)) (OP (aG .NotEq (.str bf) (vs "<stream end>")) fun z=>onB z (Kt z) (OP (lA x) fun n=>OP (aG .NotEq (.int la) n) fun z=>onB z (Kt z) ((fun J:Bool→Prop=>onB (!decide (lv=0)) (J (decide (lv=0))) (onB (!(!decide (bl=0))) (J (!decide (bl=0))) (J true))) fun z=>onB z (Kt z) (Kt false))))
 ((fun J:Bool→Prop=>onB (decide (la≤f)) (OP (lA x) fun n=>OP (leV (.int f) n) J) (J false)) fun c=>Kt (!c))) fun c=>onB c (k (.ret (.bool false)) ⟨q12 sv h tl x kn sl r (.int f) (.int la) (.int lv) (.int bl) (.str bf),fl,true⟩) (k .next ⟨q12 sv h tl x kn sl r (.int f) (.int la) (.int lv) (.int bl) (.str bf),fl,true⟩):=by kernel_rfl
noncomputable abbrev q13(sv h tl x kn:V)(sl:Slot)(r fa la lv bl bf:V)(ag:Slot):aL:=[("script", .val sv),("head", .val h),("tail", .val tl),("text", .val x),("known", .val kn),("scanner", sl),("row", .val r),("fault", .val fa),("last", .val la),("level", .val lv),("blocks", .val bl),("before", .val bf),("again", ag)]
noncomputable abbrev fL:List Str:=["script", "head", "tail", "text", "known", "scanner", "row", "fault", "last", "level", "blocks", "before", "again"]
theorem w_15(sv h x kn tl r fa la lv bl bf:V)(sl:Slot)(fl:aL):EX A [] 15 ⟨q12 sv h tl x kn sl r fa la lv bl bf,fl,true⟩ k ke=OP (A.ini [x]) fun S=>k .next ⟨q13 sv h tl x kn sl.kill r fa la lv bl bf .self,mkF S,true⟩:=by kernel_rfl
theorem w_16(sv h x kn tl r fa la lv bl bf:V)(sl:Slot)(S:Sc):EX A [] 16 ⟨q13 sv h tl x kn sl r fa la lv bl bf .self,mkF S,true⟩ k ke=OP (lA r) fun n=>OP (nH n) fun l=>FL1 A [] 16 fL l ⟨q13 sv h tl x kn sl r fa la lv bl bf .self,mkF S,true⟩ k ke:=by kernel_rfl
noncomputable abbrev q17(sv h tl x kn:V)(sl:Slot)(r fa la lv bl bf:V)(ag:Slot)(i:V):aL:=[("script", .val sv),("head", .val h),("tail", .val tl),("text", .val x),("known", .val kn),("scanner", sl),("row", .val r),("fault", .val fa),("last", .val la),("level", .val lv),("blocks", .val bl),("before", .val bf),("again", ag),("k", .val i)]
noncomputable abbrev q18(sv h tl x kn:V)(sl:Slot)(r fa la lv bl bf:V)(ag:Slot)(i sp:V):aL:=[("script", .val sv),("head", .val h),("tail", .val tl),("text", .val x),("known", .val kn),("scanner", sl),("row", .val r),("fault", .val fa),("last", .val la),("level", .val lv),("blocks", .val bl),("before", .val bf),("again", ag),("k", .val i),("spy", .val sp)]
noncomputable abbrev q19(sv h tl x kn:V)(sl:Slot)(r fa la lv bl bf:V)(ag:Slot)(i sp kd:V):aL:=[("script", .val sv),("head", .val h),("tail", .val tl),("text", .val x),("known", .val kn),("scanner", sl),("row", .val r),("fault", .val fa),("last", .val la),("level", .val lv),("blocks", .val bl),("before", .val bf),("again", ag),("k", .val i),("spy", .val sp),("kind", .val kd)]
theorem l_16(sv h x kn tl r fa la lv bl bf i:V)(sl:Slot)(S:Sc)(l:List V):FL1 A [] 16 fL (i::l) ⟨q13 sv h tl x kn sl r fa la lv bl bf .self,mkF S,true⟩ k ke=XLw A [(16,0)] 0 ⟨q17 sv h tl x kn sl r fa la lv bl bf .self i,mkF S,true⟩ (fun f st=>uX f (st.keep fL) (RF1 A [] 16 fL l (st.keep fL)) Prop k ke False) (fun e st=>ke e (st.keep fL)):=by kernel_rfl
theorem IV(sv h x kn r fa la lv bl bf:V)(tl:List V)(i:Int)(sl ag:Slot)(fl:aL):EX A [(16,0)] 0 ⟨q17 sv h (.lst tl) x kn sl r fa la lv bl bf ag (.int i),fl,true⟩ k ke=(fun J:V→Prop=>onB (!bU tl) (OP (hE (.int i) (.int tl.length)) fun m=>OP (dN (.lst tl) m) fun v=>OP (Gs v (.int 28)) fun v=>OP (hE v (.int 4)) J) (OP (hE (.int i) (.int 4)) J)) fun s=>k .next ⟨q18 sv h (.lst tl) x kn sl r fa la lv bl bf ag (.int i) s,fl,true⟩:=by kernel_rfl
theorem IU(sv h x kn r fa la lv bl bf tl i sp:V)(sl ag:Slot)(fl:aL):EX A [(16,0)] 1 ⟨q18 sv h tl x kn sl r fa la lv bl bf ag i sp,fl,true⟩ k ke=OP (dN r i) fun q=>OP (dN q (.int 0)) fun kd=>k .next ⟨q19 sv h tl x kn sl r fa la lv bl bf ag i sp kd,fl,true⟩:=by kernel_rfl
noncomputable abbrev mt(A:LA)(m:Str)(args:List V)(S:Sc)(k:V→Sc→Prop)(ke:V→Prop):Prop:=(A.f m args [] S).on k ke False
theorem IT(sv h x kn r fa la lv bl bf tl i kd:V)(sp:Int)(sl:Slot)(S:Sc):EX A [(16,0)] 2 ⟨q19 sv h tl x kn sl r fa la lv bl bf .self i (.int sp) kd,mkF S,true⟩ k ke=(fun Kt:Bool→Sc→Prop=>onB (!decide (sp=1)) (Kt (decide (sp=1)) S) (mt A "check_token" [] S (fun v S=>OP (cF v) fun z=>onB (!(!z)) (Kt (!z) S) (Kt true S)) fun e=>ke e ⟨q19 sv h tl x kn sl.kill r fa la lv bl bf .gone i (.int sp) kd,[],true⟩)) fun c S=>
 onB c (k (.ret (.bool false)) ⟨q19 sv h tl x kn sl r fa la lv bl bf .self i (.int sp) kd,mkF S,true⟩) (k .next ⟨q19 sv h tl x kn sl r fa la lv bl bf .self i (.int sp) kd,mkF S,true⟩):=by kernel_rfl
theorem IS(sv h x kn r fa la lv bl bf tl i kd:V)(sp:Int)(sl:Slot)(S:Sc):EX A [(16,0)] 3 ⟨q19 sv h tl x kn sl r fa la lv bl bf .self i (.int sp) kd,mkF S,true⟩ k ke=(fun Kt:Bool→Sc→Prop=>(fun T:(Bool→Sc→Prop)→Sc→Prop=>onB (!decide (sp=2)) (Kt (decide (sp=2)) S) (T (fun z S=>onB z ((fun z S=>onB (!z) (Kt z S) (Kt true S)) z S) (T (fun z S=>onB z ((fun z S=>onB (!z) (Kt z S) (Kt true S)) z S) ((fun z S=>onB (!z) (Kt z S) (Kt true S)) false S)) S)) S))
 fun J S=>mt A "peek_token" [] S (fun v S=>OP (A.told [v] []) fun w=>OP (dN r i) fun q=>OP (aG .NotEq w q) fun z=>J z S) fun e=>ke e ⟨q19 sv h tl x kn sl.kill r fa la lv bl bf .gone i (.int sp) kd,[],true⟩) fun c S=>
 onB c (k (.ret (.bool false)) ⟨q19 sv h tl x kn sl r fa la lv bl bf .self i (.int sp) kd,mkF S,true⟩) (k .next ⟨q19 sv h tl x kn sl r fa la lv bl bf .self i (.int sp) kd,mkF S,true⟩):=by kernel_rfl
noncomputable def k3:V:=.tup [vs ",", vs "?", vs "<scalar>"]
noncomputable def k3l:V:=.lst [vs ",", vs "?", vs "<scalar>"]
theorem IR(sv h x kn r fa la lv bl bf tl i kd:V)(sp:Int)(sl:Slot)(S:Sc):EX A [(16,0)] 4 ⟨q19 sv h tl x kn sl r fa la lv bl bf .self i (.int sp) kd,mkF S,true⟩ k ke=(fun Kt:Bool→Sc→Prop=>onB (!decide (sp=3)) (Kt (decide (sp=3)) S) (mt A "check_token" [.tup [kd]] S (fun v S=>OP (cF v) fun z=>(fun J:Bool→Sc→Prop=>onB (!z) (J (!z) S) (mt A "check_token" [k3] S (fun a S=>OP (aG .In kd k3l) fun b=>OP (aG .NotEq a (.bool b)) fun z=>onB z (J z S) (J false S)) fun e=>ke e ⟨q19 sv h tl x kn sl.kill r fa la lv bl bf .gone i (.int sp) kd,[],true⟩))
 fun z S=>onB (!z) (Kt z S) (Kt true S)) fun e=>ke e ⟨q19 sv h tl x kn sl.kill r fa la lv bl bf .gone i (.int sp) kd,[],true⟩)) fun c S=>
 onB c (k (.ret (.bool false)) ⟨q19 sv h tl x kn sl r fa la lv bl bf .self i (.int sp) kd,mkF S,true⟩) (k .next ⟨q19 sv h tl x kn sl r fa la lv bl bf .self i (.int sp) kd,mkF S,true⟩):=by kernel_rfl
theorem IQ(sv h x kn r fa la lv bl bf tl i kd sp:V)(sl:Slot)(S:Sc):EX A [(16,0)] 5 ⟨q19 sv h tl x kn sl r fa la lv bl bf .self i sp kd,mkF S,true⟩ k ke=mt A "get_token" [] S (fun v S=>OP (A.told [v] []) fun w=>OP (dN r i) fun q=>OP (aG .NotEq w q) fun z=>onB z (k (.ret (.bool false)) ⟨q19 sv h tl x kn sl r fa la lv bl bf .self i sp kd,mkF S,true⟩) (k .next ⟨q19 sv h tl x kn sl r fa la lv bl bf .self i sp kd,mkF S,true⟩)) fun e=>ke e ⟨q19 sv h tl x kn sl.kill r fa la lv bl bf .gone i sp kd,[],true⟩:=by kernel_rfl
theorem w_17(sv h x kn r la lv bl bf tl:V)(f:Int)(sl:Slot)(S:Sc):EX A [] 17 ⟨q13 sv h tl x kn sl r (.int f) la lv bl bf .self,mkF S,true⟩ k ke=(fun E:V→Prop=>(fun Kr:V→Sc→Prop=>onB (decide (f<0)) (mt A "check_token" [] S (fun v S=>OP (cF v) fun z=>onB (!(!z)) (Kr (.bool (!z)) S) (mt A "peek_token" [] S (fun v S=>OP (aG .Is v .none) fun z=>onB (!z) (Kr (.bool z) S) (mt A "get_token" [] S (fun v S=>OP (aG .Is v .none) fun z=>Kr (.bool z) S) E)) E)) E) (k .next ⟨q13 sv h tl x kn sl r (.int f) la lv bl bf .self,mkF S,true⟩))
 fun v S=>k (.ret v) ⟨q13 sv h tl x kn sl r (.int f) la lv bl bf .self,mkF S,true⟩) fun e=>ke e ⟨q13 sv h tl x kn sl.kill r (.int f) la lv bl bf .gone,[],true⟩:=by kernel_rfl
theorem w_18(sv h x kn r la lv bl bf tl:V)(f:Int)(sl:Slot)(S:Sc):EX A [] 18 ⟨q13 sv h tl x kn sl r (.int f) la lv bl bf .self,mkF S,true⟩ k ke=(fun E:V→Prop=>OP (hE (.int f) (.int 3)) fun m=>OP (aG .Eq m (.int 0)) fun z=>onB z (mt A "get_token" [] S (fun _ S=>k .next ⟨q13 sv h tl x kn sl r (.int f) la lv bl bf .self,mkF S,true⟩) E)
 (OP (hE (.int f) (.int 3)) fun m=>OP (aG .Eq m (.int 1)) fun z=>onB z (mt A "peek_token" [] S (fun _ S=>k .next ⟨q13 sv h tl x kn sl r (.int f) la lv bl bf .self,mkF S,true⟩) E) (mt A "check_token" [.tup [vs ","]] S (fun _ S=>k .next ⟨q13 sv h tl x kn sl r (.int f) la lv bl bf .self,mkF S,true⟩) E)))
 fun e=>CT A 18 e ⟨q13 sv h tl x kn sl.kill r (.int f) la lv bl bf .gone,[],true⟩ k:=by kernel_rfl
theorem c_18(sv h x kn r la lv bl bf tl a b c:V)(f:Int)(sl ag:Slot)(fl:aL)(t:List Nat)(i:Nat):CT A 18 (nF a b c (mk t i)) ⟨q13 sv h tl x kn sl r (.int f) la lv bl bf ag,fl,true⟩ k=k (.ret (.bool (decide ((i:Int)=f)))) ⟨q13 sv h tl x kn sl r (.int f) la lv bl bf ag,fl,true⟩:=by kernel_rfl
end
theorem cD{α:Type}{a:α}{k:α→Prop}:OP (some a) k=k a:=rfl
inductive rD(t:List Nat):Sc→List Tk→Option Nat→Prop where
 | fin {S S1:Sc} (h:Nn S S1) (h1:Nn S1 S1):rD t S [] none
 | err {S:Sc} {e:V} {i:Nat} (h:Er S e) (h1:iL t i e):rD t S [] (some i)
 | cons {S S1 S2:Sc} {k:Tk} {r:List Tk} {f:Option Nat} (h:Gv S S1 S2 (tkV t k) (kE k)) (h1:Gv S1 S1 S2 (tkV t k) (kE k)) (hc:Cls k) (h2:rD t S2 r f):rD t S (k::r) f
structure Th(t:List Nat)(r:List Tk)(f:Option Nat):Prop where
 good:uR t (ls0 t) r
 len:r.length≤112
 fin:f=none→(bW (ls0 t) r).bf=1∧(bW (ls0 t) r).last+1=t.length∧((bW (ls0 t) r).level=0→(bW (ls0 t) r).blocks=0)
 err:∀i,f=some i→(bW (ls0 t) r).last≤i∧i<t.length
section
variable{t:List Nat}
theorem Ki{l:List Tk}:∀{s:LS},uR t s l→s.last≤(bW s l).last:=by
 induction l with
 | nil=>intro s _;exact aK _
 | cons k l ih=>
  intro s h;exact aJ (aJ h.1.gap.le h.1.le) (ih h.2)
theorem hist(F:TF t):∀(n:Nat) (g:List Tk) (s:SS),Rdy t g s→113≤n+g.length→∃r f,rD t (sc t s) r f∧Th t (g++r) f:=by
 intro n
 induction n with
 | zero=>
  intro g s h hn;exfalso
  rcases h with h|⟨rfl,_⟩
  ·have:=h.pot;have:=h.tk;have:=F.wt;lia
  ·have:113≤0+0:=hn
   exact absurd ‹_› (Nat.not_lt_zero _)
 | succ n ih=>
  intro g s h hn
  have gl:g.length≤112:=by
   rcases h with h|⟨rfl,_⟩
   ·have:=h.pot;have:=h.tk;have:=F.wt;lia
   ·exact Nat.zero_le _
  rcases outs F h with ⟨e,i,h1,h2,h3,h4⟩|⟨s1,h1,h2,h3,h4,h5⟩|⟨s1,s2,k,h1,h2,h3⟩
  ·refine⟨[],some i,.err h1 h2,?_⟩
   rw[cA];refine⟨?_,gl,(fun q=>by exact sx q),fun j q=>?_⟩
   ·rcases h with h|⟨rfl,_⟩
    ·exact (lK.mp h.ch.good).1
    ·trivial
   ·obtain rfl:=so q
    refine⟨?_,h4⟩
    rcases h with h|⟨rfl,rfl⟩
    ·have a1:=Ki (lK.mp h.ch.good).2
     have a2:=h.ch.gap.le;rw[lP] at a2;rw[h.pos] at h3;lia
    ·show (ls0 t).last≤i
     rw[tI];exact h3
  ·refine⟨[],none,.fin h1 h2,?_⟩
   rw[cA];have hc:=h3.ch;refine oQ (h3.fin h5) fun f1 f2 f3 _=>?_;rw[h4,cA] at hc f3;exact⟨hc.good,gl,fun _=>⟨hc.bf.mpr h5,by rw[f3];exact f1,fun q=>by rw[hc.blk,f2 (hc.lev.symm.trans q)];rfl⟩,fun j q=>by exact ox q⟩
  ·refine iJ (ih (g++[k]) s2 (.inl h3) (by rw[aU];show 113≤n+(g.length+1);lia)) fun r f H R=>?_
   have e:(g++[k])++r=g++k::r:=by rw[fY];rfl
   rw[e] at R;exact⟨k::r,f,.cons h1 h2 (Bo h3.ch.good k (List.mem_append.mpr (.inl (List.mem_append.mpr (.inr (.head _)))))) H,R⟩
theorem Wa(F:TF t):∃r f,rD t (sc t st1) r f∧Th t r f:=hist F 113 [] st1 (.inr ⟨rfl,rfl⟩) (aK _)
structure Tl(A:LA):Prop where
 f:A.f=uu 12
 told:∀t k,Cls k→A.told [tkV t k] []=some (gC k)
 beg:∀t,A.told [Sw t] []=some dP
 bare:∀g b bf r,BfS bf b→(bf=2→∀c l,g=c::l→c≠35)→fJ (decide (bf=3)) g=some r→A.bare [.str g,.str b] []=some (.bool true)
 spelt:∀k part,spelt k part→part.length≤300→(∀i,i<part.length→ch part i≠0)→A.spelt [.str (kE k),mV k,.str part] []=some (.bool true)
 ended:∀x a lv,TF (x++[0])→dC (x++[0]) a lv→a≤x.length→A.ended [.str x,.int (a:Int),.int lv] []=some (.bool true)
variable{A:LA}(L:Tl A)
include L
theorem wO(S:Sc):A.f "get_token" [] [] S=gT S:=by rw[L.f]
theorem zD(S:Sc):A.f "peek_token" [] [] S=pT S:=by rw[L.f]
theorem zG(c:V)(S:Sc):A.f "check_token" [c] [] S=kT c S:=by rw[L.f]
theorem Cm(S:Sc):A.f "check_token" [] [] S=kT (.tup []) S:=by rw[L.f];exact Ll S
theorem Ks(k:Tk):oH (tkV t k)=some false:=by cases k<;>rfl
theorem run1{sv h x kn tl fa:V}{k:Fl→St→Prop}{ke:V→St→Prop}:∀{r:List Tk} {f:Option Nat} {S:Sc} {l r0:List V},rD t S r f→r.length<l.length→r0.length+r.length≤9000→
  (f=none→∀S',k .next ⟨q7 sv h tl x kn .self (.lst (r0++r.map gC)) fa,mkF S',true⟩)→(∀i e,f=some i→iL t i e→ke e ⟨q7 sv h tl x kn .gone (.lst (r0++r.map gC)) fa,[],true⟩)→
  FL1 A [(7,0)] 0 qK7 l ⟨q7 sv h tl x kn .self (.lst r0) fa,mkF S,true⟩ k ke:=by
 intro r
 induction r with
 | nil=>
  intro f S l r0 H hl hr hk he
  cases l with
  | nil=>cases hl
  | cons c l=>
   rw[BF,wO L];rw[List.map_nil,cA] at hk he
   cases H with
   | fin h h1=>
    rw[h.g];exact hk rfl _
   | err h h1=>
    rw[h.g];exact he _ _ rfl h1
 | cons tk r ih=>
  intro f S l r0 H hl hr hk he
  cases l with
  | nil=>cases hl
  | cons c l=>
   rw[BF,wO L]
   cases H with
   | cons h h1 hc h2=>
    rw[h.g];show OP (oH (tkV t tk)) _;rw[Ks L,cD,bI,L.told _ _ hc,cD]
    have e:r0++(tk::r).map gC=(r0++[gC tk])++r.map gC:=by rw[fY];rfl
    rw[e] at hk he;have hr:r0.length+(r.length+1)≤9000:=hr;rw[fX (show (r0++[gC tk]).length≤aO by rw[aU];show _+1≤10000;lia),eP];exact ih h2 (Nat.lt_of_succ_lt_succ hl) (by rw[aU];show _+1+_≤_;lia) hk he
end
theorem vO:(lwB [(13,0)]).length=5:=by kernel_rfl
theorem tR:(lwB [(16,0)]).length=6:=by kernel_rfl
theorem xl{A:LA}{w:List (Nat×Nat)}{i:Nat}{st:St}{k:Fl→St→Prop}{ke:V→St→Prop}(h:i<(lwB w).length)(g:EX A w i st (fun fl st=>pN fl st (XLR A w (i+1) st) Prop k ke False) ke):XLw A w i st k ke:=(bD h).mpr g
theorem nn{A:LA}{w:List (Nat×Nat)}{i:Nat}{st:St}{k:Fl→St→Prop}{ke:V→St→Prop}(g:XLw A w i st k ke):pN .next st (XLR A w i st) Prop k ke False:=g
theorem oI{α:Type}{x:Option α}{a:α}{k:α→Prop}(e:x=some a)(g:k a):OP x k:=by subst e;exact g
theorem bT{b:Bool}{t f:Prop}(e:b=true)(g:t):onB b t f:=by subst e;exact g
theorem bF{b:Bool}{t f:Prop}(e:b=false)(g:f):onB b t f:=by subst e;exact g
theorem dW{A:LA}{w:List (Nat×Nat)}{i:Nat}{st:St}{k:Fl→St→Prop}{ke:V→St→Prop}:pN .next st (XLR A w i st) Prop k ke False=XLw A w i st k ke:=rfl
theorem a_13(A:LA)(k:Fl→St→Prop)(ke:V→St→Prop)(sv h x kn tl fa r la lv bl bf kd to b e:V)(sl:Slot)(fl:aL)(l:List V):uX .next ((⟨q16 sv h tl x kn sl r fa la lv bl bf kd to b e,fl,true⟩:St).keep kR) (RF1 A [] 13 kR l ((⟨q16 sv h tl x kn sl r fa la lv bl bf kd to b e,fl,true⟩:St).keep kR)) Prop k ke False=FL1 A [] 13 kR l ⟨q12 sv h tl x kn sl r fa la lv bl bf,fl,true⟩ k ke:=by kernel_rfl
theorem a_16(A:LA)(k:Fl→St→Prop)(ke:V→St→Prop)(sv h x kn tl r fa la lv bl bf i sp kd:V)(sl:Slot)(S:Sc)(l:List V):uX .next ((⟨q19 sv h tl x kn sl r fa la lv bl bf .self i sp kd,mkF S,true⟩:St).keep fL) (RF1 A [] 16 fL l ((⟨q19 sv h tl x kn sl r fa la lv bl bf .self i sp kd,mkF S,true⟩:St).keep fL)) Prop k ke False=FL1 A [] 16 fL l ⟨q13 sv h tl x kn sl r fa la lv bl bf .self,mkF S,true⟩ k ke:=by kernel_rfl
theorem yX{bf:Nat}{b:List Nat}(h:((decide (b=sL "plain")==decide (bf=2))&&((decide (b=sL "<directive>")==decide (bf=3))&&(decide (b=sL "<stream end>")==decide (bf=1))))=true):BfS bf b:=by
 obtain⟨h1,h⟩:=aA h;obtain⟨h2,h3⟩:=aA h;exact⟨decide_eq_decide.mp (beq_iff_eq.mp h1),decide_eq_decide.mp (beq_iff_eq.mp h2),decide_eq_decide.mp (beq_iff_eq.mp h3)⟩
section
variable{x:List Nat}{A:LA}(L:Tl A)(F:TF (x++[0]))
theorem bfE{F F':Nat}{b b':List Nat}(e:F'=F)(e2:b'=b)(h:((decide (b'=sL "plain")==decide (F'=2))&&((decide (b'=sL "<directive>")==decide (F'=3))&&(decide (b'=sL "<stream end>")==decide (F'=1))))=true):BfS F b:=by
 subst e e2;exact yX h
theorem Nv{tk:Tk}{s:LS}{y kd:List Nat}{L' B':Int}{F':Nat}{G:Prop}(h0:(kd=sL "<stream end>" ∨ kd=sL "?" ∨ kd=sL ":" ∨ kd=sL "-" ∨ kd=sL "," ∨ kd=sL "<document start>" ∨ kd=sL "<document end>" ∨ kd=sL "<directive>" ∨ kd=sL "<alias>" ∨ kd=sL "<anchor>" ∨ kd=sL "<tag>")→BfS F' kd→s.level=L'→s.blocks=B'→G)
  (ho:kd=sL "[" ∨ kd=sL "{" → BfS F' kd→s.level+1=L'→s.blocks=B'→G) (hc:kd=sL "]" ∨ kd=sL "}" → BfS F' kd→s.level-1=L'→s.blocks=B'→G)
  (hb:kd=sL "<block sequence start>" ∨ kd=sL "<block mapping start>" → BfS F' kd→s.level=L'→s.blocks+1=B'→G) (he:kd=sL "<block end>" → 1≤s.blocks→BfS F' kd→s.level=L'→s.blocks-1=B'→G)
  (hs:∀v p sty b e,tk = .sca v p sty b e→s.level=L'→s.blocks=B'→G) (sp:spelt tk y) (blk:hN tk = -1→1≤s.blocks) (ek:kE tk=kd) (eF:(dH s tk).bf=F') (eL:s.level+oU tk=L') (eB:s.blocks+hN tk=B'):G:=by
 have lv0:oU tk=0→s.level=L':=fun z=>by rw[←eL,z,Int.add_zero]
 have bl0:hN tk=0→s.blocks=B':=fun z=>by rw[←eB,z,Int.add_zero]
 cases tk with
 | two c b e=>
  have z:c∈kM:=sp.1;clear sp hs;unfold kM at z;simp only[List.mem_cons,List.not_mem_nil,or_false] at z
  rcases z with rfl|rfl|rfl|rfl|rfl|rfl|rfl|rfl|rfl|rfl|rfl|rfl|rfl|rfl
  ·exact h0 (.inl ek.symm) (bfE eF ek (by kernel_rfl)) (lv0 rfl) (bl0 rfl)
  ·exact hb (.inl ek.symm) (bfE eF ek (by kernel_rfl)) (lv0 rfl) eB
  ·exact hb (.inr (ek.symm)) (bfE eF ek (by kernel_rfl)) (lv0 rfl) eB
  ·exact he ek.symm (blk rfl) (bfE eF ek (by kernel_rfl)) (lv0 rfl) eB
  ·exact ho (.inl ek.symm) (bfE eF ek (by kernel_rfl)) eL (bl0 rfl)
  ·exact ho (.inr (ek.symm)) (bfE eF ek (by kernel_rfl)) eL (bl0 rfl)
  ·exact hc (.inl ek.symm) (bfE eF ek (by kernel_rfl)) eL (bl0 rfl)
  ·exact hc (.inr (ek.symm)) (bfE eF ek (by kernel_rfl)) eL (bl0 rfl)
  ·exact h0 (.inr (.inl ek.symm)) (bfE eF ek (by kernel_rfl)) (lv0 rfl) (bl0 rfl)
  ·exact h0 (.inr (.inr (.inl ek.symm))) (bfE eF ek (by kernel_rfl)) (lv0 rfl) (bl0 rfl)
  ·exact h0 (.inr (.inr (.inr (.inl ek.symm)))) (bfE eF ek (by kernel_rfl)) (lv0 rfl) (bl0 rfl)
  ·exact h0 (.inr (.inr (.inr (.inr (.inl ek.symm))))) (bfE eF ek (by kernel_rfl)) (lv0 rfl) (bl0 rfl)
  ·exact h0 (.inr (.inr (.inr (.inr (.inr (.inl ek.symm)))))) (bfE eF ek (by kernel_rfl)) (lv0 rfl) (bl0 rfl)
  ·exact h0 (.inr (.inr (.inr (.inr (.inr (.inr (.inl ek.symm))))))) (bfE eF ek (by kernel_rfl)) (lv0 rfl) (bl0 rfl)
 | dir b e=>exact h0 (.inr (.inr (.inr (.inr (.inr (.inr (.inr (.inl ek.symm)))))))) (bfE eF ek (by kernel_rfl)) (lv0 rfl) (bl0 rfl)
 | nam c v b e=>
  rcases Sd sp with rfl|rfl
  ·exact h0 (.inr (.inr (.inr (.inr (.inr (.inr (.inr (.inr (.inl ek.symm))))))))) (bfE eF ek (by kernel_rfl)) (lv0 rfl) (bl0 rfl)
  ·exact h0 (.inr (.inr (.inr (.inr (.inr (.inr (.inr (.inr (.inr (.inl ek.symm)))))))))) (bfE eF ek (by kernel_rfl)) (lv0 rfl) (bl0 rfl)
 | tag a y b e=>exact h0 (.inr (.inr (.inr (.inr (.inr (.inr (.inr (.inr (.inr (.inr (ek.symm))))))))))) (bfE eF ek (by kernel_rfl)) (lv0 rfl) (bl0 rfl)
 | sca v p sty b e=>exact hs v p sty b e rfl (lv0 rfl) (bl0 rfl)
theorem AU(x:List Nat):(x++[0]).length=x.length+1:=by rw[aU];rfl
include L F
theorem Nt{sv h kn tl fa r:V}{sl:Slot}{fl:aL}{k:Fl→St→Prop}{ke:V→St→Prop}{tk:Tk}{s:LS}{bs:List Nat}{l:List V}(ok:Zd (x++[0]) s tk)(hb:BfS s.bf bs)
  (hk:∀bs',BfS (dH s tk).bf bs'→FL1 A [] 13 kR l ⟨q12 sv h tl (.str x) kn sl r fa (.int (dH s tk).last) (.int (dH s tk).level) (.int (dH s tk).blocks) (.str bs'),fl,true⟩ k ke) :
  FL1 A [] 13 kR (gC tk::l) ⟨q12 sv h tl (.str x) kn sl r fa (.int s.last) (.int s.level) (.int s.blocks) (.str bs),fl,true⟩ k ke:=by
 have lx:=AU x;have g1:=ok.gap.le;have g2:=ok.le;have g3:=ok.len;have len:=F.len
 have nz:∀i,i<x.length→ch x i≠0:=fun i hi=>by rw[←iK hi];exact F.nz i (by lia)
 have sp:=ok.spelt
 have g4:tk.e≤x.length:=by lia
 rw[Hd g4 g2] at sp
 have gp:A.bare [.str (cut x s.last tk.b),.str bs] []=some (.bool true):=by
  obtain⟨r',e⟩:=ok.gap.bare;rw[Hd (aJ g2 g4) g1] at e;refine L.bare _ _ _ _ hb (fun e2 c l' hc=>?_) e
  have lt:s.last<tk.b:=by
   rcases Nat.lt_or_ge s.last tk.b with z|z
   ·exact z
   ·exfalso
    have:s.last=tk.b:=Nat.le_antisymm g1 z;rw[this,cY] at hc;cases hc
  rw[fW lt (jI lt (aJ g2 g4))] at hc;rw[←(List.cons.inj hc).1,←iK (jI lt (aJ g2 g4))];exact ok.gap.hash e2
 have sl1:A.spelt [.str (kE tk),mV tk,.str (cut x tk.b tk.e)] []=some (.bool true):=by
  refine L.spelt _ _ sp (by rw[iP g4];exact aJ (Nat.sub_le ..) (aJ (bA g3) (aJ len (by decide)))) fun i hi=>?_;rw[iP g4] at hi
  have:ch (cut x tk.b tk.e) i=ch x (tk.b+i):=by
   unfold ch cut;rw[List.getElem?_take_of_lt hi,List.getElem?_drop]
  rw[this];exact nz _ (jI (Nat.add_lt_of_lt_sub' hi) g4)
 refine (l_13 A k ke sv h (.str x) kn tl fa r _ _ _ _ (.str (kE tk)) (mV tk) (.int tk.b) (.int tk.e) sl fl l).mpr (xl (by rw[vO];decide) ((IZ A _ _ sv h (.str x) kn tl fa r _ _ _ _ _ _ _ _ sl fl).mpr (oI rfl (bF (cE (fun z=>ok.bf (hb.2.2.mp z))) (bT (bN (by exact Int.ofNat_le.mpr ‹_›)) (bT (bN (by exact Int.ofNat_le.mpr ‹_›)) (oI rfl (oI rfl (bF (b:=!decide _) (by rw[bN (show (tk.e:Int)≤(x.length:Int) by lia)];rfl) (bF rfl (nn ?_)))))))))));refine xl (by rw[vO];decide) ((IY A _ _ sv h (.str x) kn tl fa r _ _ _ _ _ _ _ _ sl fl).mpr (oI (lY (by lia)) (oI gp (oI rfl (bF rfl (oI (lY (by lia)) (oI sl1 (oI rfl (bF rfl (bF rfl (nn (xl (by rw[vO];decide) ((IX A _ _ sv h (.str x) kn tl fa r _ _ _ _ _ _ _ _ sl fl).mpr (nn (xl (by rw[vO];decide) ?_)))))))))))))))
 have fin:∀(lv bl:Int) (bf:List Nat),lv=(dH s tk).level→bl=(dH s tk).blocks→BfS (dH s tk).bf bf→pN .next ⟨q16 sv h tl (.str x) kn sl r fa (.int s.last) (.int lv) (.int bl) (.str bf) (.str (kE tk)) (mV tk) (.int tk.b) (.int tk.e),fl,true⟩ (XLR A [(13,0)] (3+1) ⟨q16 sv h tl (.str x) kn sl r fa (.int s.last) (.int lv) (.int bl) (.str bf) (.str (kE tk)) (mV tk) (.int tk.b) (.int tk.e),fl,true⟩) Prop (fun f (st:St)=>uX f (st.keep kR) (RF1 A [] 13 kR l (st.keep kR)) Prop k ke False) (fun e st=>ke e (st.keep kR)) False:=by
  intro lv bl bf e1 e2 e3;rw[dW,bD (by rw[vO];decide),IW,dW,zA (by rw[vO];decide),a_13,e1,e2];exact hk bf e3
 refine Nv (fun z F' l' b'=>(Xs A _ _ sv h (.str x) kn tl fa r _ _ _ _ _ _ _ sl fl _ z).mpr (fin _ _ _ l' b' F')) (fun z F' l' b'=>(Xo A _ _ sv h (.str x) kn tl fa r _ _ _ _ _ _ _ sl fl _ z).mpr (fin _ _ _ l' b' F')) (fun z F' l' b'=>(Xq A _ _ sv h (.str x) kn tl fa r _ _ _ _ _ _ _ sl fl _ z).mpr (fin _ _ _ l' b' F'))
  (fun z F' l' b'=>(Xr A _ _ sv h (.str x) kn tl fa r _ _ _ _ _ _ _ sl fl _ z).mpr (fin _ _ _ l' b' F')) (fun z n F' l' b'=>?_) (fun v p sty b e z l' b'=>?_) ok.spelt ok.blk rfl rfl rfl rfl
 ·rw[z] at F'
  rw[show V.str (kE tk)=vs "<block end>" from congrArg V.str z];exact (Xp A _ _ sv h (.str x) kn tl fa r _ _ _ _ _ _ _ sl fl).mpr (bF (cE (show ¬(s.blocks-1<0) by lia)) (fin _ _ _ l' b' F'))
 ·have en:=ok.ended
  clear hk ok g1 g2 hb len nz gp sl1;subst z;rw[show V.str (kE (.sca v p sty b e))=vs "<scalar>" from rfl,show mV (.sca v p sty b e) = .tup [.str v,.bool p,Ct sty] from rfl];refine (Xn A _ _ sv h (.str x) kn tl fa r _ _ _ _ _ _ _ _ p sl fl).mpr ?_
  cases p with
  | false=>exact fin _ _ _ l' b' (yX (by kernel_rfl))
  | true=>exact bF rfl (oI (L.ended x e s.level F (en rfl) (by have:e<(x++[0]).length:=g3;lia)) (oI rfl (bF rfl (fin _ _ (sL "plain") l' b' (yX (by kernel_rfl))))))
theorem Nu{sv h kn tl fa r:V}{sl:Slot}{fl:aL}{k:Fl→St→Prop}{ke:V→St→Prop}:∀{l:List Tk} {s:LS} {bs:List Nat},uR (x++[0]) s l→BfS s.bf bs→
  (∀bs',BfS (bW s l).bf bs'→k .next ⟨q12 sv h tl (.str x) kn sl r fa (.int (bW s l).last) (.int (bW s l).level) (.int (bW s l).blocks) (.str bs'),fl,true⟩)→
  FL1 A [] 13 kR (l.map gC) ⟨q12 sv h tl (.str x) kn sl r fa (.int s.last) (.int s.level) (.int s.blocks) (.str bs),fl,true⟩ k ke:=by
 intro l
 induction l with
 | nil=>intro s bs _ hb hk;exact hk bs hb
 | cons tk l ih=>
  intro s bs hg hb hk;exact Nt L F hg.1 hb fun bs' hb'=>ih hg.2 hb' hk
end
theorem qR{P:Type}{v:V}{S:Sc}{k:V→Sc→P}{ke:V→P}{b:P}:(Res.ok v S).on k ke b=k v S:=rfl
noncomputable def JC(q:V):Prop:=aG .NotEq q q=some false
theorem nN(a:List Nat)(n:Nat):gE (n+1) (.str a) (.str a)=some true:=congrArg some (bN rfl)
theorem Qz(a:Int)(n:Nat):gE (n+1) (.int a) (.int a)=some true:=congrArg some (bN rfl)
theorem Nl{id:List Nat}{to:V}{b e:Int}(h:gE 3 to to=some true):JC (.tup [.str id,to,.int b,.int e]):=by
 show ((gE 3 (.str id) (.str id)).bind fun x=>((gE 3 to to).bind fun y=>((gE 3 (.int b) (.int b)).bind fun z=>((gE 3 (.int e) (.int e)).bind fun w=>(some true).map fun u=>w&&u).map fun u=>z&&u).map fun u=>y&&u).map fun u=>x&&u).map not=some false;rw[nN,h,Qz,Qz];rfl
theorem Hw(k:Tk):gE 3 (mV k) (mV k)=some true:=by
 cases k with
 | two=>rfl
 | dir=>rfl
 | nam c v b e=>exact nN v 2
 | tag h x b e=>
  show ((gE 2 (.str h) (.str h)).bind fun x'=>((gE 2 (.str x) (.str x)).bind fun y=>(some true).map fun u=>y&&u).map fun u=>x'&&u)=_;rw[nN,nN];rfl
 | sca v p s b e=>
  have h3:gE 2 (Ct s) (Ct s)=some true:=by
   cases s with
   | nil=>rfl
   | cons=>exact nN _ 1
  show ((gE 2 (.str v) (.str v)).bind fun x=>((some (p==p)).bind fun y=>((gE 2 (Ct s) (Ct s)).bind fun z=>(some true).map fun u=>z&&u).map fun u=>y&&u).map fun u=>x&&u)=_;rw[nN,h3,beq_self_eq_true];rfl
section
variable{A:LA}(L:Tl A)
include L
theorem Mk{sv h x kn fa la lv bl bf:V}{R l:List V}{tl:List Int}{sl:Slot}{S S1 S2:Sc}{v to:V}{id:List Nat}{b e:Int}{j:Nat}{k:Fl→St→Prop}{ke:V→St→Prop}(htl:∀n∈tl,0≤n∧n<5040)(g:Gv S S1 S2 v id)(g1:Gv S1 S1 S2 v id)(ht:A.told [v] []=some (.tup [.str id,to,.int b,.int e]))(hs:gE 3 to to=some true)
  (hj:R[j]? = some (.tup [.str id,to,.int b,.int e])) (hk:FL1 A [] 16 fL l ⟨q13 sv h (.lst (tl.map .int)) x kn sl (.lst R) fa la lv bl bf .self,mkF S2,true⟩ k ke) :
  FL1 A [] 16 fL (.int j::l) ⟨q13 sv h (.lst (tl.map .int)) x kn sl (.lst R) fa la lv bl bf .self,mkF S,true⟩ k ke:=by
 have ir:dN (.lst R) (.int (j:Int))=some (.tup [.str id,to,.int b,.int e]):=hj;have sf:=Nl (id:=id) (b:=b) (e:=e) hs;unfold JC at sf;rw[l_16,bD (by rw[tR];decide),IV]
 have rest:∀sp:Int,pN .next ⟨q18 sv h (.lst (tl.map .int)) x kn sl (.lst R) fa la lv bl bf .self (.int j) (.int sp),mkF S,true⟩ (XLR A [(16,0)] (0+1) ⟨q18 sv h (.lst (tl.map .int)) x kn sl (.lst R) fa la lv bl bf .self (.int j) (.int sp),mkF S,true⟩) Prop (fun f (st:St)=>uX f (st.keep fL) (RF1 A [] 16 fL l (st.keep fL)) Prop k ke False) (fun e st=>ke e (st.keep fL)) False:=by
  intro sp;rw[dW,bD (by rw[tR];decide),IU,ir,cD,show dN (.tup [.str id,to,.int b,.int e]) (.int 0)=some (.str id) from rfl,cD,dW,bD (by rw[tR];decide),IT]
  have fin:∀S',Gv S' S1 S2 v id→XLw A [(16,0)] 5 ⟨q19 sv h (.lst (tl.map .int)) x kn sl (.lst R) fa la lv bl bf .self (.int j) (.int sp) (.str id),mkF S',true⟩ (fun f (st:St)=>uX f (st.keep fL) (RF1 A [] 16 fL l (st.keep fL)) Prop k ke False) (fun e st=>ke e (st.keep fL)):=by
   intro S' g';rw[bD (by rw[tR];decide),IQ];show (A.f "get_token" [] [] S').on _ _ _;rw[wO L,g'.g,qR,ht,cD,ir,cD,sf,cD,bI,dW,zA (by rw[tR];decide),a_16];exact hk
  have four:∀S',Gv S' S1 S2 v id→XLw A [(16,0)] 4 ⟨q19 sv h (.lst (tl.map .int)) x kn sl (.lst R) fa la lv bl bf .self (.int j) (.int sp) (.str id),mkF S',true⟩ (fun f (st:St)=>uX f (st.keep fL) (RF1 A [] 16 fL l (st.keep fL)) Prop k ke False) (fun e st=>ke e (st.keep fL)):=by
   intro S' g';rw[bD (by rw[tR];decide),IR];dsimp only;clear hj hk hs
   cases decide (sp=3) with
   | false=>exact fin S' g'
   | true=>
    rw[show (!true)=false from rfl,bI];show (A.f "check_token" [.tup [.str id]] [] S').on _ _ _
    have c1:kT (.tup [.str id]) S' = .ok (.bool true) S1:=by
     rw[g'.c];show O1 ((some (decide (id=id)||false))) _=_;rw[bN rfl];rfl
    rw[zG L,c1,qR,show cF (.bool true)=some true from rfl,cD,show (!true)=false from rfl,bI];show (A.f "check_token" [k3] [] S1).on _ _ _;have hin:inV (.str id) k3=some (decide (sL "," = id)||(decide (sL "?" = id)||(decide (sL "<scalar>" = id)||false))):=rfl;have hin2:aG .In (.str id) k3l=some (decide (sL "," = id)||(decide (sL "?" = id)||(decide (sL "<scalar>" = id)||false))):=rfl;have c2:=g1.c (vs ",") [vs "?", vs "<scalar>"];rw[zG L,show kT k3 S1=_ from c2,show inV (.str id) (.tup [vs ",", vs "?", vs "<scalar>"])=_ from hin,hin2];generalize (decide (sL "," = id)||(decide (sL "?" = id)||(decide (sL "<scalar>" = id)||false)))=z
    have fe:aG .NotEq (.bool z) (.bool z)=some false:=by cases z<;>rfl
    have f1:=fin S1 g1;clear c1 c2 fe fin hin hin2
    cases z<;>exact f1
  have three:∀S',Gv S' S1 S2 v id→XLw A [(16,0)] 3 ⟨q19 sv h (.lst (tl.map .int)) x kn sl (.lst R) fa la lv bl bf .self (.int j) (.int sp) (.str id),mkF S',true⟩ (fun f (st:St)=>uX f (st.keep fL) (RF1 A [] 16 fL l (st.keep fL)) Prop k ke False) (fun e st=>ke e (st.keep fL)):=by
   intro S' g';rw[bD (by rw[tR];decide),IS];dsimp only;clear fin hj hk hs
   cases decide (sp=2) with
   | false=>exact four S' g'
   | true=>
    rw[show (!true)=false from rfl,bI];show (A.f "peek_token" [] [] S').on _ _ _;rw[zD L,g'.p,qR,ht,cD,ir,cD,sf,cD,bI];show (A.f "peek_token" [] [] S1).on _ _ _;rw[zD L,g1.p,qR,ht,cD,cD,sf,cD,bI];exact four S1 g1
  dsimp only;clear fin four hj hk hs ht ir sf to
  cases decide (sp=1) with
  | false=>exact three S g
  | true=>
   rw[show (!true)=false from rfl,bI];show (A.f "check_token" [] [] S).on _ _ _;rw[Cm L,g.c0];exact three S1 g1
 dsimp only;have md:∀a:Int,hE (.int a) (.int 4)=some (.int (a % 4)):=fun a=>rfl;clear g g1 hj hk hs ht ir sf to v
 cases tl with
 | nil=>
  rw[show (!bU (List.map V.int []))=false from rfl,bI,md,cD];exact rest _
 | cons n0 tl=>
  rw[show (!bU (List.map V.int (n0::tl)))=true from rfl,eP]
  have lp:0<((n0::tl).map V.int).length:=by rw[List.length_map];exact Nat.succ_pos _
  have m1:hE (.int (j:Int)) (.int (((n0::tl).map V.int).length:Int))=some (.int ((j % ((n0::tl).map V.int).length:Nat):Int)):=by
   show cV (decide ((0:Int)<(((n0::tl).map V.int).length:Int))) (V.int ((j:Int) % (((n0::tl).map V.int).length:Int)))=_;rw[bN (by exact Int.ofNat_lt.mpr ‹_›)];rw[Int.natCast_emod];rfl
  rw[m1,cD];have lt:j % ((n0::tl).map V.int).length<((n0::tl).map V.int).length:=Nat.mod_lt _ lp
  have hit:∃n,n∈(n0::tl)∧dN (.lst ((n0::tl).map V.int)) (.int ((j % ((n0::tl).map V.int).length:Nat):Int))=some (.int n):=by
   generalize j % ((n0::tl).map V.int).length=i at lt;rw[List.length_map] at lt;refine⟨(n0::tl)[i],List.getElem_mem _,?_⟩;show ((n0::tl).map V.int)[i]? = _;rw[List.getElem?_map,List.getElem?_eq_getElem lt];rfl
  refine aB hit fun n hn hi=>?_;clear hit;refine aE (htl n hn) fun n1 n2=>?_
  rw[hi,cD,show Gs (.int n) (.int 28)=some (.int (n / 28)) from by
   show cV (decide ((0:Int)<28)&&decide ((28:Int)≤1000)&&decide ((0:Int)≤n)&&decide (n≤100000)) (V.int (n / 28))=_
   rw[bN n1,bN (show n≤100000 by lia)];rfl,cD,md,cD]
  exact rest _
theorem run2{t:List Nat}{sv h x kn fa la lv bl bf:V}{R:List V}{tl:List Int}{sl:Slot}{k:Fl→St→Prop}{ke:V→St→Prop}(htl:∀n∈tl,0≤n∧n<5040):∀{r:List Tk} {f:Option Nat} {S:Sc} {j:Nat},rD t S r f→(∀i,i<r.length→R[j+i]? = (r.map gC)[i]?)→
  (∀S',rD t S' [] f→k .next ⟨q13 sv h (.lst (tl.map .int)) x kn sl (.lst R) fa la lv bl bf .self,mkF S',true⟩)→
  FL1 A [] 16 fL ((List.range' j r.length).map fun i=>.int (Int.ofNat i)) ⟨q13 sv h (.lst (tl.map .int)) x kn sl (.lst R) fa la lv bl bf .self,mkF S,true⟩ k ke:=by
 intro r
 induction r with
 | nil=>intro f S j H _ hk;exact hk S H
 | cons tk r ih=>
  intro f S j H hR hk
  cases H with
  | cons g g1 hc H2=>
   refine Mk L htl g g1 (L.told _ _ hc) (Hw tk) ?_ (ih H2 (fun i hi=>?_) hk)
   ·have:=hR 0 (Nat.succ_pos _)
    rw[Nat.add_zero] at this;exact this
   ·have:=hR (i+1) (Nat.succ_lt_succ hi)
    rw[show j+(i+1)=j+1+i by lia] at this;exact this
end
noncomputable def sN:List (List Nat):=[[97],[98,58,32],[10,45,32],[39,99,32,100,39],[91],[44,32],[93],[10,32,32],[38,120,32],[123],[58,32],[125],[63,32],[42,121,32],[33,116,32],[10],[32,35,114],[124,10,32,32,32,101,10],[45,32],[8232],[13,10],[34,103,32,32,104,34],[10,45,45,45,32],[33,33,105,32],[39],[10,37,68,32,113],[10,46,46,46,10],[97,35,115]]
theorem Ni:Db = .lst (sN.map .str):=by kernel_rfl
noncomputable def nY(l r:List Nat):Bool:=decide (r.take l.length=l)
noncomputable def rA(p c:Nat)(r:List Nat):Bool:=!decide (c∈([0,1,9,92,62,64,96]:List Nat))&&((!decide (c=42)||nY [121,32] r)&&((!decide (c=38)||nY [120,32] r)&&((!decide (c=33)||(nY [116,32] r||(nY [105,32] r||nY [33,105,32] r))) &&
 ((!decide (c=37)||(nY [68,32] r&&decide (p=10)))&&((!decide (c=124)||nY [10] r)&&((!decide (c=13)||nY [10] r)&&(!decide (c=65279)||decide (p=1))))))))
noncomputable def okS:Nat→List Nat→Bool
 | _,[]=>true
 | p,c::r=>rA p c r&&okS c r
theorem iM{l r b:List Nat}(h:nY l r=true):nY l (r++b)=true:=by
 have h:=aI h;refine bN ?_
 have ln:l.length≤r.length:=by
  have:=congrArg List.length h;rw[List.length_take] at this;lia
 rw[List.take_append_of_le_length ln];exact h
theorem mE{a b c:Bool}(h:(a||b)=true)(hb:b=true→c=true):(a||c)=true:=by
 cases a with
 | true=>rfl
 | false=>exact hb h
theorem Oi{p c:Nat}{r b:List Nat}(h:rA p c r=true):rA p c (r++b)=true:=by
 refine aE (aA h) fun h0 h=>?_;refine aE (aA h) fun h1 h=>?_;refine aE (aA h) fun h2 h=>?_;refine aE (aA h) fun h3 h=>?_;refine aE (aA h) fun h4 h=>?_;refine aE (aA h) fun h5 h=>?_;refine aE (aA h) fun h6 h7=>?_
 have mk:∀{a b:Bool},a=true→b=true→(a&&b)=true:=fun h1 h2=>by rw[h1,h2];rfl
 refine mk h0 (mk (mE h1 iM) (mk (mE h2 iM) (mk (mE h3 fun z=>?_) (mk (mE h4 fun z=>?_) (mk (mE h5 iM) (mk (mE h6 iM) h7))))))
 ·rcases (Bool.or_eq_true _ _).mp z with y|y
  ·rw[iM y];rfl
  ·rcases (Bool.or_eq_true _ _).mp y with w|w
   ·rw[iM w,Bool.true_or,Bool.or_true]
   ·rw[iM w,Bool.or_true,Bool.or_true]
 ·refine aE (aA z) fun z1 z2=>?_
  exact mk (iM z1) z2
theorem AK{p c:Nat}{r:List Nat}(h:rA 0 c r=true):rA p c r=true:=by
 unfold rA at h ⊢
 have e1:(!decide (c=37)||(nY [68,32] r&&decide ((0:Nat)=10)))=true→(!decide (c=37)||(nY [68,32] r&&decide (p=10)))=true:=fun z=>by
  rw[show decide ((0:Nat)=10)=false from rfl,Bool.and_false] at z;rw[Bool.or_false] at z;rw[z];rfl
 have e2:(!decide (c=65279)||decide ((0:Nat)=1))=true→(!decide (c=65279)||decide (p=1))=true:=fun z=>by
  rw[show decide ((0:Nat)=1)=false from rfl,Bool.or_false] at z;rw[z];rfl
 have mk:∀{a b:Bool},a=true→b=true→(a&&b)=true:=fun h1 h2=>by rw[h1,h2];rfl
 refine aE (aA h) fun h0 h=>?_;refine aE (aA h) fun h1 h=>?_;refine aE (aA h) fun h2 h=>?_;refine aE (aA h) fun h3 h=>?_;refine aE (aA h) fun h4 h=>?_;refine aE (aA h) fun h5 h=>?_;refine aE (aA h) fun h6 h7=>?_;exact mk h0 (mk h1 (mk h2 (mk h3 (mk (e1 h4) (mk h5 (mk h6 (e2 h7)))))))
theorem FU{p:Nat}{l:List Nat}(h:okS 0 l=true):okS p l=true:=by
 cases l with
 | nil=>rfl
 | cons c r=>
  refine aE (aA (show (rA 0 c r&&okS c r)=true from h)) fun h1 h2=>?_;show (rA p c r&&okS c r)=true;rw[AK h1,h2];rfl
theorem Uz{a b:List Nat}(hb:okS 0 b=true):∀{p:Nat},okS p a=true→okS p (a++b)=true:=by
 induction a with
 | nil=>intro p _;exact FU hb
 | cons c r ih=>
  intro p h;refine aE (aA (show (rA p c r&&okS c r)=true from h)) fun h1 h2=>?_;show (rA p c (r++b)&&okS c (r++b))=true;rw[Oi h1,ih h2];rfl
theorem iV{l:List Nat}:∀{p i:Nat},okS p l=true→i<l.length→rA (match i with|0=>p|j+1=>ch l j) (ch l i) (l.drop (i+1))=true:=by
 induction l with
 | nil=>intro p i _ h;cases h
 | cons c r ih=>
  intro p i h hi;refine aE (aA (show (rA p c r&&okS c r)=true from h)) fun h1 h2=>?_
  cases i with
  | zero=>exact h1
  | succ i=>
   have:=ih (p:=c) (i:=i) h2 (Nat.lt_of_succ_lt_succ hi)
   cases i with
   | zero=>exact this
   | succ i=>exact this
theorem AG{l r:List Nat}{i:Nat}{c:Nat}(h:nY l r=true)(hi:l[i]? = some c):ch r i=c∧i<r.length:=by
 have h:=aI h;rw[←h] at hi;obtain⟨lt,e⟩:=List.getElem?_eq_some_iff.mp hi;rw[List.length_take] at lt;rw[List.getElem_take] at e;refine⟨?_,by lia⟩;unfold ch;rw[List.getElem?_eq_getElem (by lia),e];rfl
theorem Xi{l:List Nat}{a i:Nat}:ch (l.drop a) i=ch l (a+i):=by
 unfold ch;rw[List.getElem?_drop]
theorem EV{x:List Nat}(h:okS 1 x=true)(hl:x.length≤150)(hw:(x.map wgt).sum≤110):TF (x++[0]):=by
 have lx:=AU x
 have z0:∀i,x.length≤i→ch (x++[0]) i=0:=fun i hi=>by
  rcases Nat.lt_or_eq_of_le hi with z|z
  ·exact Se (by lia)
  ·unfold ch
   rw[List.getElem?_append_right (by assumption),←z,Nat.sub_self];rfl
 have inn:∀i c,ch (x++[0]) i=c→c≠0→i<x.length∧ch x i=c:=fun i c e n=>by
  rcases Nat.lt_or_ge i x.length with q|q
  ·exact⟨q,by rw[←iK q];exact e⟩
  ·rw[z0 i q] at e;exact absurd e.symm n
 have nxt:∀{i j c d:Nat} {l:List Nat},i<x.length→nY l (x.drop (i+1))=true→l[j]? = some c→d=i+1+j→ch (x++[0]) d=c:=fun {i j c d l} hi hp hj hd=>by
  refine aE (AG hp hj) fun e lt=>?_;rw[Xi] at e;rw[List.length_drop] at lt;rw[hd,iK (by exact Nat.add_lt_of_lt_sub' ‹_›)];exact e
 have imp:∀{c d:Nat} {b:Bool},(!decide (c=d)||b)=true→c=d→b=true:=fun {c d b} z y=>by
  rw[bN y] at z;exact z
 refine⟨by lia,by lia,?_,fun i hi=>?_,fun i hm=>?_,fun i e=>?_,fun i e=>?_,fun i e=>?_,fun i e=>?_,fun i e=>?_,fun i e=>?_,?_,fun i e=>?_⟩
 ·rw[lx];exact z0 _ (aK _)
 ·have lt:i<x.length:=by lia
  have:=(aA (iV h lt)).1;rw[iK lt];intro z;rw[z] at this;exact bx this
 ·rcases Nat.lt_or_ge i x.length with q|q
  ·rw[iK q] at hm
   have:=cK (cO (aA (iV h q)).1);exact this (.tail _ (.tail _ hm))
  ·rw[z0 i q] at hm;revert hm;decide
 ·refine aE (inn i _ e (by decide)) fun lt ex=>?_
  refine aE (aA (iV h lt)) fun _ k=>?_;refine aE (aA k) fun k1 _=>?_;have p:=imp k1 ex;exact⟨nxt lt p (j:=0) rfl rfl,nxt lt p (j:=1) rfl rfl⟩
 ·refine aE (inn i _ e (by decide)) fun lt ex=>?_
  refine aE (aA (iV h lt)) fun _ k=>?_;refine aE (aA k) fun _ k=>?_;refine aE (aA k) fun k1 _=>?_;have p:=imp k1 ex;exact⟨nxt lt p (j:=0) rfl rfl,nxt lt p (j:=1) rfl rfl⟩
 ·refine aE (inn i _ e (by decide)) fun lt ex=>?_
  refine aE (aA (iV h lt)) fun _ k=>?_;refine aE (aA k) fun _ k=>?_;refine aE (aA k) fun _ k=>?_;refine aE (aA k) fun k1 _=>?_;have p:=imp k1 ex
  rcases (Bool.or_eq_true _ _).mp p with y|y
  ·exact .inl ⟨nxt lt y (j:=0) rfl rfl,nxt lt y (j:=1) rfl rfl⟩
  ·rcases (Bool.or_eq_true _ _).mp y with w|w
   ·exact .inr (.inl ⟨nxt lt w (j:=0) rfl rfl,nxt lt w (j:=1) rfl rfl⟩)
   ·exact .inr (.inr ⟨nxt lt w (j:=0) rfl rfl,nxt lt w (j:=1) rfl rfl,nxt lt w (j:=2) rfl rfl⟩)
 ·refine aE (inn i _ e (by decide)) fun lt ex=>?_
  have o:=iV h lt;refine aE (aA o) fun _ k=>?_;refine aE (aA k) fun _ k=>?_;refine aE (aA k) fun _ k=>?_;refine aE (aA k) fun _ k=>?_;refine aE (aA k) fun k1 _=>?_;refine aE (aA (imp k1 ex)) fun p1 p2=>?_;have p2:=aI p2;refine⟨nxt lt p1 (j:=0) rfl rfl,nxt lt p1 (j:=1) rfl rfl,?_⟩
  cases i with
  | zero=>cases p2
  | succ j=>exact⟨j,rfl,by rw[iK (by exact bA ‹_›)];exact p2⟩
 ·refine aE (inn i _ e (by decide)) fun lt ex=>?_
  refine aE (aA (iV h lt)) fun _ k=>?_;refine aE (aA k) fun _ k=>?_;refine aE (aA k) fun _ k=>?_;refine aE (aA k) fun _ k=>?_;refine aE (aA k) fun _ k=>?_;refine aE (aA k) fun k1 _=>?_;exact nxt lt (imp k1 ex) (j:=0) rfl rfl
 ·refine aE (inn i _ e (by decide)) fun lt ex=>?_
  have o:=iV h lt;refine aE (aA o) fun _ k=>?_;refine aE (aA k) fun _ k=>?_;refine aE (aA k) fun _ k=>?_;refine aE (aA k) fun _ k=>?_;refine aE (aA k) fun _ k=>?_;refine aE (aA k) fun _ k=>?_;refine aE (aA k) fun _ k1=>?_;have p2:=aI (imp k1 ex)
  cases i with
  | zero=>rfl
  | succ j=>
   exfalso;have p2:ch x j=1:=p2;have:=(aA (iV h (show j<x.length by exact bA ‹_›))).1;rw[p2] at this;exact bx this
 ·show ((x++[0]).map wgt).sum≤110
  rw[List.map_append,List.sum_append];show _+(0+0)≤_
  assumption
 ·refine aE (inn i _ e (by decide)) fun lt ex=>?_
  refine aE (aA (iV h lt)) fun _ k=>?_;refine aE (aA k) fun _ k=>?_;refine aE (aA k) fun _ k=>?_;refine aE (aA k) fun _ k=>?_;refine aE (aA k) fun _ k=>?_;refine aE (aA k) fun _ k=>?_;refine aE (aA k) fun k1 _=>?_;exact nxt lt (imp k1 ex) (j:=0) rfl rfl
noncomputable def prn(c:Nat):Bool:=decide (c∈([9,10,13,133]:List Nat))||((Nat.ble 32 c&&Nat.ble c 126)||((Nat.ble 160 c&&Nat.ble c 55295)||(Nat.ble 57344 c&&Nat.ble c 65533)))
structure TX(j i:Nat)(x:List Nat):Prop where
 ok:okS 1 x=true
 len:x.length≤8+8*i
 wt:(x.map wgt).sum≤20+10*i
 prn:x.all prn=true
 hd:∃y,x=Bn j++y
theorem Af:(sN.all fun g=>okS 0 g&&(Nat.ble g.length 8&&(Nat.ble (g.map wgt).sum 10&&g.all prn)))=true:=by decide +kernel
theorem tx_0(j:Nat)(hj:j<4):TX j 0 (Bn j):=by
 rcases j with _|_|_|_|j
 ·exact⟨by decide +kernel,by decide,by decide +kernel,by decide +kernel,[],rfl⟩
 ·exact⟨by decide +kernel,by decide,by decide +kernel,by decide +kernel,[],rfl⟩
 ·exact⟨by decide +kernel,by decide,by decide +kernel,by decide +kernel,[],rfl⟩
 ·exact⟨by decide +kernel,by decide,by decide +kernel,by decide +kernel,[],rfl⟩
 ·lia
theorem tx_s{j i:Nat}{x g:List Nat}(h:TX j i x)(hg:g∈sN):TX j (i+1) (x++g):=by
 have a:=List.all_eq_true.mp Af g hg;refine aE (aA a) fun a1 a=>?_;refine aE (aA a) fun a2 a=>?_;refine aE (aA a) fun a3 a4=>?_;have a2:=eQ a2;have a3:=eQ a3;have l:=h.len;have w:=h.wt;refine bG h.hd fun y hy=>?_;refine⟨Uz a1 h.ok,by rw[aU];lia,by rw[List.map_append,List.sum_append];lia,by rw[List.all_append,h.prn,a4];rfl,y++g,by rw[hy,fY]⟩
theorem TX.tf{j i:Nat}{x:List Nat}(h:TX j i x)(hi:i≤7):TF (x++[0]):=EV h.ok (by have:=h.len;lia) (by have:=h.wt;lia)
theorem Je{α:Type}(f:α→V)(l:List α)(a b:Int):bR (.lst (l.map f)) (.int a) (.int b)=some (.lst ((cS l (some a) (some b)).map f)):=by
 show some (V.lst (cS (l.map f) (some a) (some b)))=_;unfold cS;rw[List.length_map,List.map_take,List.map_drop]
theorem Vg:∀l:List Int,kU (Jx 5040) (l.map .int)=some ((l.map fun n=>n % 5040).map .int):=by
 intro l
 induction l with
 | nil=>rfl
 | cons n l ih=>
  show (some (V.int (n % 5040))).bind _=_;show (kU (Jx 5040) (l.map .int)).map _=_;rw[ih];rfl
theorem sV(n:Nat)(h:n≤100000):nH (.int (n:Int))=some ((List.range' 0 n).map fun i=>V.int (Int.ofNat i)):=by
 show cV (decide ((0:Int)≤(n:Int))&&decide ((n:Int)≤100000)) _=_;rw[bN (by lia),bN (by lia)];show some ((List.range n).map _)=_;rw[List.range_eq_range']
theorem Un(r:Int)(h0:0≤r)(h1:r<28):∃g,g∈sN∧dN Db (.int r)=some (.str g):=by
 refine bG (Int.eq_ofNat_of_zero_le h0) fun n e1=>?_;subst e1
 have lt:n<sN.length:=by show n<28;lia
 refine⟨sN[n],List.getElem_mem _,?_⟩;rw[Ni];show (sN.map V.str)[n]? = _;rw[List.getElem?_map,List.getElem?_eq_getElem lt];rfl
section
variable{A:LA}
theorem Hx{sv h kn:V}{ns:List Int}{j:Nat}{k:Fl→St→Prop}{ke:V→St→Prop}(hns:∀n∈ns,0≤n∧n<5040)(hn:ns.length≤7):∀(m i:Nat) (x:List Nat),i+m=ns.length→TX j i x→
  (∀x,TX j ns.length x→k .next ⟨q4 sv h (.lst (ns.map .int)) (.str x) kn,[],true⟩)→FL1 A [] 3 qK4 ((List.range' i m).map fun i=>V.int (Int.ofNat i)) ⟨q4 sv h (.lst (ns.map .int)) (.str x) kn,[],true⟩ k ke:=by
 intro m
 induction m with
 | zero=>
  intro i x hi hx hk
  have:i=ns.length:=by lia
  rw[this] at hx;exact hk x hx
 | succ m ih=>
  intro i x hi hx hk
  have lt:i<ns.length:=by lia
  have len:=hx.len;show FL1 A [] 3 qK4 (.int (i:Int)::(List.range' (i+1) m).map fun i=>V.int (Int.ofNat i)) _ k ke;refine aE (hns ns[i] (List.getElem_mem _)) fun n1 n2=>?_
  have i1:dN (.lst (ns.map .int)) (.int (i:Int))=some (.int ns[i]):=by
   show (ns.map V.int)[i]? = _;rw[List.getElem?_map,List.getElem?_eq_getElem lt];rfl
  have i2:Fy (.int 5) (.int (i:Int))=some (.int (5*(i:Int))):=by
   show cV (decide ((0:Int)≤5)&&decide ((5:Int)≤100)&&decide ((0:Int)≤(i:Int))&&decide ((i:Int)≤1000)) _=_;rw[bN (show (0:Int)≤(i:Int) by lia),bN (show (i:Int)≤1000 by lia)];rfl
  refine aB (Un ((ns[i]+5*(i:Int)) % 28) (Int.emod_nonneg _ (by decide)) (Int.emod_lt_of_pos _ (by decide))) fun g hg i3=>?_
  have gl:g.length≤8:=by
   have a:=List.all_eq_true.mp Af g hg;exact eQ (aA (aA a).2).1
  rw[l_3,i1,cD,i2,cD,show iX (.int ns[i]) (.int (5*(i:Int)))=some (.int (ns[i]+5*(i:Int))) from rfl,cD,show hE (.int (ns[i]+5*(i:Int))) (.int 28)=some (.int ((ns[i]+5*(i:Int)) % 28)) from rfl,cD,i3,cD,uP (by lia),cD];exact ih (i+1) _ (by lia) (tx_s hx hg) hk
end
theorem Qd{t:List Nat}:∀{m:Nat} {S:Sc} {r:List Tk} {f:Option Nat} {ids:List V},rD t S r f→lI (uu 12) m S=some ids→m≤r.length∧ids=(r.take m).map fun k=>.str (kE k):=by
 intro m
 induction m with
 | zero=>intro S r f ids _ h;obtain rfl:=so h;exact⟨Nat.zero_le _,rfl⟩
 | succ m ih=>
  intro S r f ids H h;have h:(match gT S with | .ok v S'=>(eJ (OO 400 (uu 12)) v "id").bind fun i=>(lI (uu 12) m S').map fun r=>i::r|_=>none)=some ids:=h
  cases H with
  | fin g _=>rw[g.g] at h;exact ox h
  | err g _=>rw[g.g] at h;exact ox h
  | cons g g1 hc H2=>
   rw[g.g] at h;have h:(eJ (OO 400 (uu 12)) (tkV t _) "id").bind (fun i=>(lI (uu 12) m _).map fun r=>i::r)=some ids:=h;rw[Qb hc] at h;refine aB (aM (show (lI (uu 12) m _).map (fun r=>V.str (kE _)::r)=some ids from h)) fun rs e1 e2=>?_;refine aE (ih H2 e1) fun h1 h2=>?_;refine⟨Nat.succ_le_succ h1,?_⟩;rw[←e2,h2];rfl
theorem rQ(l:List (List Nat)):aG .NotEq (.lst (l.map .str)) (.lst (l.map .str))=some false:=by
 show (match Nat.beq (l.map V.str).length (l.map V.str).length with|true=>kK (gE 3) (l.map V.str) (l.map V.str)|false=>some false).map not=_;rw[Nat.beq_refl]
 have:kK (gE 3) (l.map V.str) (l.map V.str)=some true:=by
  induction l with
  | nil=>rfl
  | cons c l ih=>
   show (gE 3 (.str c) (.str c)).bind _=_;rw[nN];show (kK (gE 3) (l.map V.str) (l.map V.str)).map _=_;rw[ih];rfl
 rw[this];rfl
theorem GW:∀(l:List Tk),kU qV (l.map gC)=some (l.map fun k=>.str (kE k)):=by
 intro l
 induction l with
 | nil=>rfl
 | cons k l ih=>
  show (kU qV (l.map gC)).map _=_;rw[ih];rfl
theorem Ad{l:List V}{n:Nat}:bR (.lst l) .none (.int (n:Int))=some (.lst (l.take n)):=by
 show some (V.lst ((l.drop 0).take (clipAt l.length (n:Int)-0)))=_;rw[eI,List.drop_zero,Nat.sub_zero]
 rcases Nat.le_total n l.length with q|q
 ·rw[Nat.min_eq_left q]
 ·rw[Nat.min_eq_right q,List.take_of_length_le (aK _),List.take_of_length_le q]
theorem Ae{l:List V}{c:V}:bR (.lst (c::l)) (.int 1) .none=some (.lst l):=by
 show some (V.lst (((c::l).drop (clipAt (l.length+1) ((1:Nat):Int))).take (l.length+1-clipAt (l.length+1) ((1:Nat):Int))))=_;rw[show clipAt (l.length+1) ((1:Nat):Int)=1 from yQ _];show some (V.lst (l.take l.length))=_;rw[List.take_length]
noncomputable def nKn:Nat→Nat
 | 0=>4
 | 1=>2
 | 2=>2
 | _=>6
theorem Pg{j:Nat}(hj:j<4)(y:List Nat):lI (uu 12) (nKn j+1) (dO (Bn j++y))=some (eG j):=by
 rcases j with _|_|_|_|j
 ·exact BK y
 ·exact BJ y
 ·exact BI y
 ·exact BH y
 ·lia
theorem Qa{m:Nat}{S S':Sc}{v i:V}{ids:List V}(g:gT S = .ok v S')(hi:eJ (OO 400 (uu 12)) v "id" = some i)(h:lI (uu 12) (m+1) S=some ids):∃rs,lI (uu 12) m S'=some rs∧ids=i::rs:=by
 have h:(match gT S with | .ok v S'=>(eJ (OO 400 (uu 12)) v "id").bind fun i=>(lI (uu 12) m S').map fun r=>i::r|_=>none)=some ids:=h;rw[g] at h;have h:(eJ (OO 400 (uu 12)) v "id").bind (fun i=>(lI (uu 12) m S').map fun r=>i::r)=some ids:=h;rw[hi] at h;refine aB (aM (show (lI (uu 12) m S').map (fun r=>i::r)=some ids from h)) fun rs e1 e2=>?_;exact⟨rs,e1,e2.symm⟩
theorem DZ(t:List Nat)(f:Str→MFn):eJ (OO 400 f) (Sw t) "id" = some (vs "<stream start>"):=by kernel_rfl
theorem Dw{t:List Nat}{m:Nat}{ids:List V}(h:lI (uu 12) (m+1) (dO t)=some ids):∃rs,lI (uu 12) m (sc t st1)=some rs∧ids=vs "<stream start>" :: rs:=
 Qa (nU (t:=t)).g (DZ t (uu 12)) h
noncomputable def KL:Fl→St→Prop:=fun f _=>xK f = .bool true∧∃v,f = .ret v
theorem GF:(lwB [(7,0)]).length=1:=by kernel_rfl
noncomputable def faI:Option Nat→Int
 | none=>-1
 | some i=>i
theorem BL{j:Nat}(hj:j<4):(eG j).length=nKn j+1:=by
 rcases j with _|_|_|_|j
 ·rfl
 ·rfl
 ·rfl
 ·rfl
 ·exact pm (by lia)
theorem GT{j:Nat}(hj:j<4):aG .NotEq (.lst (eG j)) (.lst (eG j))=some false:=by
 rcases j with _|_|_|_|j
 ·exact rQ [_,_,_,_,_]
 ·exact rQ [_,_,_]
 ·exact rQ [_,_,_]
 ·exact rQ [_,_,_,_,_,_,_]
 ·rfl
section
variable{A:LA}(L:Tl A)(hini:∀j i x,i≤7→TX j i x→A.ini [.str x]=some (dO (x++[0])))
include L hini
theorem law4{sv h kn la lv bl bf tl:V}{x:List Nat}{r:V}{f:Option Nat}{sl:Slot}{t:List Nat}{S:Sc}(H:rD t S [] f):XLw A [] 17 ⟨q13 sv h tl (.str x) kn sl r (.int (faI f)) la lv bl bf .self,mkF S,true⟩ KL noE:=by
 rw[bD (by rw[cP];decide),w_17];dsimp only
 cases H with
 | fin g g1=>
  rw[show decide (faI none<0)=true from rfl,eP];show (A.f "check_token" [] [] S).on _ _ _;rw[Cm L,g.c,qR,show cF (.bool false)=some false from rfl,cD,show (!(!false))=false from rfl,bI];show (A.f "peek_token" [] [] _).on _ _ _;rw[zD L,g1.p,qR,show aG .Is .none .none=some true from rfl,cD,show (!true)=false from rfl,bI];show (A.f "get_token" [] [] _).on _ _ _;rw[wO L,g1.g,qR,show aG .Is .none .none=some true from rfl,cD];exact⟨rfl,_,rfl⟩
 | @err S e i g h1=>
  rw[show decide (faI (some i)<0)=false from cE (by show ¬(i:Int)<0;lia),bI,dW,bD (by rw[cP];decide),w_18];refine jS h1 fun a b c e3=>?_;clear h1;subst e3
  have E:∀{k:Fl→St→Prop},(k=fun fl (st:St)=>pN fl st (XLR A [] (18+1) st) Prop KL noE False)→CT A 18 (nF a b c (mk t i)) ⟨q13 sv h tl (.str x) kn sl.kill r (.int (faI (some i))) la lv bl bf .gone,[],true⟩ k:=by
   intro k hk;rw[c_18,show decide ((i:Int)=faI (some i))=true from bN rfl,hk];exact⟨rfl,_,rfl⟩
  rw[show hE (.int (faI (some i))) (.int 3)=some (.int (faI (some i) % 3)) from rfl,cD,show aG .Eq (.int (faI (some i) % 3)) (.int 0)=some (decide (faI (some i) % 3=0)) from rfl,cD]
  cases decide (faI (some i) % 3=0) with
  | true=>
   show (A.f "get_token" [] [] S).on _ _ _;rw[wO L,g.g];exact E rfl
  | false=>
   rw[bI,cD,show aG .Eq (.int (faI (some i) % 3)) (.int 1)=some (decide (faI (some i) % 3=1)) from rfl,cD]
   cases decide (faI (some i) % 3=1) with
   | true=>
    show (A.f "peek_token" [] [] S).on _ _ _;rw[zD L,g.p];exact E rfl
   | false=>
    show (A.f "check_token" [.tup [vs ","]] [] S).on _ _ _;rw[zG L,g.c];exact E rfl
theorem GH{j i:Nat}{sv:V}{x:List Nat}{ns:List Int}{r:List Tk}{f:Option Nat}{sl:Slot}{fl:aL}(hj:j<4)(hi:i≤7)(T:TX j i x)(hns:∀n∈ns,0≤n∧n<5040)(H:rD (x++[0]) (sc (x++[0]) st1) r f)(R:Th (x++[0]) r f) :
  XLw A [] 8 ⟨q7 sv (.int j) (.lst (ns.map .int)) (.str x) (.lst (eG j)) sl (.lst (dP::r.map gC)) (.int (faI f)),fl,true⟩ KL noE:=by
 have F:=T.tf hi;have lx:=AU x;refine bG T.hd fun y hy=>?_;rw[bD (by rw[cP];decide),w_8];dsimp only
 have hk:(eY (.lst ((dP::r.map gC).take (nKn j+1)))).bind (fun l=>kU qV l)=some (eG j):=by
  have k0:=Pg hj (y++[0]);rw[show Bn j++(y++[0])=x++[0] by rw[hy,fY]] at k0;refine aB (Dw k0) fun rs e1 e2=>?_;refine aE (Qd H e1) fun _ e3=>?_;show kU qV ((dP::r.map gC).take (nKn j+1))=_;rw[List.take_succ_cons,←List.map_take];show (kU qV ((r.take (nKn j)).map gC)).map _=_;rw[GW,e2,e3];rfl
 have kl:=BL hj
 rw[show bR (.lst (dP::r.map gC)) .none (.int 1)=some (.lst [dP]) from Ad (n:=1),cD,show aG .NotEq (.lst [dP]) (.lst [dP])=some false from rfl,cD,bI,show lA (.lst (eG j))=some (.int ((eG j).length:Int)) from rfl,cD,Ad,cD,kl,hk,cD,
  fX (show (eG j).length≤aO by rw[kl];rcases j with _|_|_|_|j<;>first|decide|exact absurd hj (by lia)),eP,GT hj,cD,bI,bI,dW,bD (by rw[cP];decide),w_9]
 have hl:∀P:V→Prop,P (.int ((ls0 (x++[0])).last:Int))→OP (aG .Eq (.int (j:Int)) (.int 1)) fun z=>onB z (P (.int 1)) (P (.int 0)):=by
  intro P h;rw[hy] at h
  rcases j with _|_|_|_|j
  ·exact h
  ·exact h
  ·exact h
  ·exact h
  ·assumption
 refine hl (fun la=>pN .next ⟨q9 sv (.int j) (.lst (ns.map .int)) (.str x) (.lst (eG j)) sl (.lst (dP::r.map gC)) (.int (faI f)) la,fl,true⟩ (XLR A [] (9+1) ⟨q9 sv (.int j) (.lst (ns.map .int)) (.str x) (.lst (eG j)) sl (.lst (dP::r.map gC)) (.int (faI f)) la,fl,true⟩) Prop KL noE False) ?_;rw[dW,bD (by rw[cP];decide),w_10,dW,bD (by rw[cP];decide),w_11,dW,bD (by rw[cP];decide),w_12,dW,bD (by rw[cP];decide),w_13,Ae,cD,show eY (.lst (r.map gC))=some (r.map gC) from rfl,cD];refine Nu L F (s:=ls0 (x++[0])) (bs:=[]) R.good (yX (by kernel_rfl)) fun bs' hb=>?_;rw[dW,bD (by rw[cP];decide),w_14];dsimp only
 have go:pN .next ⟨q12 sv (.int j) (.lst (ns.map .int)) (.str x) (.lst (eG j)) sl (.lst (dP::r.map gC)) (.int (faI f)) (.int (bW (ls0 (x++[0])) r).last) (.int (bW (ls0 (x++[0])) r).level) (.int (bW (ls0 (x++[0])) r).blocks) (.str bs'),fl,true⟩ (XLR A [] (14+1) ⟨q12 sv (.int j) (.lst (ns.map .int)) (.str x) (.lst (eG j)) sl (.lst (dP::r.map gC)) (.int (faI f)) (.int (bW (ls0 (x++[0])) r).last) (.int (bW (ls0 (x++[0])) r).level) (.int (bW (ls0 (x++[0])) r).blocks) (.str bs'),fl,true⟩) Prop KL noE False:=by
  rw[dW,bD (by rw[cP];decide),w_15,hini j i x hi T,cD,dW,bD (by rw[cP];decide),w_16,show lA (.lst (dP::r.map gC))=some (.int ((r.length+1:Nat):Int)) from by
   show some (V.int (((dP::r.map gC).length:Nat):Int))=_
   rw[List.length_cons,List.length_map],cD,sV _ (by have:=R.len;lia),cD]
  show FL1 A [] 16 fL (.int ((0:Nat):Int)::(List.range' 1 r.length).map fun i=>V.int (Int.ofNat i)) _ _ _;refine Mk L hns nU nU (L.beg _) rfl rfl ?_;refine run2 L hns H (fun i hi=>?_) fun S' H'=>?_
  ·rw[Nat.add_comm];rfl
  ·rw[dW]
   exact law4 L hini H'
 cases f with
 | none=>
  refine kG (R.fin rfl) fun f1 f2 f3=>?_;have b1:=hb.2.2.mpr f1
  rw[show decide (faI none<0)=true from rfl,eP,show aG .NotEq (.str bs') (vs "<stream end>")=some (!decide (bs'=sL "<stream end>")) from rfl,cD,bN b1,show (!true)=false from rfl,bI,show lA (.str x)=some (.int (x.length:Int)) from rfl,cD,
   show aG .NotEq (.int ((bW (ls0 (x++[0])) r).last:Int)) (.int (x.length:Int))=some (!decide (((bW (ls0 (x++[0])) r).last:Int)=(x.length:Int))) from rfl,cD,bN (show ((bW (ls0 (x++[0])) r).last:Int)=(x.length:Int) by lia),show (!true)=false from rfl,bI]
  cases hz:decide ((bW (ls0 (x++[0])) r).level=0) with
  | false=>exact go
  | true=>
   rw[show (!true)=false from rfl,bI,bN (f3 (aI hz))];exact go
 | some i=>
  refine aE (R.err i rfl) fun f1 f2=>?_
  rw[show decide (faI (some i)<0)=false from cE (by show ¬(i:Int)<0;lia),bI,bN (show ((bW (ls0 (x++[0])) r).last:Int)≤faI (some i) by show _≤(i:Int);exact Int.ofNat_le.mpr ‹_›),eP,show lA (.str x)=some (.int (x.length:Int)) from rfl,cD,
   show leV (.int (faI (some i))) (.int (x.length:Int))=some (decide (faI (some i)≤(x.length:Int))) from rfl,cD,bN (show faI (some i)≤(x.length:Int) by show (i:Int)≤_;lia)]
  exact go
theorem law2{j i:Nat}{sv:V}{x:List Nat}{ns:List Int}(hj:j<4)(hi:i≤7)(T:TX j i x)(hns:∀n∈ns,0≤n∧n<5040):XLw A [] 4 ⟨q4 sv (.int j) (.lst (ns.map .int)) (.str x) (.lst (eG j)),[],true⟩ KL noE:=by
 refine iJ (Wa (T.tf hi)) fun r f H R=>?_;rw[bD (by rw[cP];decide),w_4,hini j i x hi T,cD,dW,bD (by rw[cP];decide),w_5,dW,bD (by rw[cP];decide),w_6,dW,bD (by rw[cP];decide),w_7,bD (by rw[GF];decide),w_70,show nH (.int 120)=some ((List.range' 0 120).map fun i=>V.int (Int.ofNat i)) from sV 120 (by decide),cD];show FL1 A [(7,0)] 0 qK7 (.int ((0:Nat):Int)::(List.range' 1 119).map fun i=>V.int (Int.ofNat i)) _ _ _;rw[BF,wO L,nU.g,qR,show oH (Sw (x++[0]))=some false from rfl,cD,bI,L.beg,cD,show Nat.ble (([]:List V)++[dP]).length aO=true from rfl,eP];refine run1 L H (by have:=R.len;rw[List.length_map,List.length_range'];lia) (by have:=R.len;show 1+_≤_;lia) (fun hf S'=>?_) fun i e hf he=>?_
 ·rw[dW,zA (by rw[GF];decide)]
  show XLw A [] 8 ⟨q7 sv (.int j) (.lst (ns.map .int)) (.str x) (.lst (eG j)) .self (.lst (dP::r.map gC)) (.int (-1)),mkF S',true⟩ KL noE;have:=GH L hini (sv:=sv) (sl:=.self) (fl:=mkF S') hj hi T hns H R;rw[hf] at this;exact this
 ·refine jS he fun a b c e3=>?_;clear he;subst e3
  show CT A 7 (nF a b c (mk (x++[0]) i)) ⟨q7 sv (.int j) (.lst (ns.map .int)) (.str x) (.lst (eG j)) .gone (.lst (dP::r.map gC)) (.int (-1)),[],true⟩ _;rw[c_7,dW];have:=GH L hini (sv:=sv) (sl:=.gone) (fl:=[]) hj hi T hns H R;rw[hf] at this;exact this
theorem Oz(xs:List Int):XLw A [] 0 ⟨[("script", .val (.lst (xs.map .int)))],[],true⟩ KL noE:=by
 rw[bD (by rw[cP];decide),w_0]
 have main:∀j:Nat,j<4→pN .next ⟨q1 (.lst (xs.map .int)) (.int (j:Int)),[],true⟩ (XLR A [] (0+1) ⟨q1 (.lst (xs.map .int)) (.int (j:Int)),[],true⟩) Prop KL noE False:=by
  intro j hj
  have ln:((cS xs (some 1) (some 8)).map fun n=>n % 5040).length≤7:=by
   rw[List.length_map];show ((xs.drop (clipAt xs.length ((1:Nat):Int))).take (clipAt xs.length ((8:Nat):Int)-clipAt xs.length ((1:Nat):Int))).length≤7;rw[eI,eI];refine aJ (List.length_take_le ..) ?_
   cases xs with
   | nil=>exact Nat.zero_le _
   | cons a l=>exact Nat.sub_le_of_le_add (aJ (Nat.min_le_left ..) (Nat.add_le_add_left (Nat.le_min.mpr ⟨aK _,Nat.succ_pos _⟩) 7))
  have hns:∀n∈(cS xs (some 1) (some 8)).map fun n=>n % 5040,0≤n∧n<5040:=fun n hn=>by
   refine aB (List.mem_map.mp hn) fun m _ e2=>?_;subst e2;exact⟨Int.emod_nonneg _ (by decide),Int.emod_lt_of_pos _ (by decide)⟩
  rw[dW,bD (by rw[cP];decide),w_1,Je,cD,show (eY (.lst ((cS xs (some 1) (some 8)).map V.int))).bind (fun l=>kU (Jx 5040) l)=some (((cS xs (some 1) (some 8)).map fun n=>n % 5040).map .int) from Vg _,cD,fX (show (((cS xs (some 1) (some 8)).map fun n=>n % 5040).map V.int).length≤aO by rw[List.length_map];show _≤10000;exact aJ ‹_› (by decide)),eP];revert ln hns;generalize (cS xs (some 1) (some 8)).map (fun n=>n % 5040)=ns;intro ln hns
  rw[dW,bD (by rw[cP];decide),w_2 _ _ _ _ _ j hj,dW,bD (by rw[cP];decide),w_3,show lA (.lst (ns.map V.int))=some (.int (ns.length:Int)) from by
   show some (V.int (((ns.map V.int).length:Nat):Int))=_
   rw[List.length_map],cD,sV _ (by exact aJ ‹_› (by decide)),cD]
  refine Hx hns ln ns.length 0 _ (Nat.zero_add _) (tx_0 j hj) fun x T=>?_;rw[dW];exact law2 L hini hj ln T hns
 dsimp only
 cases xs with
 | nil=>exact main 0 (by decide)
 | cons a xs=>
  have e0:=Int.emod_nonneg a (show (4:Int)≠0 by decide);have e1:=Int.emod_lt_of_pos a (show (0:Int)<4 by decide);refine bG (Int.eq_ofNat_of_zero_le e0) fun j hj=>?_
  have lt:j<4:=by lia
  rw[show (!bU (List.map V.int (a::xs)))=true from rfl,eP,show dN (.lst (List.map V.int (a::xs))) (.int 0)=some (.int a) from rfl,cD,show hE (.int a) (.int 4)=some (.int (a % 4)) from rfl,cD,hj];exact main j lt
end
noncomputable def Vz:List V→Option Sc:=fun args=>open Classical in ((one args).bind asStr).bind fun x=>if (x.all prn&&Nat.ble x.length 150)=true then some (dO (x++[0])) else none
noncomputable def A0:LA:=⟨uu 12,Vz,gOf Nq,gOf Nr,gOf kQ,gOf Dd⟩
theorem ok0A:Tl A0:=⟨rfl,fun t k h=>gW (AE h),fun t=>gW FO,fun g b bf r hb h1 h2=>gW (AF hb h1 h2),fun k part h hp hz=>gW (Ur h hp hz),fun x a lv F h ha=>gW (Us F h ha)⟩
theorem BO(j i:Nat)(x:List Nat)(hi:i≤7)(T:TX j i x):A0.ini [.str x]=some (dO (x++[0])):=by
 show (if (x.all prn&&Nat.ble x.length 150)=true then some (dO (x++[0])) else none)=_;rw[T.prn,fX (by have:=T.len;lia)];rfl
theorem Vn(xs:List Int):XLw A0 [] 0 ⟨[("script", .val (.lst (xs.map .int)))],[],true⟩ KL noE:=Oz ok0A (fun j i x hi T=>BO j i x hi T) xs
section
open PySem.Calls PyProof.Rows Builtin Builtin.Str
theorem FN{prog:Program}{w:World}{A:Around}{E:Value→Shared→Prop}{s:Shared}{b:Nat}{x:PySem.Str}{t:Tok}{Q:Value→Shared→Prop}(h:Q (.str (reprText x) s.toks) {s with toks:=s.toks+1})(hsz:(reprText x).length≤sizeLine):wpAny (model prog w) A (pyReprObjUnder b (.str x t)) Q E s:=by
 have hT:=typeIs_str s x t;unfold pyReprObjUnder pyReprObjBy;have hv:[Value.str x t].any Value.onHeap=false:=rfl;simp only[cRoomFor,hv,Bool.false_eq_true,if_false,pure_bind];refine aF (wpAny_specialOf (name:=PySem.Str.ofString "__repr__") hT F.slot_str_repr.lookup ?_);refine aF (wpAny_callSpecialIfBoundBy?_slotG (name:=PySem.Str.ofString "__repr__") hT F.slot_str_repr.toG ?_)
 have hn:reprUnder? (.builtin "str.__repr__")=none:=by kernel_rfl
 simp only[hn];refine call_gives F.slot_str_repr hT F.entry_str_repr (F.args_str_repr_1 _) (gives_str_repr x t) ⟨hsz,?_⟩;exact aF (wpAny_isInstance (T := "str") (b:=true) rfl isSubtype_str_str (aP h))
theorem BV:(⟨mK.toArray⟩:PySem.Str)=⟨#[102,111,117,110,100,32,99,104,97,114,97,99,116,101,114,32,37,114,32,116,104,97,116,32,99,97,110,110,111,116,32,115,116,97,114,116,32,97,110,121,32,116,111,107,101,110]⟩:=by decide +kernel
set_option maxHeartbeats 1000000 in
theorem Jw(t u:Tok):∃X:PySem.Str,Meets («str.__mod__» ⟨[.str ⟨#[102,111,117,110,100,32,99,104,97,114,97,99,116,101,114,32,37,114,32,116,104,97,116,32,99,97,110,110,111,116,32,115,116,97,114,116,32,97,110,121,32,116,111,107,101,110]⟩ t,.str ⟨#[124]⟩ u],[]⟩) (fun _ R s=>∀t' k,R (.ok (.ret (.str X t'))) {s with toks:=k}):=by
 refine⟨Str.ofString "found character '|' that cannot start any token", ?_⟩
 apply KPc.meets_of
 intro _ _ _ _ _ _ _;rw[KPc.entry_is_s];unfold Builtin.Str.percentFormat;refine aF (wpAny_isInstance (typeIs_str _ _ _) F.sub_str_tuple ?_);refine aF (wpAny_of_eq (a:=some _) rfl ?_);refine aF (KPc.wp_fills_str ?_);intro _
 kpc_if
 refine aF (aP ?_);refine aF ?_;rw[KPc.range_list];refine KPc.start ?_;intro _ _;refine KPc.turn ?_
 kpc_check
 (repeat kpc_if)
 refine aP ?_
 kpc_piece
 refine KPc.turn ?_
 kpc_check
 (repeat kpc_if)
 refine aF ?_;refine wpAny_holding ?_
 (repeat kpc_if)
 refine aF (FN ?_ (by decide +kernel));refine aF (wpAny_of_eq (a:=some _) rfl ?_);refine aP ?_;refine aP ?_;refine KPc.after_str (y:=reprText ⟨#[124]⟩) (K:=10) (by kpc_g) (by decide +kernel) (by kpc_obj) ?_;intro _ _;refine KPc.turn ?_
 kpc_check
 (repeat kpc_if)
 refine aP ?_
 kpc_piece
 refine KPc.turn ?_
 kpc_check
 (repeat kpc_if)
 kpc_close
theorem prim(W:Wd):Ls W where
 modc:=fun {A s X t u} _=>by
  rw[BV];obtain⟨T,hm⟩:=Jw t u;exact PySem.binaryOp_meets (T := "str") (op:=.Mod) (typeIs_str s _ t) (typeIs_str s _ u) F.fills_str_mod F.slot_str_mod F.entry_str_mod (F.args_str_mod_2 _ _) hm fun t' k=>⟨(fun e=>nomatch e),⟨_,_,rfl⟩,_,rfl⟩
end
section
open PySem.Calls PyProof.Rows PySem.Challenge
noncomputable def qY(f:V→Value→Bool):List V→List Value→Bool
 | [],[]=>true
 | v::l,r::rs=>f v r&&qY f l rs
 | _,_=>false
set_option backward.match.sparseCases true in
noncomputable def nX(K:Frag)(t:String)(a:Addr):Option (Array Value):=match K.lookup a with
 | some ⟨.type u,none,.seq vs _,sl⟩=>cV (decide (u=t)&&sl.toList.isEmpty) vs
 | _=>none
set_option backward.match.sparseCases true in
noncomputable def vOk(K:Frag):Nat→V→Value→Bool
 | 0,_,_=>false
 | n+1,v,r=>match v with
  | .none=>decide (r = .none)
  | .bool b=>decide (r = .bool b)
  | .int i=>match r with
   | .int j _=>decide (i=j)
   | _=>false
  | .str l=>match r with
   | .str x _=>decide (l=x.cps.toList)&&Nat.ble l.length 1000
   | _=>false
  | .cls a=>match r with
   | .ref b=>Nat.beq b a
   | _=>false
  | .tup l=>match r with
   | .ref a=>(nX K "tuple" a).any fun vs=>qY (vOk K n) l vs.toList&&Nat.ble l.length 1000
   | _=>false
  | .lst l=>match r with
   | .ref a=>(nX K "list" a).any fun vs=>qY (vOk K n) l vs.toList&&Nat.ble l.length 1000
   | _=>false
  | _=>false
set_option tactic.hygienic true in
theorem pH{K:Frag}{t:String}{a:Addr}{vs:Array Value}(h:nX K t a=some vs):∃n,K.lookup a=some ⟨.type t,none,.seq vs n,#[]⟩:=by
 unfold nX at h
 split at h
 ·rename_i u ws n sl e
  have h:(match decide (u=t)&&sl.toList.isEmpty with|true=>some ws|false=>none)=some vs:=h
  cases q:decide (u=t)&&sl.toList.isEmpty with
  | false=>rw[q] at h;exact ox h
  | true=>
   rw[q] at h;obtain rfl:=so h;rw[Bool.and_eq_true] at q;have q1:=aI q.1;subst q1;obtain⟨sl⟩:=sl
   cases sl with
   | nil=>exact⟨n,e⟩
   | cons a l=>cases q.2
 ·exact ox h
theorem yW{a b c:Nat}(h:Nat.ble a b=true)(k:b≤c):a≤c:=aJ (eQ h) k
theorem vA{K:Frag}{F:Fz}(hF:∀a o,K.lookup a=some o→F.H a = .frz o)(n:Nat):∀v r,vOk K n v r=true→VR F v r:=by
 induction n with
 | zero=>intro v r h;exact bx h
 | succ n ih=>
  have all:∀(l:List V) (rs:List Value),qY (vOk K n) l rs=true→VRs F l rs:=by
   intro l
   induction l with
   | nil=>intro rs h;cases rs with|nil=>exact .nil|cons=>exact bx h
   | cons v l il=>
    intro rs h
    cases rs with
    | nil=>exact bx h
    | cons r rs=>
     have h:=(Bool.and_eq_true _ _).mp h;exact .cons (ih _ _ h.1) (il _ h.2)
  intro v r h
  cases v with
  | none=>exact aI h ▸ .none
  | bool b=>exact aI h ▸ .bool b
  | int i=>cases r with
   | int j t=>exact aI h ▸ .int _ t
   | _=>exact bx h
  | str l=>cases r with
   | str x t=>
    have h:=(Bool.and_eq_true _ _).mp h;have e:=aI h.1;have g:=yW (c:=gH) h.2 (by decide);subst e;obtain⟨⟨x⟩⟩:=x;exact .str x t g
   | _=>exact bx h
  | cls a=>cases r with
   | ref b=>exact Nat.eq_of_beq_eq_true h ▸ .cls _
   | _=>exact bx h
  | tup l=>cases r with
   | ref a=>
    have h:(nX K "tuple" a).any (fun vs=>qY (vOk K n) l vs.toList&&Nat.ble l.length 1000)=true:=h
    cases e:nX K "tuple" a with
    | none=>rw[e] at h;exact bx h
    | some vs=>
     rw[e] at h;have h:=(Bool.and_eq_true _ _).mp h;refine bG (pH e) fun m q=>?_;obtain⟨vs⟩:=vs;exact .tup (n:=m) (hF _ _ q) (all _ _ h.1) (yW h.2 (by decide))
   | _=>exact bx h
  | lst l=>cases r with
   | ref a=>
    have h:(nX K "list" a).any (fun vs=>qY (vOk K n) l vs.toList&&Nat.ble l.length 1000)=true:=h
    cases e:nX K "list" a with
    | none=>rw[e] at h;exact bx h
    | some vs=>
     rw[e] at h;have h:=(Bool.and_eq_true _ _).mp h;refine bG (pH e) fun m q=>?_;obtain⟨vs⟩:=vs;exact .lst (n:=m) (hF _ _ q) (all _ _ h.1) (yW h.2 (by decide))
   | _=>exact bx h
  | _=>exact bx h
set_option backward.match.sparseCases true in
noncomputable def Ql(K:Frag)(l:List (Str×V)):Bool:=l.all fun q=>match nsIn K mainGlobals q.1 with
 | some (some r)=>vOk K 6 q.2 r
 | _=>false
theorem tK{α:Type}{x:Str}{v:α}{l:List (Str×α)}(h:look x l=some v):(x,v)∈l:=by
 induction l with
 | nil=>exact ox h
 | cons p l ih=>
  have h:(if p.1=x then some p.2 else look x l)=some v:=h
  by_cases q:p.1=x
  ·rw[if_pos q] at h;obtain rfl:=so h;subst q;exact .head _
  ·rw[if_neg q] at h;exact .tail _ (ih h)
theorem mI{α:Type}{x:Nat}{v:α}{l:List (Nat×α)}(h:fF x l=some v):(x,v)∈l:=by
 induction l with
 | nil=>exact ox h
 | cons p l ih=>
  have h:(match Nat.beq p.1 x with|true=>some p.2|false=>fF x l)=some v:=h
  cases q:Nat.beq p.1 x with
  | true=>rw[q] at h;obtain rfl:=so h;cases Nat.eq_of_beq_eq_true q;exact .head _
  | false=>rw[q] at h;exact .tail _ (ih h)
set_option tactic.hygienic true in
theorem Wc{W:Wd}{l:List (Str×V)}(h:Ql W.K l=true){x:Str}{v:V}(e:look x l=some v):∃r,W.mg x=some r∧∀F:Fz,(∀a o,W.base.get? a=some o→F.H a = .frz o)→VR F v r:=by
 have q:=List.all_eq_true.mp h _ (tK e)
 split at q
 ·rename_i r g
  exact⟨r,mg_of W.X W.g g,fun F hF=>vA (fun a o e=>hF a o (W.X a o e)) _ _ _ q⟩
 ·exact bx q
set_option backward.match.sparseCases true in
noncomputable def qB(K:Frag)(f:Addr):Option FuncData:=match K.lookup f with
 | some ⟨_,_,.func fd,_⟩=>some fd
 | _=>none
noncomputable def Ee(K:Frag)(fd:FuncData):Bool:=codeIn K fd.code fd.qualname&&(fd.scope.names.all (fun x=>!decide (x.2 = .cell))&&(!fd.scope.isCoroutine&&(!fd.scope.isGenerator&&(decide (fd.scope.kind = .function)&&(Nat.beq fd.globals mainGlobals&&(Nat.beq fd.builtins builtinsNs&&(fd.scope.names.lookup ("__debug__" : Str)).isNone))))))
noncomputable def fB(K:Frag)(f:Addr):Option (FuncBody×Scope):=(qB K f).map fun fd=>(fd.body,fd.scope)
set_option tactic.hygienic true in
theorem Qw{K:Frag}{f:Addr}{fd:FuncData}(h:qB K f=some fd):∃oc od sl,K.lookup f=some ⟨oc,od,.func fd,sl⟩:=by
 unfold qB at h
 split at h
 ·rename_i e;obtain rfl:=so h;exact⟨_,_,_,e⟩
 ·exact ox h
theorem wD{W:Wd}{f:Addr}{fd:FuncData}{body:List Stmt}(e:qB W.K f=some fd)(hb:fd.body = .stmts body)(h:Ee W.K fd=true):hO W f fd body:=by
 unfold Ee at h;simp only[Bool.and_eq_true] at h;refine e0a7 h fun h1 h2 h3 h4 h5 h6 h7 h8=>?_;clear h;refine⟨Qw e,hb,h1,fun x hx q=>?_,Bool.not_eq_true' _▸h3,Bool.not_eq_true' _▸h4,aI h5,Nat.eq_of_beq_eq_true h6,Nat.eq_of_beq_eq_true h7,Option.isNone_iff_eq_none.mp h8⟩;have q2:=List.all_eq_true.mp h2 x hx;rw[q] at q2;exact bx q2
noncomputable def xS:List Str→Bool
 | []=>true
 | x::r=>!(r.any fun y=>decide (x=y))&&xS r
theorem tE{l:List Str}(h:xS l=true):l.Nodup:=by
 induction l with
 | nil=>exact .nil
 | cons x r ih=>
  have h:=(Bool.and_eq_true _ _).mp h;refine List.nodup_cons.mpr ⟨fun m=>?_,ih h.2⟩;have q:(r.any fun y=>decide (x=y))=true:=List.any_eq_true.mpr ⟨x,m,bN rfl⟩;rw[q] at h
  cases h.1
noncomputable def El(K:Frag):Value→Option (Option (List Value))
 | .none=>some none
 | .ref a=>(nX K "tuple" a).map fun vs=>some vs.toList
 | _=>none
noncomputable def sY(K:Frag)(fd:FuncData)(slf:Bool)(ps:fM):Bool:=(fd.params.posonlyargs.isEmpty&&(decide (fd.params.args.map (·.arg)=fK slf ps.1)&&(fd.params.kwonlyargs.isEmpty&&(fd.params.vararg.isNone&&fd.params.kwarg.isNone)))) &&
 (xS (fK slf ps.1)&&((fK slf ps.1).all (fun x=>decide (fd.scope.names.lookup x=some .local))&&(match El K fd.defaults with
  | some oD=>decide (ps.2.map (·.1)=(fK slf ps.1).drop ((fK slf ps.1).length-(oD.getD []).length))&&(Nat.ble (oD.getD []).length (fK slf ps.1).length&&qY (vOk K 6) (ps.2.map (·.2)) (oD.getD []))
  | none=>false)))
theorem Ck{K:Frag}{F:Fz}(hF:∀a o,K.lookup a=some o→F.H a = .frz o){n:Nat}:∀{l:List V} {rs:List Value},qY (vOk K n) l rs=true→VRs F l rs:=by
 intro l
 induction l with
 | nil=>intro rs h;cases rs with|nil=>exact .nil|cons=>exact bx h
 | cons v l il=>
  intro rs h
  cases rs with
  | nil=>exact bx h
  | cons r rs=>
   have h:=(Bool.and_eq_true _ _).mp h;exact .cons (vA hF _ _ _ h.1) (il h.2)
theorem Xh{K:Frag}{v:Value}{oD:Option (List Value)}(h:El K v=some oD){M:Model}{A:Around}{X:Value→Shared→Prop}{s:Shared}{Q:Option (Array Value)→Shared→Prop}(hK:K.In s.heap)(q:Q (oD.map List.toArray) s):wpAny M A (seqItems? v) Q X s:=by
 cases v with
 | none=>
  obtain rfl:=so h
  have e:seqItems? .none=pure none:=by kernel_rfl
  rw[e];exact aP q
 | ref a=>
  refine aB (aM h) fun vs e h=>?_
  cases h
  refine bG (pH e) fun n e=>?_;exact wpAny_seqItems (hK _ _ e) rfl q
 | _=>exact ox h
theorem pL{W:Wd}{fd:FuncData}{slf:Bool}{ps:fM}(h:sY W.K fd slf ps=true):pA W fd slf ps:=by
 unfold sY at h;have h:=(Bool.and_eq_true _ _).mp h;obtain⟨h0,h⟩:=h;simp only[Bool.and_eq_true] at h0 h;obtain⟨a1,a2,a3,a4,a5⟩:=h0;obtain⟨b1,b2,h⟩:=h
 cases e:El W.K fd.defaults with
 | none=>rw[e] at h;cases h
 | some oD=>
  rw[e] at h;simp only[Bool.and_eq_true] at h;obtain⟨c1,c2,c3⟩:=h
  have B:Ze W fd slf ps (oD.getD []):=⟨⟨List.isEmpty_iff.mp a1,aI a2,List.isEmpty_iff.mp a3,Option.isNone_iff_eq_none.mp a4,Option.isNone_iff_eq_none.mp a5⟩,tE b1,fun x hx=>aI (List.all_eq_true.mp b2 x hx),aI c1,eQ c2,
   fun F hF=>Ck (fun a o e=>hF a o (W.X a o e)) c3,oD.map List.toArray,by cases oD<;>rfl,fun {M A X s Q} hK q=>Xh e hK q⟩
  intro F s args kw l first rs rks
  exact Ss B
noncomputable def Dp(K:Frag)(p:Str×Addr)(ps:fM):Bool:=gV K 1041 p.1 p.2&&(qB K p.2).any fun fd=>Ee K fd&&sY K fd true ps
noncomputable def xT(K:Frag)(ok:Str→Bool)(c fI:Addr)(ps:fM)(body:List Stmt):Bool:=keepIn K (.ref c)&&(findIn K (.ref c) "__init__" == some (some (.ref fI))&&(typeIn K (.ref fI)==some (.type "function")&&(tU ps.1 body&&(xS ps.1&&(Nat.ble ps.1.length 20 &&
 ((qB K fI).any fun fd=>Ee K fd&&(decide (fd.scope.names.lookup ("self" : Str)=some .local)&&(ps.1.all (fun p=>decide (fd.scope.names.lookup p=some .local)&&ok p)&&sY K fd true ps))))))))
theorem Ge{W:Wd}{ok:Str→Bool}{c fI:Addr}{ps:fM}{body:List Stmt}{sc:Scope}(h:xT W.K ok c fI ps body=true)(hb:fB W.K fI=some (.stmts body,sc)):∃fd,iA W ok c ps fI fd body:=by
 unfold xT at h;simp only[Bool.and_eq_true,beq_iff_eq] at h;refine e0a6 h fun h1 h2 h3 h4 h5 h6 h7=>?_;clear h;refine aB (aM hb) fun fd e hb=>?_;rw[e] at h7;have h7:(Ee W.K fd&&(decide (fd.scope.names.lookup ("self" : Str)=some .local)&&(ps.1.all (fun p=>decide (fd.scope.names.lookup p=some .local)&&ok p)&&sY W.K fd true ps)))=true:=h7;simp only[Bool.and_eq_true] at h7;refine oQ h7 fun g1 g2 g3 g4=>?_;clear h7
 exact⟨fd,h1,h2,h3,wD e (congrArg Prod.fst hb) g1,h4,aI g2,fun p hp=>by
  have q:=(Bool.and_eq_true _ _).mp (List.all_eq_true.mp g3 p hp)
  exact⟨aI q.1,q.2⟩,tE h5,eQ h6,pL g4⟩
theorem Ga{W:Wd}(hs:W.scan=1041){p:Str×Addr}{d:Dn}(h:Dp W.K p d.2.1=true)(hb:fB W.K p.2=some (.stmts d.2.2,d.1)):∃f fd,fd.scope=d.1∧gV W.K W.scan p.1 f=true∧hO W f fd d.2.2∧pA W fd true d.2.1:=by
 have h:=(Bool.and_eq_true _ _).mp h;refine aB (aM hb) fun fd e hb=>?_;refine aE h fun h1 h2=>?_;clear h;rw[e] at h2;have h2:=(Bool.and_eq_true _ _).mp h2;exact⟨p.2,fd,congrArg Prod.snd hb,hs▸h1,wD e (congrArg Prod.fst hb) h2.1,pL h2.2⟩
theorem We(P:Params):Ql (KK P) Qk=true:=by kernel_rfl
theorem Sr(P:Params):(lR.all fun x=>nsIn (KK P) mainGlobals x==some none)=true:=by kernel_rfl
theorem On(P:Params):(Gb.all fun p=>Dp (KK P) p (oS p.2 vI).2.1)=true:=by kernel_rfl
theorem Oo(P:Params):(Gc.all fun p=>Dp (KK P) p (oS p.2 sU).2.1)=true:=by kernel_rfl
theorem Ve(P:Params):(Gb.map fun p=>fB (KK P) p.2)=Gb.map fun p=>some (.stmts (oS p.2 vI).2.2,(oS p.2 vI).1):=by kernel_rfl
theorem Vf(P:Params):(Gc.map fun p=>fB (KK P) p.2)=Gc.map fun p=>some (.stmts (oS p.2 sU).2.2,(oS p.2 sU).1):=by kernel_rfl
theorem Xu(P:Params):(Sz.all fun q=>q.2.all fun a=>yY (KK P) q.1 a)=true:=by kernel_rfl
theorem AB(P:Params):(pI.all fun a=>qO (KK P) 1041 a)=true:=by kernel_rfl
theorem Lw(P:Params):qC (KK P) 504 "problem_mark" = true:=by kernel_rfl
noncomputable def yS(K:Frag)(c:Nat)(a:Str)(v:V):Bool:=match findIn K (.ref c) a with
 | some (some r)=>yR K c a r&&(match v with
  | .str l=>match r with
   | .str x _=>decide (l=x.cps.toList)&&Nat.ble l.length 1000
   | _=>false
  | _=>false)
 | _=>false
theorem Sg(P:Params):(Sh.all fun q=>q.2.all fun p=>yS (KK P) q.1 p.1 p.2)=true:=by kernel_rfl
theorem AL(P:Params):(FV.all fun q=>pO (KK P) q.1 q.2)=true:=by kernel_rfl
theorem Os(P:Params):(Aj.all fun q=>makesIn (KK P) q.2.1&&xT (KK P) (qO (KK P) q.2.1) q.2.1 q.2.2.2 (lH q.2.2.1).2.1 (lH q.2.2.1).2.2)=true:=by kernel_rfl
theorem AS(P:Params):(Aj.map fun q=>fB (KK P) q.2.2.2)=Aj.map fun q=>some (.stmts (lH q.2.2.1).2.2,(lH q.2.2.1).1):=by kernel_rfl
theorem CM(P:Params):(iI (KK P) 504&&(typeIn (KK P) (.ref 504)==some (.type "type")&&xT (KK P) (pG (KK P) 504) 504 78 (lH 3).2.1 (lH 3).2.2))=true:=by kernel_rfl
theorem HL(P:Params):fB (KK P) 78=some (.stmts (lH 3).2.2,(lH 3).1):=by kernel_rfl
theorem eO{α:Type}{f:α→Bool}{l:List α}(h:l.all f=true){x:α}(m:x∈l):f x=true:=List.all_eq_true.mp h x m
theorem vX{t:List (Nat×List Str)}{c:Nat}{a:Str}(h:vY t c a=true):∃l,(c,l)∈t∧a∈l:=by
 have h:(match fF c t with|some l=>l.contains a|none=>false)=true:=h
 cases e:fF c t with
 | none=>rw[e] at h;exact bx h
 | some l=>rw[e] at h;exact⟨l,mI e,List.contains_iff_mem.mp h⟩
theorem oC{α β:Type}{f g:α→β}{l:List α}(h:l.map f=l.map g){x:α}(m:x∈l):f x=g x:=List.map_inj_left.mp h x m
theorem Sf{K:Frag}{c:Nat}{a:Str}{v:V}(h:yS K c a v=true):∃r,yR K c a r=true∧∀F:Fz,VR F v r:=by
 unfold yS at h
 cases e:findIn K (.ref c) a with
 | none=>rw[e] at h;exact bx h
 | some o=>cases o with
  | none=>rw[e] at h;exact bx h
  | some r=>
   rw[e] at h;have h:=(Bool.and_eq_true _ _).mp h;refine⟨r,h.1,fun F=>?_⟩;have h:=h.2
   cases v with
   | str l=>cases r with
    | str x t=>
     have h:=(Bool.and_eq_true _ _).mp h;have e:=aI h.1;subst e;obtain⟨⟨x⟩⟩:=x;exact .str x t (yW h.2 (by decide))
    | _=>exact bx h
   | _=>exact bx h
theorem vM{b:List Stmt}{m:Str}{d:Dn}{l:List (Str×Addr)}(h:look m (As b l)=some d):∃p∈l,p.1=m∧d=oS p.2 b:=by
 replace h:=tK h
 induction l with
 | nil=>cases h
 | cons p l ih=>
  have h:(m,d)∈(p.1,oS p.2 b)::As b l:=h
  rcases al_mc h with e|e
  ·clear h
   cases e;exact⟨p,.head _,rfl,rfl⟩
  ·obtain⟨q,m,e⟩:=ih e;exact⟨q,.tail _ m,e⟩
theorem Oy{α:Type}{x:Str}{l r:List (Str×α)}{v:α}(h:look x (l++r)=some v):look x l=some v∨look x r=some v:=by
 induction l with
 | nil=>exact .inr h
 | cons p l ih=>
  have h:(if p.1=x then some p.2 else look x (l++r))=some v:=h;show (if p.1=x then some p.2 else look x l)=_∨_
  by_cases q:p.1=x
  ·rw[if_pos q] at h ⊢;exact .inl h
  ·rw[if_neg q] at h ⊢;exact ih h
theorem CL:(lH 3).2.1.1.isEmpty=false:=by kernel_rfl
section
variable{W:Wd}(hK:W.K=KK W.w.params)(hs:W.scan=1041)
include hK hs
theorem Ua{N:Nat}(ms fs:List (Str×aY))(t:Bool):cM W ((TT N).orc ms fs t) where
 scan:=hs.symm
 blt:=fun x m=>mg_none_of W.X W.g (beq_iff_eq.mp (eO (hK▸Sr W.w.params:(lR.all fun x=>nsIn W.K mainGlobals x==some none)=true) m))
 glob:=fun x v e=>Wc (l:=Qk) (hK▸We W.w.params) e
 attr:=fun c a h=>by
  refine aB (vX h) fun l m1 m2=>?_;rw[hK];exact eO (eO (Xu W.w.params) m1) m2
 set:=fun a h=>by
  have h:pI.contains a=true:=h;rw[hK,hs];exact eO (AB W.w.params) (List.contains_iff_mem.mp h)
 xattr:=fun c a h=>by
  refine aB (vX h) fun l m1 m2=>?_;rw[hK];clear h
  cases m1 with
  | head=>
   cases m2 with
   | head=>exact Lw W.w.params
   | tail _ m=>cases m
  | tail _ m=>cases m
 cattr:=fun c l a v h1 h2=>by
  rw[hK];exact Sf (eO (eO (Sg W.w.params) (mI h1)) (tK h2))
theorem Cr(N:Nat):Lr W (TT N) where
 P:=prim W
 tabs:=Ua hK hs
 make:=fun c ps h=>by
  refine aB (List.mem_map.mp (mI h)) fun q m e=>?_
  cases e
  have k:=(Bool.and_eq_true _ _).mp (eO (Os W.w.params) m);have b:=oC (AS W.w.params) m;rw[←hK] at k b;refine bG (Ge k.2 b) fun fd M=>?_;exact⟨k.1,_,fd,_,M⟩
 inst:=fun c d h=>by
  rw[hK];exact eO (AL W.w.params) (List.contains_iff_mem.mp h)
 excs:=fun c ps h=>by
  have k:=CM W.w.params;have b:=HL W.w.params;rw[←hK] at k b;simp only[Bool.and_eq_true,beq_iff_eq] at k;refine kG k fun k1 k2 k3=>?_;clear k;refine bG (Ge k3 b) fun fd M=>?_;have h:=mI h;clear b k3
  cases h with
  | head=>exact⟨k1,k2,fun q=>Bool.noConfusion (CL.symm.trans (congrArg List.isEmpty q)),_,fd,_,M⟩
  | tail _ m=>cases m
 mths:=fun m d h=>by
  rcases Oy h with e|e
  ·clear h
   refine fA (vM e) fun p mp e2 e3=>?_;subst e2 e3;exact Ga hs (hK▸eO (On W.w.params) mp) (hK▸oC (Ve W.w.params) mp)
  ·clear h
   refine fA (vM e) fun p mp e2 e3=>?_;subst e2 e3;exact Ga hs (hK▸eO (Oo W.w.params) mp) (hK▸oC (Vf W.w.params) mp)
end
noncomputable def refV:Value→Option Addr
 | .ref f=>some f
 | _=>none
noncomputable def Be(K:Frag)(m:Str):Option Addr:=(nsIn K mainGlobals m).join.bind refV
theorem vP{K:Frag}{m:Str}{f:Addr}(e:Be K m=some f):nsIn K mainGlobals m=some (some (.ref f)):=by
 refine aB (aD e) fun v h1 h2=>?_;rw[show v = .ref f from oO (P:=fun f=>v = .ref f) (by cases v<;>first|exact trivial|rfl) h2] at h1;exact Option.join_eq_some_iff.mp h1
noncomputable def Pc(K:Frag)(m:Str)(ps:fM):Bool:=(Be K m).any fun f=>keepIn K (.ref f)&&(qB K f).any fun fd=>Ee K fd&&sY K fd false ps
noncomputable def Bd:List Str:=["_law_told", "_law_gap", "_law_bare", "_law_ended", "_law_solid", "_law_fold", "_law_spelt", "law", "_is_printable"]
theorem Pa(P:Params):(Bd.all fun m=>Pc (KK P) m (gD m).2.1)=true:=by kernel_rfl
theorem Yl(P:Params):(Bd.map fun m=>(Be (KK P) m).bind (fB (KK P)))=Bd.map fun m=>some (.stmts (gD m).2.2,(gD m).1):=by kernel_rfl
noncomputable def spM(ms fs:List (Str×aY))(d:Dn):aY:=eC (evN ((TT 400).orc ms fs false) 60) true d.1 d.2.1 d.2.2
noncomputable def dCp:Dn:=oR 1 "check_printable" sU
noncomputable def dRi:Dn:=oR 1 "__init__" sU
noncomputable def dGm:Dn:=oR 1 "get_mark" sU
noncomputable def dFs:Dn:=oR 1 "fetch_stream_start" vI
noncomputable def dSi:Dn:=oR 1 "__init__" vI
noncomputable def sPr:aY:=spP [] "_is_printable"
noncomputable def prS:aY:=fun args kw fl _ k _ b=>onO (((one args).bind asStr).bind uL) (fun c=>onB (bP kw) (onB (prn c) (k (.bool true) fl) b) b) b
noncomputable def sCp:aY:=spM [] [("_is_printable", prS)] dCp
noncomputable def sRi(cp:aY):aY:=spM [("check_printable", cp)] [] dRi
noncomputable def sGm:aY:=spM [] [] dGm
noncomputable def sFs:aY:=spM [("get_mark", sGm)] [] dFs
noncomputable def sSi(cp:aY):aY:=eC (Yr (sRi cp) (evN ((TT 400).orc [("fetch_stream_start", sFs)] [] false) 60)) true dSi.1 dSi.2.1 dSi.2.2
noncomputable def rng(a b ch:V)(K:Bool→PV):PV:=onO (aG .LtE a ch) (fun c=>onB c (onO (aG .LtE ch b) K none) (K false)) none
noncomputable def rb(fl:aL)(b:Bool):PV:=some (.bool b,fl)
theorem e_pr(ch:V)(fl:aL):eK sPr [ch] [] fl=onO (aG .In ch (vs "\t\n\r\u0085")) (fun z=>onB z (rb fl z) (rng (.str [32]) (.str [126]) ch fun z=>onB z (rb fl z) (rng (.str [160]) (.str [55295]) ch fun z=>onB z (rb fl z) (rng (.str [57344]) (.str [65533]) ch fun z=>onB z (rb fl z) (rng (.str [65536]) (.str [1114111]) ch (rb fl)))))) none:=by kernel_rfl
noncomputable abbrev fqC(l:List V)(st:St)(K:Fl→St→PV):PV:=eU (iR (evN ((TT 400).orc [] [("_is_printable", prS)] false) 58) dCp.1 (jZ (stm 0 dCp.2.2)).1 (jZ (stm 0 dCp.2.2)).2 ["self", "data"]) l st PV K (fun _ _=>none) none
noncomputable abbrev kC:Fl→St→PV:=fun fl st=>pN fl st ((evN ((TT 400).orc [] [("_is_printable", prS)] false) 60).execs dCp.1 (dCp.2.2.drop 1) st) PV kF (fun _ _=>none) none
theorem e_cp(x:List Nat)(fl:aL):eK sCp [.str x] [] fl=fqC (x.zipIdx.map fun p=>.tup [.int (Int.ofNat p.2),.str [p.1]]) ⟨iW true [("data", .str x)],fl,true⟩ kC:=by kernel_rfl
theorem l_cp(i:Int)(c:Nat)(l:List V)(x:V)(fl:aL)(K:Fl→St→PV):fqC (.tup [.int i,.str [c]]::l) ⟨iW true [("data", x)],fl,true⟩ K=onB (prn c) (fqC l ⟨iW true [("data", x)],fl,true⟩ K) none:=by kernel_rfl
theorem z_cp(x:V)(fl:aL):fqC [] ⟨iW true [("data", x)],fl,true⟩ kC=some (.none,fl):=by kernel_rfl
theorem r_cp{x:List Nat}(fl:aL)(h:x.all prn=true):eK sCp [.str x] [] fl=some (.none,fl):=by
 rw[e_cp];generalize hy:V.str x=y;clear hy
 suffices H:∀(l:List (Nat×Nat)),(∀p∈l,prn p.1=true)→fqC (l.map fun p=>.tup [.int (Int.ofNat p.2),.str [p.1]]) ⟨iW true [("data", y)],fl,true⟩ kC=some (.none,fl) by
  refine H _ fun p hp=>List.all_eq_true.mp h _ ?_;exact (List.fst_mem_of_mem_zipIdx hp)
 intro l
 induction l with
 | nil=>intro _;exact z_cp y fl
 | cons p l ih=>
  intro hl;rw[List.map_cons,l_cp,hl p (.head _),eP];exact ih fun q hq=>hl q (.tail _ hq)
theorem jN{W:Wd}{n:Nat}{f:Addr}{slf:Bool}{sp sp':aY}(h:aW W n f slf sp)(e:∀{Θ:Mn} (args:List V) (kw:List (Str×V)) (fl:aL) (k:V→aL→Θ.T) (ke:V→Θ.T),Θ.m (sp' args kw fl Θ.T k ke Θ.z)→∃v fl',eK sp args kw fl=some (v,fl')∧Θ.m (k v fl')):aW W n f slf sp':=by
 intro Θ args kw st k ke A env Φ F s first rs rks R hk C hr h0 hvs hks ok er
 refine iJ (e _ _ _ _ _ hk) fun v fl' e1 hk1=>?_;refine h (Θ:=⟨Option (V×aL),fun r=>Θ.m (onO r (fun p=>k p.1 p.2) Θ.z),none,Θ.nz⟩) (k:=fun v fl=>some (v,fl)) (ke:=fun _=>none) ?_ C hr h0 hvs hks (fun x h' hv k1=>ok x h' hv k1) fun x h' k1=>(Θ.nz k1).elim;show Θ.m (onO (eK sp args kw st.flds) (fun p=>k p.1 p.2) Θ.z);rw[e1];exact hk1
noncomputable def cpS:aY:=fun args kw fl _ k _ b=>onO ((one args).bind asStr) (fun x=>onB (bP kw) (onB (x.all prn) (k .none fl) b) b) b
theorem Fv{Θ:Mn}{α:Type}{o:Option α}{f:α→Θ.T}(h:Θ.m (onO o f Θ.z)):∃a,o=some a∧Θ.m (f a):=by
 cases o with
 | some a=>exact⟨a,rfl,h⟩
 | none=>exact (Θ.nz h).elim
theorem tA{l:List V}{x:List Nat}(h:(one l).bind asStr=some x):l=[.str x]:=by
 refine aB (aD h) fun v h1 h2=>?_;rw[bZ h1,qG h2]
theorem nZ{Θ:Mn}{b:Bool}{x:Θ.T}(h:Θ.m (onB b x Θ.z)):b=true∧Θ.m x:=by
 cases b with
 | true=>exact⟨rfl,h⟩
 | false=>exact (Θ.nz h).elim
theorem Yk(a c:Nat):aG .LtE (.str [a]) (.str [c])=some (decide (a≤c)):=rfl
theorem xJ(a b c:Nat)(K:Bool→PV):rng (.str [a]) (.str [b]) (.str [c]) K=K (Nat.ble a c&&Nat.ble c b):=by
 unfold rng;rw[Yk,Yk,aX,aX]
 have d:∀x y:Nat,Nat.ble x y=decide (x≤y):=fun x y=>by
  rcases Nat.lt_or_ge y x with q|q
  ·rw[cE (by lia)];cases e:Nat.ble x y with
   | false=>rfl
   | true=>have:=eQ e;lia
  ·rw[bN q];exact fX q
 rw[d,d]
 cases decide (a≤c)<;>rfl
theorem r_pr{c:Nat}(h:prn c=true)(fl:aL):eK sPr [.str [c]] [] fl=some (.bool true,fl):=by
 rw[e_pr];show onO (aG .In (.str [c]) (.str [9,10,13,133])) _ _=_;rw[cIn,aX,xJ,xJ,xJ,xJ];unfold prn at h;revert h
 cases decide (c∈[9,10,13,133])<;>cases (Nat.ble 32 c&&Nat.ble c 126)<;>cases (Nat.ble 160 c&&Nat.ble c 55295)<;>cases (Nat.ble 57344 c&&Nat.ble c 65533)<;>intro h<;>first|rfl|exact bx h
theorem Oc{W:Wd}{n:Nat}{f:Addr}(h:aW W n f false sPr):aW W n f false prS:=jN h fun {Θ} args kw fl k ke hk=>by
 refine aB (Fv hk) fun c e hk=>?_;refine aB (aD e) fun x h1 h2=>?_;refine aE (nZ hk) fun n hk=>?_;refine aE (nZ hk) fun q hk=>?_;rw[tA h1,hY h2,bL n];exact⟨_,_,r_pr q fl,hk⟩
theorem Rw{W:Wd}{n:Nat}{f:Addr}(h:aW W n f true sCp):aW W n f true cpS:=jN h fun {Θ} args kw fl k ke hk=>by
 refine aB (Fv hk) fun x e hk=>?_;refine aE (nZ hk) fun n hk=>?_;refine aE (nZ hk) fun q hk=>?_;rw[tA e,bL n];exact⟨_,_,r_cp fl q,hk⟩
noncomputable def FZ(t:V):V:=.obj 46 [("name", .str lW),("index", .int 0),("line", .int 0),("column", .int 0),("buffer", t),("pointer", .int 0)]
noncomputable def GA(t:V):aL:=[("name", .val (.str lW)),("stream", .val .none),("stream_pointer", .val (.int 0)),("eof", .val (.bool true)),("buffer", .val t),("pointer", .val (.int 0)),("raw_buffer", .val .none),("raw_decode", .val .none),("encoding", .val .none),
 ("index", .val (.int 0)),("line", .val (.int 0)),("column", .val (.int 0)),("done", .val (.bool false)),("flow_level", .val (.int 0)),("tokens", .lst [.obj 271 [("start_mark", FZ t),("end_mark", FZ t),("encoding", .none)]]),("tokens_taken", .val (.int 0)),("indent", .val (.int (-1))),("indents", .lst []),
 ("allow_simple_key", .val (.bool true)),("possible_simple_keys", .dct [])]
theorem Vd(l:List Nat):GA (.str l)=mkF (dO l):=by kernel_rfl
theorem e_si(x:List Nat):eK (sSi cpS) [.str x] [] []=onB (x.all prn) (onO (iX (.str x) (.str [0])) (fun t=>some (.none,GA t)) none) none:=by kernel_rfl
theorem r_si{x:List Nat}(h:x.all prn=true)(l:x.length≤150):eK (sSi cpS) [.str x] [] []=some (.none,mkF (dO (x++[0]))):=by
 rw[e_si,h,eP,uP (by show x.length+1≤90000;lia),aX,Vd]
theorem Ku{W:Wd}{n:Nat}{f:Addr}(h:aW W n f true (sSi cpS)):aW W n f true (Pz Vz):=jN h fun {Θ} args kw fl k ke hk=>by
 refine aE (nZ hk) fun q hk=>?_;refine aB (aC (o:=Vz args) hk) fun S e hk=>?_;have q:=(Bool.and_eq_true _ _).mp q
 cases kw with
 | cons=>cases q.1
 | nil=>
  cases fl with
  | cons=>cases q.2
  | nil=>
   refine aB (aD e) fun x h1 e=>?_;rw[tA h1]
   by_cases g:(x.all prn&&Nat.ble x.length 150)=true
   ·rw[if_pos g] at e
    obtain rfl:=so e;have g:=(Bool.and_eq_true _ _).mp g;exact⟨_,_,r_si g.1 (eQ g.2),hk⟩
   ·rw[if_neg g] at e;exact ox e
set_option backward.match.sparseCases true in
noncomputable def wT(K:Frag)(file:Str)(fd:FuncData)(fR:Addr):Bool:=(match (fd.params.posonlyargs++fd.params.args).head? with
  | some ar=>decide (ar.arg=("self" : Str))
  | none=>false)&&((match fd.closure with
  | [(x,cc)]=>decide (x=("__class__" : Str))&&(match K.lookup cc with
   | some ⟨_,_,.cell (some (.ref b)),_⟩=>Nat.beq b 1041
   | _=>false)
  | _=>false)&&((match fd.code with
  | .ref cda=>(match K.lookup cda with
   | some ⟨_,_,.fields vs,_⟩=>(match (vs[2]?:Option Value) with
    | some (.str fl _)=>file==fl
    | _=>false)
   | _=>false)
  | _=>false)&&((clsIn K 1041).isSome&&(decide (mroIn K 1041 (.ref 1041)=some true)&&(decide (fd.scope.names.lookup ("super" : Str)=some .globalImplicit)&&(decide (fd.scope.names.lookup ("__class__" : Str)=some .free)&&(decide (fd.scope.names.lookup ("self" : Str)=some .local) &&
  (decide (nsIn K cStatics "thirdparty.any" = some none)&&(decide (ks_superIn K 1041 1041 "__init__" = some (some (.ref fR)))&&(fnIn K fR&&decide (typeIn K (.ref fR)=some (.type "function"))))))))))))
set_option tactic.hygienic true in
theorem Mi{W:Wd}{fd:FuncData}{fR:Addr}(hs:W.scan=1041)(h:wT W.K W.prog.main.file fd fR=true)(ht:(W.prog.main.scope.names.lookup ("super" : Str)).isSome=false)(hg:W.mg ("super" : Str)=none):jV W fd fR:=by
 unfold wT at h;simp only[Bool.and_eq_true] at h;obtain⟨h1,h2,h3,h4,h5,h6,h7,h8,h9,h10,h11,h12⟩:=h;refine⟨?_,?_,?_,?_,hs▸aI h5,aI h6,aI h7,aI h8,ht,aI h9,hs▸aI h10,h11,aI h12,hg⟩
 ·split at h1
  ·rename_i ar e;exact⟨ar,e,aI h1⟩
  ·exact bx h1
 ·split at h2
  ·rename_i x cc e
   have h2:=(Bool.and_eq_true _ _).mp h2;obtain⟨q1,q2⟩:=h2
   split at q2
   ·rename_i a b c d f
    exact⟨cc,_,_,_,e.trans (by rw[aI q1]),by rw[hs,←Nat.eq_of_beq_eq_true q2];exact f⟩
   ·exact bx q2
  ·exact bx h2
 ·split at h3
  ·rename_i cda e
   split at h3
   ·rename_i a b vs sl f
    split at h3
    ·rename_i file t g
     exact⟨cda,_,_,vs,_,file,t,e,f,g,h3⟩
    ·exact bx h3
   ·exact bx h3
  ·exact bx h3
 ·rw[hs];exact Option.isSome_iff_exists.mp h4
noncomputable def Jz(K:Frag)(f:Addr)(ps:fM):Bool:=(qB K f).any fun fd=>Ee K fd&&sY K fd true ps
noncomputable def FE(K:Frag)(file:Str):Bool:=keepIn K (.ref 1041)&&(makesIn K 1041&&(decide (findIn K (.ref 1041) "__init__" = some (some (.ref 543)))&&(decide (typeIn K (.ref 543)=some (.type "function"))&&(gV K 1041 "check_printable" 175 &&
 (Jz K 543 dSi.2.1&&(Jz K 137 dRi.2.1&&(Jz K 175 dCp.2.1&&(qB K 543).any fun fd=>wT K file fd 137)))))))
theorem FD(P:Params):FE (KK P) pw_qm0003_04.main.file=true:=by kernel_rfl
theorem si_b(P:Params):([543,137,175].map fun f=>fB (KK P) f)=[some (.stmts dSi.2.2,dSi.1),some (.stmts dRi.2.2,dRi.1),some (.stmts dCp.2.2,dCp.1)]:=by kernel_rfl
theorem AA:(pw_qm0003_04.main.scope.names.lookup ("super" : Str)).isSome=false:=by kernel_rfl
theorem Fi:dSi.2.2 = .Expr (gG "stream" ⟨236,8,236,13⟩ ⟨236,8,236,15⟩ ⟨236,8,236,24⟩ ⟨236,25,236,31⟩ ⟨236,8,236,32⟩) ⟨236,8,236,32⟩::dSi.2.2.tail:=by kernel_rfl
theorem GX:look ("get_mark" : Str) (TT 400).mths=some dGm:=by kernel_rfl
theorem HD:look ("fetch_stream_start" : Str) (TT 400).mths=some dFs:=by kernel_rfl
theorem sZ{x y:Str}{a b:aY}(h:look x [(y,a)]=some b):x=y∧b=a:=by
 have h:(if y=x then some a else none)=some b:=h
 by_cases q:y=x
 ·rw[if_pos q] at h;cases h;exact⟨q.symm,rfl⟩
 ·rw[if_neg q] at h;cases h
section
variable{W:Wd}(hK:W.K=KK W.w.params)(hs:W.scan=1041)
include hK hs
theorem Gh{fns:List (Str×aY)}{n:Nat}(hf:∀x sp,look x fns=some sp→∃f,W.mg x=some (.ref f)∧keepIn W.K (.ref f)=true∧aW W (n+2) f false sp){m:Str}(hm:m∈Bd):∃f,W.mg m=some (.ref f)∧keepIn W.K (.ref f)=true∧aW W (n+3) f false (spP fns m):=by
 have k:=eO (Pa W.w.params) hm;have b:=oC (Yl W.w.params) hm;rw[←hK] at k b;unfold Pc at k
 cases e:Be W.K m with
 | none=>rw[e] at k;exact bx k
 | some f=>
  rw[e] at k b;have k:=(Bool.and_eq_true _ _).mp k;refine aE k fun k1 k2=>?_;clear k;refine aB (aM (show (qB W.K f).map (fun fd=>(fd.body,fd.scope))=_ from b)) fun fd e2 hb=>?_;rw[e2] at k2;have k2:=(Bool.and_eq_true _ _).mp k2;have Y:nQ W n 1 (OQ fns):=(Cr hK hs 400).hyps (Nat.lt_succ_self _) (fun m sp q=>nomatch q) hf (fun q=>nomatch q);have S:aW W (n+3) f false (eC (evN (OQ fns) 60) false fd.scope (gD m).2.1 (gD m).2.2):=eT (slf:=false) pS (wD e2 (congrArg Prod.fst hb) k2.1) (pL k2.2) (nM Y 60).HXs;rw[show fd.scope=(gD m).1 from congrArg Prod.snd hb] at S;refine⟨f,?_,k1,@S⟩;exact mg_of W.X W.g (vP e)
theorem tS{fns:List (Str×aY)}{n:Nat}(hf:∀x sp,look x fns=some sp→∃f,W.mg x=some (.ref f)∧keepIn W.K (.ref f)=true∧aW W (n+2) f false sp){m:Str}(hm:m∈Bd):∃f,W.mg m=some (.ref f)∧keepIn W.K (.ref f)=true∧aW W (n+3) f false (oE (gOf (spP fns m))):=by
 refine fA (Gh hK hs hf hm) fun f h1 h2 h3=>?_;exact⟨f,h1,h2,zN h3 fun args kw fl v e=>Qr e fl⟩
theorem Ar{m:Str}{d:Dn}(e:look m (TT 400).mths=some d){ms fs:List (Str×aY)}{n:Nat}(hm:∀m sp,look m ms=some sp→∃f,gV W.K W.scan m f=true∧aW W (n+2) f true sp)(hf:∀x sp,look x fs=some sp→∃f,W.mg x=some (.ref f)∧keepIn W.K (.ref f)=true∧aW W (n+2) f false sp) :
  ∃f,gV W.K W.scan m f=true∧aW W (n+3) f true (spM ms fs d):=by
 refine DK ((Cr hK hs 400).mths m d e) fun f fd h1 h2 h3 h4=>?_;have Y:nQ W n 1 ((TT 400).orc ms fs false):=(Cr hK hs 400).hyps (Nat.lt_succ_self _) hm hf (fun q=>nomatch q);have S:aW W (n+3) f true (eC (evN ((TT 400).orc ms fs false) 60) true fd.scope d.2.1 d.2.2):=eT (slf:=true) pS h3 h4 (nM Y 60).HXs;rw[h1] at S;exact⟨f,h2,@S⟩
theorem Oq{f:Addr}{d:Dn}(k:Jz W.K f d.2.1=true)(b:fB W.K f=some (.stmts d.2.2,d.1)){ms fs:List (Str×aY)}{n:Nat}(hm:∀m sp,look m ms=some sp→∃f,gV W.K W.scan m f=true∧aW W (n+2) f true sp)(hf:∀x sp,look x fs=some sp→∃f,W.mg x=some (.ref f)∧keepIn W.K (.ref f)=true∧aW W (n+2) f false sp) :
  aW W (n+3) f true (spM ms fs d):=by
 obtain⟨fd,e,hb⟩:=aM (show (qB W.K f).map (fun fd=>(fd.body,fd.scope))=_ from b);unfold Jz at k;rw[e] at k;have k:=(Bool.and_eq_true _ _).mp k;have Y:nQ W n 1 ((TT 400).orc ms fs false):=(Cr hK hs 400).hyps (Nat.lt_succ_self _) hm hf (fun q=>nomatch q);have S:aW W (n+3) f true (eC (evN ((TT 400).orc ms fs false) 60) true fd.scope d.2.1 d.2.2):=eT (slf:=true) pS (wD e (congrArg Prod.fst hb) k.1) (pL k.2) (nM Y 60).HXs;rw[show fd.scope=d.1 from congrArg Prod.snd hb] at S;exact @S
end
theorem GB(P:Params):gV (KK P) 1041 "__init__" 543=true:=by kernel_rfl
theorem Ay{α:Type 1}{x:Str}{v:α}{l:List (Str×α)}(h:look x l=some v):(x,v)∈l:=by
 induction l with
 | nil=>cases h
 | cons p l ih=>
  have h:(if p.1=x then some p.2 else look x l)=some v:=h
  by_cases q:p.1=x
  ·rw[if_pos q] at h;cases h;subst q;exact .head _
  ·rw[if_neg q] at h;exact .tail _ (ih h)
theorem aW.more{W:Wd}{n:Nat}{f:Addr}{slf:Bool}{sp:aY}(h:aW W n f slf sp):aW W (n+1) f slf sp:=by
 intro Θ args kw st k ke A env Φ F s first rs rks R hk C hr h0 hvs hks ok er
 exact h hk C.less hr h0 hvs hks ok er
section
variable{W:Wd}(hK:W.K=KK W.w.params)(hs:W.scan=1041)(hp:W.prog=pw_qm0003_04)
include hK hs hp
theorem sQ:jJ W 15 (Pz Vz) 543:=by
 have k:=FD W.w.params;have b:=si_b W.w.params;rw[←hK] at k b;unfold FE at k;simp only[Bool.and_eq_true] at k;refine e0a8 k fun k1 k2 k3 k4 k5 k6 k7 k8 k9=>?_;clear k;have b:[fB W.K 543,fB W.K 137,fB W.K 175]=[some (.stmts dSi.2.2,dSi.1),some (.stmts dRi.2.2,dRi.1),some (.stmts dCp.2.2,dCp.1)]:=b
 obtain⟨b1,b2,b3,_⟩:fB W.K 543=_∧fB W.K 137=_∧fB W.K 175=_∧True:=by
  injection b with b1 b
  injection b with b2 b
  injection b with b3 b
  exact⟨b1,b2,b3,trivial⟩
 refine fA (Gh (n:=9) (fns:=[]) hK hs (fun _ _ q=>nomatch q) (m := "_is_printable") (List.mem_of_getElem? (i:=8) rfl)) fun fP p1 p2 p3=>?_
 have c1:aW W 13 175 true cpS:=Rw (Oq (n:=10) (ms:=[]) (fs:=[("_is_printable", prS)]) hK hs k8 b3 (fun _ _ q=>nomatch q) fun x sp q=>by
  refine aE (sZ q) fun e0 e1=>?_;subst e0 e1
  exact⟨fP,p1,p2,Oc p3⟩)
 have c2:aW W 14 137 true (sRi cpS):=Oq (n:=11) (ms:=[("check_printable", cpS)]) (fs:=[]) hK hs k7 b2 (fun x sp q=>by
  refine aE (sZ q) fun e0 e1=>?_;subst e0 e1
  exact⟨175,hs▸k5,c1⟩) fun _ _ q=>nomatch q
 refine aB (Ar (n:=10) (ms:=[]) (fs:=[]) hK hs GX (fun _ _ q=>nomatch q) fun _ _ q=>nomatch q) fun fG g1 g2=>?_
 obtain⟨fS,s1,s2⟩:=Ar (n:=11) (ms:=[("get_mark", sGm)]) (fs:=[]) hK hs HD (fun x sp q=>by
  refine aE (sZ q) fun e0 e1=>?_;subst e0 e1
  exact⟨fG,g1,g2⟩) fun _ _ q=>nomatch q
 have Y:nQ W 12 1 ((TT 400).orc [("fetch_stream_start", sFs)] [] false):=(Cr hK hs 400).hyps (Nat.lt_succ_self _) (fun x sp q=>by
  refine aE (sZ q) fun e0 e1=>?_;subst e0 e1
  exact⟨fS,s1,s2⟩) (fun _ _ q=>nomatch q) (fun q=>nomatch q)
 refine aB (aM (show (qB W.K 543).map (fun fd=>(fd.body,fd.scope))=_ from b1)) fun fd e hb=>?_;unfold Jz at k6;rw[e] at k6 k9;have k6:=(Bool.and_eq_true _ _).mp k6;have SF:jV W fd 137:=Mi hs (by rw[hp];exact k9) (by rw[hp];exact AA) (mg_none_of W.X W.g (beq_iff_eq.mp (eO (hK▸Sr W.w.params:(lR.all fun x=>nsIn W.K mainGlobals x==some none)=true) (List.mem_of_getElem? (i:=7) rfl))));have FF:=wD e (congrArg Prod.fst hb) k6.1
 have S:aW W 15 543 true (sSi cpS):=by
  unfold sSi;rw[←show fd.scope=dSi.1 from congrArg Prod.snd hb,Fi];rw[Fi] at FF;exact Cu SF c2 FF (pL k6.2) (nM Y 60).HXs rfl
 exact⟨hs▸k1,hs▸k2,hs▸aI k3,aI k4,Ku S⟩
theorem Qc:nQ W 14 0 (OL A0):=by
 have no:∀{n:Nat} (x:Str) (sp:aY),look x []=some sp→∃f,W.mg x=some (.ref f)∧keepIn W.K (.ref f)=true∧aW W (n+2) f false sp:=fun _ _ q=>nomatch q;have t1:=tS (n:=13) hK hs no (m := "_law_told") (List.mem_of_getElem? (i:=0) rfl);have t2:=tS (n:=13) hK hs no (m := "_law_bare") (List.mem_of_getElem? (i:=2) rfl);have t3:=tS (n:=13) hK hs no (m := "_law_ended") (List.mem_of_getElem? (i:=3) rfl);have t4:=tS (n:=12) hK hs no (m := "_law_solid") (List.mem_of_getElem? (i:=4) rfl);have t5:=tS (n:=11) hK hs no (m := "_law_gap") (List.mem_of_getElem? (i:=1) rfl)
 have t6:=tS (n:=12) (fns:=cQ) hK hs (fun x sp q=>by
  refine aE (sZ q) fun e0 e1=>?_;subst e0 e1
  exact t5) (m := "_law_fold") (List.mem_of_getElem? (i:=5) rfl)
 have t7:=tS (n:=13) (fns:=Gr) hK hs (fun x sp q=>by
  rcases al_mc (Ay q) with z|z
  ·cases z;exact t6
  ·rcases al_mc z with z|z
   ·cases z;exact t4
   ·cases z) (m := "_law_spelt") (List.mem_of_getElem? (i:=6) rfl)
 refine (Cr hK hs 400).hyps (by decide) (fun m sp q=>?_) (fun x sp q=>?_) (fun _=>⟨rfl,fun sp q=>?_⟩)
 ·have q:(if ("__init__" : Str)=m then some (Pz A0.ini) else look m (pP A0.f (TT 400).mths))=some sp:=q
  by_cases z:("__init__" : Str)=m
  ·rw[if_pos z] at q
   cases q
   subst z;exact⟨543,by rw[hK,hs];exact GB W.w.params,aW.more (sQ hK hs hp).snd⟩
  ·rw[if_neg z] at q
   obtain⟨rfl,d,e⟩:=kX q;exact Mb (Cr hK hs 400) 12 m d e
 ·rcases al_mc (Ay q) with z|z
  ·cases z;exact t1
  rcases al_mc z with z|z
  ·cases z;exact t2
  rcases al_mc z with z|z
  ·cases z;exact t7
  rcases al_mc z with z|z
  ·cases z;exact t3
  ·cases z
 ·have q:some (Pz A0.ini)=some sp:=q
  cases q
  exact⟨543,sQ hK hs hp⟩
end
theorem Wb{R:WRecords}{x:WData}(h:WShape.has R x .int=true):∃i,x = .int i:=by
 cases x<;>first|exact⟨_,rfl⟩|exact bx h
theorem Qg{R:WRecords}:∀{l:List WData},WShape.hasItems R l .int=true→∃xs:List Int,l=xs.map .int:=by
 intro l
 induction l with
 | nil=>intro _;exact⟨[],rfl⟩
 | cons x l ih=>
  intro h;have h:=(Bool.and_eq_true _ _).mp (show (WShape.has R x .int&&WShape.hasItems R l .int)=true from h);obtain⟨i,rfl⟩:=Wb h.1;obtain⟨xs,rfl⟩:=ih h.2;exact⟨i::xs,rfl⟩
theorem Qf{R:WRecords}{x:WData}(h:WShape.has R x (.list .int)=true):∃xs:List Int,x = .list (xs.map .int):=by
 cases x with
 | list l=>
  have h:(WShape.hasItems R l .int||false)=true:=h;rw[Bool.or_false] at h;obtain⟨xs,e⟩:=Qg (R:=R) (l:=l) h;exact⟨xs,by rw[e]⟩
 | _=>exact bx h
theorem Ht{P:Params}{h:Heap}{F:Fz}:∀{xs:List Int} {vs:List Value},WellAll P h vs (xs.map .int)→VRs F (xs.map V.int) vs:=by
 intro xs
 induction xs with
 | nil=>intro vs h;cases h;exact .nil
 | cons x xs ih=>
  intro vs h
  cases h with
  | cons a b=>cases a with|int i t=>exact .cons (.int _ t) (ih b)
theorem Te{args:List WData}(h:rw_qm0003_04.row.toRowW.claim.pre args=true):∃xs:List Int,args=[.list (xs.map .int)]∧xs.length≤63:=by
 obtain⟨h1,h2⟩:=(Bool.and_eq_true _ _).mp h;have h1:WShape.hasAll [] args [.list .int]=true:=h1
 cases args with
 | nil=>exact bx h1
 | cons x r=>
  have h1:=(Bool.and_eq_true _ _).mp (show (WShape.has [] x (.list .int)&&WShape.hasAll [] r [])=true from h1);obtain⟨xs,rfl⟩:=Qf h1.1
  cases r with
  | cons=>exact bx h1.2
  | nil=>
   refine⟨xs,rfl,?_⟩;have h2:WTm.holds [] (.and (.not (.lt (.lit (.int 63)) (.len (.arg 0)))) (.lit (.bool true))) {args:=[.list (xs.map .int)]}=true:=h2
   rcases Nat.lt_or_ge 63 xs.length with q|q
   ·exfalso
    rw[show WTm.holds [] (.and (.not (.lt (.lit (.int 63)) (.len (.arg 0)))) (.lit (.bool true))) {args:=[.list (xs.map .int)]}=WTm.holds [] (.and (.not (.lit (.bool (decide ((63:Int)<((xs.map WData.int).length:Int)))))) (.lit (.bool true))) {args:=[]} by kernel_rfl,List.length_map,bN (by exact Int.ofNat_lt.mpr ‹_›)] at h2;exact bx ((show false=WTm.holds [] (.and (.not (.lit (.bool true))) (.lit (.bool true))) {args:=[]} by kernel_rfl).trans h2)
   ·exact q
theorem Vo:(gD "law").2.1=((["script"],[]):fM):=by kernel_rfl
theorem Uu(args ds:List WData):rw_qm0003_04.row.toRowW.claim.post args (.bool true) ds=true:=by
 show (WShape.has [] (.bool true) .bool&&WTm.holds [] (.eq .res (.lit (.bool true))) {args:=args,res:=some (.bool true),after:=ds})=true
 kernel_rfl
set_option tactic.hygienic true in
theorem walk(d:DefRec)(kwd:List (Str×Expr))(hd:defOf qv rw_qm0003_04.row.name=some (d,kwd)):WalkO qv fU (XL qv []) lJ.says rw_qm0003_04.row.toRowW d kwd fun f vs=>PySem.call f vs:=by
 intro w s₀ s₁ mg mb G Y a o pm cd doc dV kV ho hdat hcd hdf hmg hgens args vals as hpre hlay hreads hwell hsm;obtain⟨xs,rfl,hx⟩:=Te hpre;have hn:d.name=("law" : Str):=defOf_name hd
 let W:Wd:=⟨pw_qm0003_04,w,KK w.params,s₁.heap,1041,mg,mb,s₁.os,kIn_of Y,G.T.g,G.T.b,G.T.nolimit,G.T.builtins⟩
 have hyp:=Qc (W:=W) rfl rfl rfl;have k:=eO (Pa w.params) (x := "law") (List.mem_of_getElem? (i:=7) rfl);have b:=oC (Yl w.params) (x := "law") (List.mem_of_getElem? (i:=7) rfl);unfold Pc at k
 cases e:Be (KK w.params) "law" with
 | none=>rw[e] at k;exact bx k
 | some f=>
  rw[e] at k b;have k:=(Bool.and_eq_true _ _).mp k;obtain⟨k1,k2⟩:=k;obtain⟨fd,e2,hb⟩:=aM (show (qB (KK w.params) f).map (fun fd=>(fd.body,fd.scope))=_ from b);rw[e2] at k2;have k2:=(Bool.and_eq_true _ _).mp k2
  have hf:mg "law" = some (.ref f):=by
   exact mg_of W.X W.g (vP e)
  rw[hn,hf] at hmg
  cases hmg
  have FF:hO W a fd (gD "law").2.2:=wD e2 (congrArg Prod.fst hb) k2.1;have BD:pA W fd false ((["script"],[]):fM):=Vo▸pL (W:=W) k2.2
  cases hwell with
  | cons wa wb=>
   cases wb
   cases wa with
   | list hb1 hb2=>
    rename_i b vs
    have hv:VR (Hi s₁.heap) (.lst (xs.map .int)) (.ref b):=VR.lst (n:=0) (by
     show (match s₁.heap.get? b with|some o=>bK.frz o|none=>.free)=_
     rw[hb1]) (Ht hb2) (by rw[List.length_map];show xs.length≤10000;exact aJ ‹_› (by decide))
    have hk:(evN (OL A0) 60).execs fd.scope (gD "law").2.2 ⟨[("script", .val (.lst (xs.map .int)))],[],true⟩ Prop (fun f _=>xK f = .bool true∧∃v,f = .ret v) (fun _ _=>False) False:=by
     rw[show fd.scope=(gD "law").1 from congrArg Prod.snd hb];exact Vn xs
    exact wpAny_call (Pb hyp FF BD (by decide) (by decide) rfl hgens rfl hv hk fun {s' F'} p=>GoodW.toG ⟨.inl ⟨_,.bool true,[],rfl,fun _=>rfl,.bool true,Uu _ _,fun _=>⟨.nil,fun _ q=>nomatch q⟩⟩,fun b o q=>by have z:=p.z b;rw[p.base b o q] at z;exact z,p.os,p.gens⟩)
theorem Em:rw_qm0003_04.Holds:=EQ walk
end
end Mine.Internal
theorem PySem.Challenge.cw_qm0003_04_holds : PySem.Challenge.rw_qm0003_04.Holds :=
  Mine.Internal.Em
