import PyProof.Rows.All
import Wide.All
import OpenK.AllK
import Wide.FinOn
import KE.KIsNot
import Lean
import PySem.Challenge.RW_je0023_01
set_option autoImplicit false
set_option linter.all false
set_option genCtorIdx false
set_option bootstrap.genMatcherCode false
set_option genSizeOf false
set_option genInjectivity false
set_option Elab.async false
section
namespace Mine.N
theorem a1{x i j:Nat}(h:x-i=j+1):x-(i+1)=j:=congrArg Nat.pred h
theorem a2{x i j:Nat}(h:x-i=j+1):i<x:=Nat.lt_of_sub_eq_succ h
theorem a3{x i:Nat}(h:x-i=0)(g:i≤x):i=x:=Nat.le_antisymm g (Nat.le_of_sub_eq_zero h)
theorem a4{m x j:Nat}(h:m=x-j)(g:j<x):x-(j+1)<m:=h▸Nat.sub_succ_lt_self x j g
theorem a5{x i j:Nat}(h:x-i=j+1):x-(i+1)+1=x-i:=(congrArg Nat.succ (congrArg Nat.pred h)).trans h.symm
theorem a6{x n m f:Nat}(g1:n≤m)(g2:m<x)(hf:x-n<f+1):x-(m+1)<f:=Nat.lt_of_succ_lt_succ (Nat.lt_of_le_of_lt (Nat.le_trans (Nat.succ_le_of_lt (Nat.sub_succ_lt_self x m g2)) (Nat.sub_le_sub_left g1 x)) hf)
theorem a7{m m' x i:Nat}(h:m=x-i)(e:m=m'+1):m'=x-(i+1):=(congrArg Nat.pred (h.symm.trans e)).symm
theorem b1{a b:Nat}(h:¬a<b):b≤a:=Nat.le_of_not_lt h
theorem b2{a b c:Nat}(h:a≤b)(g:b+1≤c):a+1≤c:=Nat.le_trans (Nat.succ_le_succ h) g
theorem b3{a b:Nat}(h:a<b+1)(g:a≠b):a<b:=Nat.lt_of_le_of_ne (Nat.le_of_lt_succ h) g
theorem b4{a b c:Nat}(h:a=b)(g:b≤c):a≤c:=h▸g
theorem b5{a b c:Nat}(h:a=b)(g:b<c):a<c:=h▸g
theorem b6{a b c:Nat}(h:c=b)(g:a≤b):a≤c:=h▸g
theorem b7{a b c:Nat}(h:c=b)(g:a<b):a<c:=h▸g
theorem b8{lo hi:Nat}(h:lo<hi):(lo+hi)/2<hi:=by omega
theorem b9{lo hi:Nat}(h:lo<hi):lo≤(lo+hi)/2:=by omega
theorem c1{lo hi f:Nat}(h3:hi-lo≤f+1)(h:lo<hi):(lo+hi)/2-lo≤f:=by omega
theorem c2{lo hi f:Nat}(h3:hi-lo≤f+1)(h:lo<hi):hi-((lo+hi)/2+1)≤f:=by omega
theorem c4{x k:Nat}(h:k≤x):x-(x-k)=k:=Nat.sub_sub_self h
theorem c5{p x:Nat}(h:p≤x):min p x+(x-p+1)=x+1:=by omega
theorem c8{a b:Nat}(h:a≤b):a+(b-a)=b:=Nat.add_sub_cancel' h
theorem d1{x:Nat}(h:x≤0):x=0:=Nat.le_zero.mp h
theorem d3{r f r':Nat}(h:r'<r+(f+1)):r'<r+1+f:=Nat.succ_add_eq_add_succ r f▸h
theorem d5{x y:Nat}(h:x≤y)(g:y<x):False:=Nat.not_lt_of_le h g
theorem d6{m n:Nat}(g1:n≤m)(g2:¬n+1≤m):m=n:=Nat.le_antisymm (Nat.le_of_lt_succ (Nat.lt_of_not_le g2)) g1
theorem d7{r r':Nat}(h:r≤r')(g:r'≠r):r+1≤r':=Nat.lt_of_le_of_ne h (Ne.symm g)
theorem d8{n m:Nat}(h:n≤m)(g:¬n=m):n<m:=Nat.lt_of_le_of_ne h g
theorem e3{i p:Nat}(h1:¬i<p)(h2:¬i=p):p≤i-1:=by omega
theorem e4{i p n:Nat}(h1:¬i<p)(h2:¬i=p)(hi:i<n+1):i-1<n:=by omega
theorem e5{i p:Nat}(h1:¬i<p)(h2:¬i=p):i-p=i-p-1+1:=by omega
theorem e6{i p d:Nat}(h1:¬i<p)(h2:¬i=p)(hd:i-p=d+1):p+d=i-1:=by omega
theorem e7{i k b:Nat}(h:i<k)(h1:¬i<b)(h3:¬i=b):i-1<k-1:=by omega
theorem e8{i k b:Nat}(h:i<k)(g:k<b+1):k-1<b:=by omega
theorem e9{i k b:Nat}(h:i<k)(g:i=b):b≤k-1:=by omega
theorem f1{a b:Nat}(h:a*5<b*3):a≤b:=by omega
theorem f2{a b:Nat}(h:a≤b)(g:b<a){p:Prop}:p:=absurd g (Nat.not_lt_of_le h)
theorem f3{a b:Nat}(h:a*5<b*3):a+1≤b:=by omega
theorem f6{x n:Nat}(h:x≤4)(g:4≤n):x≤n:=Nat.le_trans h g
theorem f9{a b c:Nat}(h:a+b≤c):a≤c:=Nat.le_trans (Nat.le_add_right ..) h
theorem g1{a b c:Nat}(h:a+b<c):b<c:=Nat.lt_of_le_of_lt (Nat.le_add_left ..) h
theorem g2{a b c:Nat}(h:a+b<c):a<c:=Nat.lt_of_le_of_lt (Nat.le_add_right ..) h
theorem g3{a b c d:Nat}(h:a+b<c)(g:d≤b):a+d<c:=Nat.lt_of_le_of_lt (Nat.add_le_add_left g a) h
theorem h3{x:Nat}(h:x≤100000):x≤2^24:=Nat.le_trans h (of_decide_eq_true rfl)
theorem h8{g a b:Nat}(hg:a≤g)(h:g<a+b):g-a<b:=by omega
theorem h9{l n:Nat}(h:l≤n+1):l-1≤n:=Nat.sub_le_of_le_add h
theorem i1{l m:Nat}(h:l≤m-1)(g:0<m):l+1≤m:=by omega
theorem i2{m n:Nat}(q:¬m<n):m=n+(m-n):=(Nat.add_sub_cancel' (Nat.le_of_not_lt q)).symm
theorem i3{j k m:Nat}(h:j+k≤m)(g:0<k):j+1+(k-1)≤m:=by omega
theorem i4{a b m:Nat}(hb:b<m):b-a<m:=Nat.lt_of_le_of_lt (Nat.sub_le ..) hb
theorem j1{a b d:Nat}(h:a+(b+1)≤d):a≤d:=Nat.le_trans (Nat.le_add_right ..) h
theorem j2{a b x n:Nat}(h:a≤n)(e:x=min a b)(g:a≤b):x=a:=e.trans (Nat.min_eq_left g)
theorem j6{r k:Nat}(hr:13≤r):13≤r+k:=Nat.le_trans hr (Nat.le_add_right ..)
theorem j8{x y:Nat}(h:x<y)(e:x=y){p:Prop}:p:=absurd e (Nat.ne_of_lt h)
theorem j9{a b c:Nat}(h:a<b)(g:b≤c+1):a≤c:=Nat.le_of_lt_succ (Nat.lt_of_lt_of_le h g)
theorem k2{x k n:Nat}(h:x≤n):x-k≤n:=Nat.le_trans (Nat.sub_le ..) h
theorem k4{l r k:Nat}(h:¬l≥r)(g:r≤k):(l+r)/2≤k:=by omega
theorem k6{l r:Nat}(h:¬l≥r):(l+r)/2+1≤r:=by omega
theorem k7{l r:Nat}(h:¬l≥r):l≤(l+r)/2:=by omega
theorem k8{x n a:Nat}(hn:n≤a)(hxn:x<n):x-1<a:=by omega
theorem k9{x n a:Nat}(hn:n≤a)(hxn:x≤n)(h:0<x):x-1<a:=by omega
theorem l1{x:Nat}(h:2≤x):x=x-1+1:=by omega
theorem l2{u n c:Nat}(h:u+(n+1)<c):u+1+n<c:=by omega
theorem l3{u n c:Nat}(h:u+n<c):u<c:=Nat.lt_of_le_of_lt (Nat.le_add_right ..) h
theorem l4{u n c m:Nat}(h:u+n<c)(g:m≤n):u+m<c:=Nat.lt_of_le_of_lt (Nat.add_le_add_left g u) h
end Mine.N
end
section
namespace Mine
open PySem PyProof.Rows
theorem cX{p0 p1:Prop}{G:Prop}(h:p0∧p1)(f:p0→p1→G):G:=by
 obtain ⟨h0,h1⟩:=h;exact f h0 h1
theorem bG{p0 p1 p2:Prop}{G:Prop}(h:p0∧p1∧p2)(f:p0→p1→p2→G):G:=by
 obtain ⟨h0,h1,h2⟩:=h;exact f h0 h1 h2
theorem GI{p0 p1 p2 p3:Prop}{G:Prop}(h:p0∧p1∧p2∧p3)(f:p0→p1→p2→p3→G):G:=by
 obtain ⟨h0,h1,h2,h3⟩:=h;exact f h0 h1 h2 h3
theorem DC{p0 p1 p2 p3 p4:Prop}{G:Prop}(h:p0∧p1∧p2∧p3∧p4)(f:p0→p1→p2→p3→p4→G):G:=by
 obtain ⟨h0,h1,h2,h3,h4⟩:=h;exact f h0 h1 h2 h3 h4
theorem vP{p0 p1 p2 p3 p4 p5:Prop}{G:Prop}(h:p0∧p1∧p2∧p3∧p4∧p5)(f:p0→p1→p2→p3→p4→p5→G):G:=by
 obtain ⟨h0,h1,h2,h3,h4,h5⟩:=h;exact f h0 h1 h2 h3 h4 h5
theorem GF{p0 p1 p2 p3 p4 p5 p6:Prop}{G:Prop}(h:p0∧p1∧p2∧p3∧p4∧p5∧p6)(f:p0→p1→p2→p3→p4→p5→p6→G):G:=by
 obtain ⟨h0,h1,h2,h3,h4,h5,h6⟩:=h;exact f h0 h1 h2 h3 h4 h5 h6
theorem JV{p0 p1 p2 p3 p4 p5 p6 p7:Prop}{G:Prop}(h:p0∧p1∧p2∧p3∧p4∧p5∧p6∧p7)(f:p0→p1→p2→p3→p4→p5→p6→p7→G):G:=by
 obtain ⟨h0,h1,h2,h3,h4,h5,h6,h7⟩:=h;exact f h0 h1 h2 h3 h4 h5 h6 h7
theorem aL{α0:Sort _}{p0:α0→Prop}{G:Prop}(h:∃x0,p0 x0)(f:∀x0,p0 x0→G):G:=by
 obtain ⟨x0,h0⟩:=h;exact f x0 h0
theorem ao{α0:Sort _}{p0 p1:α0→Prop}{G:Prop}(h:∃x0,p0 x0∧p1 x0)(f:∀x0,p0 x0→p1 x0→G):G:=by
 obtain ⟨x0,h0,h1⟩:=h;exact f x0 h0 h1
theorem br{α0:Sort _}{p0 p1 p2:α0→Prop}{G:Prop}(h:∃x0,p0 x0∧p1 x0∧p2 x0)(f:∀x0,p0 x0→p1 x0→p2 x0→G):G:=by
 obtain ⟨x0,h0,h1,h2⟩:=h;exact f x0 h0 h1 h2
theorem jF{α0:Sort _}{p0 p1 p2 p3:α0→Prop}{G:Prop}(h:∃x0,p0 x0∧p1 x0∧p2 x0∧p3 x0)(f:∀x0,p0 x0→p1 x0→p2 x0→p3 x0→G):G:=by
 obtain ⟨x0,h0,h1,h2,h3⟩:=h;exact f x0 h0 h1 h2 h3
theorem qL{α0:Sort _}{p0 p1 p2 p3 p4:α0→Prop}{G:Prop}(h:∃x0,p0 x0∧p1 x0∧p2 x0∧p3 x0∧p4 x0)(f:∀x0,p0 x0→p1 x0→p2 x0→p3 x0→p4 x0→G):G:=by
 obtain ⟨x0,h0,h1,h2,h3,h4⟩:=h;exact f x0 h0 h1 h2 h3 h4
theorem DB{α0:Sort _}{p0 p1 p2 p3 p4 p5:α0→Prop}{G:Prop}(h:∃x0,p0 x0∧p1 x0∧p2 x0∧p3 x0∧p4 x0∧p5 x0)(f:∀x0,p0 x0→p1 x0→p2 x0→p3 x0→p4 x0→p5 x0→G):G:=by
 obtain ⟨x0,h0,h1,h2,h3,h4,h5⟩:=h;exact f x0 h0 h1 h2 h3 h4 h5
theorem GD{α0:Sort _}{p0 p1 p2 p3 p4 p5 p6:α0→Prop}{G:Prop}(h:∃x0,p0 x0∧p1 x0∧p2 x0∧p3 x0∧p4 x0∧p5 x0∧p6 x0)(f:∀x0,p0 x0→p1 x0→p2 x0→p3 x0→p4 x0→p5 x0→p6 x0→G):G:=by
 obtain ⟨x0,h0,h1,h2,h3,h4,h5,h6⟩:=h;exact f x0 h0 h1 h2 h3 h4 h5 h6
theorem JU{α0:Sort _}{p0 p1 p2 p3 p4 p5 p6 p7:α0→Prop}{G:Prop}(h:∃x0,p0 x0∧p1 x0∧p2 x0∧p3 x0∧p4 x0∧p5 x0∧p6 x0∧p7 x0)(f:∀x0,p0 x0→p1 x0→p2 x0→p3 x0→p4 x0→p5 x0→p6 x0→p7 x0→G):G:=by
 obtain ⟨x0,h0,h1,h2,h3,h4,h5,h6,h7⟩:=h;exact f x0 h0 h1 h2 h3 h4 h5 h6 h7
theorem f5{α0:Sort _}{α1:Sort _}{p0:α0→α1→Prop}{G:Prop}(h:∃x0 x1,p0 x0 x1)(f:∀x0 x1,p0 x0 x1→G):G:=by
 obtain ⟨x0,x1,h0⟩:=h;exact f x0 x1 h0
theorem ez{α0:Sort _}{α1:Sort _}{p0 p1:α0→α1→Prop}{G:Prop}(h:∃x0 x1,p0 x0 x1∧p1 x0 x1)(f:∀x0 x1,p0 x0 x1→p1 x0 x1→G):G:=by
 obtain ⟨x0,x1,h0,h1⟩:=h;exact f x0 x1 h0 h1
theorem aP{α0:Sort _}{α1:Sort _}{p0 p1 p2:α0→α1→Prop}{G:Prop}(h:∃x0 x1,p0 x0 x1∧p1 x0 x1∧p2 x0 x1)(f:∀x0 x1,p0 x0 x1→p1 x0 x1→p2 x0 x1→G):G:=by
 obtain ⟨x0,x1,h0,h1,h2⟩:=h;exact f x0 x1 h0 h1 h2
theorem fm{α0:Sort _}{α1:Sort _}{p0 p1 p2 p3:α0→α1→Prop}{G:Prop}(h:∃x0 x1,p0 x0 x1∧p1 x0 x1∧p2 x0 x1∧p3 x0 x1)(f:∀x0 x1,p0 x0 x1→p1 x0 x1→p2 x0 x1→p3 x0 x1→G):G:=by
 obtain ⟨x0,x1,h0,h1,h2,h3⟩:=h;exact f x0 x1 h0 h1 h2 h3
theorem qJ{α0:Sort _}{α1:Sort _}{p0 p1 p2 p3 p4:α0→α1→Prop}{G:Prop}(h:∃x0 x1,p0 x0 x1∧p1 x0 x1∧p2 x0 x1∧p3 x0 x1∧p4 x0 x1)(f:∀x0 x1,p0 x0 x1→p1 x0 x1→p2 x0 x1→p3 x0 x1→p4 x0 x1→G):G:=by
 obtain ⟨x0,x1,h0,h1,h2,h3,h4⟩:=h;exact f x0 x1 h0 h1 h2 h3 h4
theorem o5{α0:Sort _}{α1:Sort _}{p0 p1 p2 p3 p4 p5:α0→α1→Prop}{G:Prop}(h:∃x0 x1,p0 x0 x1∧p1 x0 x1∧p2 x0 x1∧p3 x0 x1∧p4 x0 x1∧p5 x0 x1)(f:∀x0 x1,p0 x0 x1→p1 x0 x1→p2 x0 x1→p3 x0 x1→p4 x0 x1→p5 x0 x1→G):G:=by
 obtain ⟨x0,x1,h0,h1,h2,h3,h4,h5⟩:=h;exact f x0 x1 h0 h1 h2 h3 h4 h5
theorem GC{α0:Sort _}{α1:Sort _}{p0 p1 p2 p3 p4 p5 p6:α0→α1→Prop}{G:Prop}(h:∃x0 x1,p0 x0 x1∧p1 x0 x1∧p2 x0 x1∧p3 x0 x1∧p4 x0 x1∧p5 x0 x1∧p6 x0 x1)(f:∀x0 x1,p0 x0 x1→p1 x0 x1→p2 x0 x1→p3 x0 x1→p4 x0 x1→p5 x0 x1→p6 x0 x1→G):G:=by
 obtain ⟨x0,x1,h0,h1,h2,h3,h4,h5,h6⟩:=h;exact f x0 x1 h0 h1 h2 h3 h4 h5 h6
theorem JT{α0:Sort _}{α1:Sort _}{p0 p1 p2 p3 p4 p5 p6 p7:α0→α1→Prop}{G:Prop}(h:∃x0 x1,p0 x0 x1∧p1 x0 x1∧p2 x0 x1∧p3 x0 x1∧p4 x0 x1∧p5 x0 x1∧p6 x0 x1∧p7 x0 x1)(f:∀x0 x1,p0 x0 x1→p1 x0 x1→p2 x0 x1→p3 x0 x1→p4 x0 x1→p5 x0 x1→p6 x0 x1→p7 x0 x1→G):G:=by
 obtain ⟨x0,x1,h0,h1,h2,h3,h4,h5,h6,h7⟩:=h;exact f x0 x1 h0 h1 h2 h3 h4 h5 h6 h7
theorem JS{α0:Sort _}{α1:Sort _}{α2:Sort _}{p0:α0→α1→α2→Prop}{G:Prop}(h:∃x0 x1 x2,p0 x0 x1 x2)(f:∀x0 x1 x2,p0 x0 x1 x2→G):G:=by
 obtain ⟨x0,x1,x2,h0⟩:=h;exact f x0 x1 x2 h0
theorem kX{α0:Sort _}{α1:Sort _}{α2:Sort _}{p0 p1:α0→α1→α2→Prop}{G:Prop}(h:∃x0 x1 x2,p0 x0 x1 x2∧p1 x0 x1 x2)(f:∀x0 x1 x2,p0 x0 x1 x2→p1 x0 x1 x2→G):G:=by
 obtain ⟨x0,x1,x2,h0,h1⟩:=h;exact f x0 x1 x2 h0 h1
theorem bP{α0:Sort _}{α1:Sort _}{α2:Sort _}{p0 p1 p2:α0→α1→α2→Prop}{G:Prop}(h:∃x0 x1 x2,p0 x0 x1 x2∧p1 x0 x1 x2∧p2 x0 x1 x2)(f:∀x0 x1 x2,p0 x0 x1 x2→p1 x0 x1 x2→p2 x0 x1 x2→G):G:=by
 obtain ⟨x0,x1,x2,h0,h1,h2⟩:=h;exact f x0 x1 x2 h0 h1 h2
theorem kW{α0:Sort _}{α1:Sort _}{α2:Sort _}{p0 p1 p2 p3:α0→α1→α2→Prop}{G:Prop}(h:∃x0 x1 x2,p0 x0 x1 x2∧p1 x0 x1 x2∧p2 x0 x1 x2∧p3 x0 x1 x2)(f:∀x0 x1 x2,p0 x0 x1 x2→p1 x0 x1 x2→p2 x0 x1 x2→p3 x0 x1 x2→G):G:=by
 obtain ⟨x0,x1,x2,h0,h1,h2,h3⟩:=h;exact f x0 x1 x2 h0 h1 h2 h3
theorem GB{α0:Sort _}{α1:Sort _}{α2:Sort _}{p0 p1 p2 p3 p4:α0→α1→α2→Prop}{G:Prop}(h:∃x0 x1 x2,p0 x0 x1 x2∧p1 x0 x1 x2∧p2 x0 x1 x2∧p3 x0 x1 x2∧p4 x0 x1 x2)(f:∀x0 x1 x2,p0 x0 x1 x2→p1 x0 x1 x2→p2 x0 x1 x2→p3 x0 x1 x2→p4 x0 x1 x2→G):G:=by
 obtain ⟨x0,x1,x2,h0,h1,h2,h3,h4⟩:=h;exact f x0 x1 x2 h0 h1 h2 h3 h4
theorem Gz{α0:Sort _}{α1:Sort _}{α2:Sort _}{p0 p1 p2 p3 p4 p5:α0→α1→α2→Prop}{G:Prop}(h:∃x0 x1 x2,p0 x0 x1 x2∧p1 x0 x1 x2∧p2 x0 x1 x2∧p3 x0 x1 x2∧p4 x0 x1 x2∧p5 x0 x1 x2)(f:∀x0 x1 x2,p0 x0 x1 x2→p1 x0 x1 x2→p2 x0 x1 x2→p3 x0 x1 x2→p4 x0 x1 x2→p5 x0 x1 x2→G):G:=by
 obtain ⟨x0,x1,x2,h0,h1,h2,h3,h4,h5⟩:=h;exact f x0 x1 x2 h0 h1 h2 h3 h4 h5
theorem JR{α0:Sort _}{α1:Sort _}{α2:Sort _}{p0 p1 p2 p3 p4 p5 p6:α0→α1→α2→Prop}{G:Prop}(h:∃x0 x1 x2,p0 x0 x1 x2∧p1 x0 x1 x2∧p2 x0 x1 x2∧p3 x0 x1 x2∧p4 x0 x1 x2∧p5 x0 x1 x2∧p6 x0 x1 x2)(f:∀x0 x1 x2,p0 x0 x1 x2→p1 x0 x1 x2→p2 x0 x1 x2→p3 x0 x1 x2→p4 x0 x1 x2→p5 x0 x1 x2→p6 x0 x1 x2→G):G:=by
 obtain ⟨x0,x1,x2,h0,h1,h2,h3,h4,h5,h6⟩:=h;exact f x0 x1 x2 h0 h1 h2 h3 h4 h5 h6
theorem JQ{α0:Sort _}{α1:Sort _}{α2:Sort _}{p0 p1 p2 p3 p4 p5 p6 p7:α0→α1→α2→Prop}{G:Prop}(h:∃x0 x1 x2,p0 x0 x1 x2∧p1 x0 x1 x2∧p2 x0 x1 x2∧p3 x0 x1 x2∧p4 x0 x1 x2∧p5 x0 x1 x2∧p6 x0 x1 x2∧p7 x0 x1 x2)(f:∀x0 x1 x2,p0 x0 x1 x2→p1 x0 x1 x2→p2 x0 x1 x2→p3 x0 x1 x2→p4 x0 x1 x2→p5 x0 x1 x2→p6 x0 x1 x2→p7 x0 x1 x2→G):G:=by
 obtain ⟨x0,x1,x2,h0,h1,h2,h3,h4,h5,h6,h7⟩:=h;exact f x0 x1 x2 h0 h1 h2 h3 h4 h5 h6 h7
theorem Jg{α0:Sort _}{α1:Sort _}{α2:Sort _}{α3:Sort _}{p0:α0→α1→α2→α3→Prop}{G:Prop}(h:∃x0 x1 x2 x3,p0 x0 x1 x2 x3)(f:∀x0 x1 x2 x3,p0 x0 x1 x2 x3→G):G:=by
 obtain ⟨x0,x1,x2,x3,h0⟩:=h;exact f x0 x1 x2 x3 h0
theorem Gy{α0:Sort _}{α1:Sort _}{α2:Sort _}{α3:Sort _}{p0 p1:α0→α1→α2→α3→Prop}{G:Prop}(h:∃x0 x1 x2 x3,p0 x0 x1 x2 x3∧p1 x0 x1 x2 x3)(f:∀x0 x1 x2 x3,p0 x0 x1 x2 x3→p1 x0 x1 x2 x3→G):G:=by
 obtain ⟨x0,x1,x2,x3,h0,h1⟩:=h;exact f x0 x1 x2 x3 h0 h1
theorem vO{α0:Sort _}{α1:Sort _}{α2:Sort _}{α3:Sort _}{p0 p1 p2:α0→α1→α2→α3→Prop}{G:Prop}(h:∃x0 x1 x2 x3,p0 x0 x1 x2 x3∧p1 x0 x1 x2 x3∧p2 x0 x1 x2 x3)(f:∀x0 x1 x2 x3,p0 x0 x1 x2 x3→p1 x0 x1 x2 x3→p2 x0 x1 x2 x3→G):G:=by
 obtain ⟨x0,x1,x2,x3,h0,h1,h2⟩:=h;exact f x0 x1 x2 x3 h0 h1 h2
theorem Gw{α0:Sort _}{α1:Sort _}{α2:Sort _}{α3:Sort _}{p0 p1 p2 p3:α0→α1→α2→α3→Prop}{G:Prop}(h:∃x0 x1 x2 x3,p0 x0 x1 x2 x3∧p1 x0 x1 x2 x3∧p2 x0 x1 x2 x3∧p3 x0 x1 x2 x3)(f:∀x0 x1 x2 x3,p0 x0 x1 x2 x3→p1 x0 x1 x2 x3→p2 x0 x1 x2 x3→p3 x0 x1 x2 x3→G):G:=by
 obtain ⟨x0,x1,x2,x3,h0,h1,h2,h3⟩:=h;exact f x0 x1 x2 x3 h0 h1 h2 h3
theorem Bc{α0:Sort _}{α1:Sort _}{α2:Sort _}{α3:Sort _}{p0 p1 p2 p3 p4:α0→α1→α2→α3→Prop}{G:Prop}(h:∃x0 x1 x2 x3,p0 x0 x1 x2 x3∧p1 x0 x1 x2 x3∧p2 x0 x1 x2 x3∧p3 x0 x1 x2 x3∧p4 x0 x1 x2 x3)(f:∀x0 x1 x2 x3,p0 x0 x1 x2 x3→p1 x0 x1 x2 x3→p2 x0 x1 x2 x3→p3 x0 x1 x2 x3→p4 x0 x1 x2 x3→G):G:=by
 obtain ⟨x0,x1,x2,x3,h0,h1,h2,h3,h4⟩:=h;exact f x0 x1 x2 x3 h0 h1 h2 h3 h4
theorem JP{α0:Sort _}{α1:Sort _}{α2:Sort _}{α3:Sort _}{p0 p1 p2 p3 p4 p5:α0→α1→α2→α3→Prop}{G:Prop}(h:∃x0 x1 x2 x3,p0 x0 x1 x2 x3∧p1 x0 x1 x2 x3∧p2 x0 x1 x2 x3∧p3 x0 x1 x2 x3∧p4 x0 x1 x2 x3∧p5 x0 x1 x2 x3)(f:∀x0 x1 x2 x3,p0 x0 x1 x2 x3→p1 x0 x1 x2 x3→p2 x0 x1 x2 x3→p3 x0 x1 x2 x3→p4 x0 x1 x2 x3→p5 x0 x1 x2 x3→G):G:=by
 obtain ⟨x0,x1,x2,x3,h0,h1,h2,h3,h4,h5⟩:=h;exact f x0 x1 x2 x3 h0 h1 h2 h3 h4 h5
theorem JO{α0:Sort _}{α1:Sort _}{α2:Sort _}{α3:Sort _}{p0 p1 p2 p3 p4 p5 p6:α0→α1→α2→α3→Prop}{G:Prop}(h:∃x0 x1 x2 x3,p0 x0 x1 x2 x3∧p1 x0 x1 x2 x3∧p2 x0 x1 x2 x3∧p3 x0 x1 x2 x3∧p4 x0 x1 x2 x3∧p5 x0 x1 x2 x3∧p6 x0 x1 x2 x3)(f:∀x0 x1 x2 x3,p0 x0 x1 x2 x3→p1 x0 x1 x2 x3→p2 x0 x1 x2 x3→p3 x0 x1 x2 x3→p4 x0 x1 x2 x3→p5 x0 x1 x2 x3→p6 x0 x1 x2 x3→G):G:=by
 obtain ⟨x0,x1,x2,x3,h0,h1,h2,h3,h4,h5,h6⟩:=h;exact f x0 x1 x2 x3 h0 h1 h2 h3 h4 h5 h6
theorem JN{α0:Sort _}{α1:Sort _}{α2:Sort _}{α3:Sort _}{p0 p1 p2 p3 p4 p5 p6 p7:α0→α1→α2→α3→Prop}{G:Prop}(h:∃x0 x1 x2 x3,p0 x0 x1 x2 x3∧p1 x0 x1 x2 x3∧p2 x0 x1 x2 x3∧p3 x0 x1 x2 x3∧p4 x0 x1 x2 x3∧p5 x0 x1 x2 x3∧p6 x0 x1 x2 x3∧p7 x0 x1 x2 x3)(f:∀x0 x1 x2 x3,p0 x0 x1 x2 x3→p1 x0 x1 x2 x3→p2 x0 x1 x2 x3→p3 x0 x1 x2 x3→p4 x0 x1 x2 x3→p5 x0 x1 x2 x3→p6 x0 x1 x2 x3→p7 x0 x1 x2 x3→G):G:=by
 obtain ⟨x0,x1,x2,x3,h0,h1,h2,h3,h4,h5,h6,h7⟩:=h;exact f x0 x1 x2 x3 h0 h1 h2 h3 h4 h5 h6 h7
theorem JM{α0:Sort _}{α1:Sort _}{α2:Sort _}{α3:Sort _}{α4:Sort _}{p0:α0→α1→α2→α3→α4→Prop}{G:Prop}(h:∃x0 x1 x2 x3 x4,p0 x0 x1 x2 x3 x4)(f:∀x0 x1 x2 x3 x4,p0 x0 x1 x2 x3 x4→G):G:=by
 obtain ⟨x0,x1,x2,x3,x4,h0⟩:=h;exact f x0 x1 x2 x3 x4 h0
theorem Gv{α0:Sort _}{α1:Sort _}{α2:Sort _}{α3:Sort _}{α4:Sort _}{p0 p1:α0→α1→α2→α3→α4→Prop}{G:Prop}(h:∃x0 x1 x2 x3 x4,p0 x0 x1 x2 x3 x4∧p1 x0 x1 x2 x3 x4)(f:∀x0 x1 x2 x3 x4,p0 x0 x1 x2 x3 x4→p1 x0 x1 x2 x3 x4→G):G:=by
 obtain ⟨x0,x1,x2,x3,x4,h0,h1⟩:=h;exact f x0 x1 x2 x3 x4 h0 h1
theorem JL{α0:Sort _}{α1:Sort _}{α2:Sort _}{α3:Sort _}{α4:Sort _}{p0 p1 p2:α0→α1→α2→α3→α4→Prop}{G:Prop}(h:∃x0 x1 x2 x3 x4,p0 x0 x1 x2 x3 x4∧p1 x0 x1 x2 x3 x4∧p2 x0 x1 x2 x3 x4)(f:∀x0 x1 x2 x3 x4,p0 x0 x1 x2 x3 x4→p1 x0 x1 x2 x3 x4→p2 x0 x1 x2 x3 x4→G):G:=by
 obtain ⟨x0,x1,x2,x3,x4,h0,h1,h2⟩:=h;exact f x0 x1 x2 x3 x4 h0 h1 h2
theorem JK{α0:Sort _}{α1:Sort _}{α2:Sort _}{α3:Sort _}{α4:Sort _}{p0 p1 p2 p3:α0→α1→α2→α3→α4→Prop}{G:Prop}(h:∃x0 x1 x2 x3 x4,p0 x0 x1 x2 x3 x4∧p1 x0 x1 x2 x3 x4∧p2 x0 x1 x2 x3 x4∧p3 x0 x1 x2 x3 x4)(f:∀x0 x1 x2 x3 x4,p0 x0 x1 x2 x3 x4→p1 x0 x1 x2 x3 x4→p2 x0 x1 x2 x3 x4→p3 x0 x1 x2 x3 x4→G):G:=by
 obtain ⟨x0,x1,x2,x3,x4,h0,h1,h2,h3⟩:=h;exact f x0 x1 x2 x3 x4 h0 h1 h2 h3
theorem JJ{α0:Sort _}{α1:Sort _}{α2:Sort _}{α3:Sort _}{α4:Sort _}{p0 p1 p2 p3 p4:α0→α1→α2→α3→α4→Prop}{G:Prop}(h:∃x0 x1 x2 x3 x4,p0 x0 x1 x2 x3 x4∧p1 x0 x1 x2 x3 x4∧p2 x0 x1 x2 x3 x4∧p3 x0 x1 x2 x3 x4∧p4 x0 x1 x2 x3 x4)(f:∀x0 x1 x2 x3 x4,p0 x0 x1 x2 x3 x4→p1 x0 x1 x2 x3 x4→p2 x0 x1 x2 x3 x4→p3 x0 x1 x2 x3 x4→p4 x0 x1 x2 x3 x4→G):G:=by
 obtain ⟨x0,x1,x2,x3,x4,h0,h1,h2,h3,h4⟩:=h;exact f x0 x1 x2 x3 x4 h0 h1 h2 h3 h4
theorem Jf{α0:Sort _}{α1:Sort _}{α2:Sort _}{α3:Sort _}{α4:Sort _}{p0 p1 p2 p3 p4 p5:α0→α1→α2→α3→α4→Prop}{G:Prop}(h:∃x0 x1 x2 x3 x4,p0 x0 x1 x2 x3 x4∧p1 x0 x1 x2 x3 x4∧p2 x0 x1 x2 x3 x4∧p3 x0 x1 x2 x3 x4∧p4 x0 x1 x2 x3 x4∧p5 x0 x1 x2 x3 x4)(f:∀x0 x1 x2 x3 x4,p0 x0 x1 x2 x3 x4→p1 x0 x1 x2 x3 x4→p2 x0 x1 x2 x3 x4→p3 x0 x1 x2 x3 x4→p4 x0 x1 x2 x3 x4→p5 x0 x1 x2 x3 x4→G):G:=by
 obtain ⟨x0,x1,x2,x3,x4,h0,h1,h2,h3,h4,h5⟩:=h;exact f x0 x1 x2 x3 x4 h0 h1 h2 h3 h4 h5
theorem Dz{α0:Sort _}{α1:Sort _}{α2:Sort _}{α3:Sort _}{α4:Sort _}{p0 p1 p2 p3 p4 p5 p6:α0→α1→α2→α3→α4→Prop}{G:Prop}(h:∃x0 x1 x2 x3 x4,p0 x0 x1 x2 x3 x4∧p1 x0 x1 x2 x3 x4∧p2 x0 x1 x2 x3 x4∧p3 x0 x1 x2 x3 x4∧p4 x0 x1 x2 x3 x4∧p5 x0 x1 x2 x3 x4∧p6 x0 x1 x2 x3 x4)(f:∀x0 x1 x2 x3 x4,p0 x0 x1 x2 x3 x4→p1 x0 x1 x2 x3 x4→p2 x0 x1 x2 x3 x4→p3 x0 x1 x2 x3 x4→p4 x0 x1 x2 x3 x4→p5 x0 x1 x2 x3 x4→p6 x0 x1 x2 x3 x4→G):G:=by
 obtain ⟨x0,x1,x2,x3,x4,h0,h1,h2,h3,h4,h5,h6⟩:=h;exact f x0 x1 x2 x3 x4 h0 h1 h2 h3 h4 h5 h6
theorem JI{α0:Sort _}{α1:Sort _}{α2:Sort _}{α3:Sort _}{α4:Sort _}{p0 p1 p2 p3 p4 p5 p6 p7:α0→α1→α2→α3→α4→Prop}{G:Prop}(h:∃x0 x1 x2 x3 x4,p0 x0 x1 x2 x3 x4∧p1 x0 x1 x2 x3 x4∧p2 x0 x1 x2 x3 x4∧p3 x0 x1 x2 x3 x4∧p4 x0 x1 x2 x3 x4∧p5 x0 x1 x2 x3 x4∧p6 x0 x1 x2 x3 x4∧p7 x0 x1 x2 x3 x4)(f:∀x0 x1 x2 x3 x4,p0 x0 x1 x2 x3 x4→p1 x0 x1 x2 x3 x4→p2 x0 x1 x2 x3 x4→p3 x0 x1 x2 x3 x4→p4 x0 x1 x2 x3 x4→p5 x0 x1 x2 x3 x4→p6 x0 x1 x2 x3 x4→p7 x0 x1 x2 x3 x4→G):G:=by
 obtain ⟨x0,x1,x2,x3,x4,h0,h1,h2,h3,h4,h5,h6,h7⟩:=h;exact f x0 x1 x2 x3 x4 h0 h1 h2 h3 h4 h5 h6 h7
theorem JH{α0:Sort _}{α1:Sort _}{α2:Sort _}{α3:Sort _}{α4:Sort _}{α5:Sort _}{p0:α0→α1→α2→α3→α4→α5→Prop}{G:Prop}(h:∃x0 x1 x2 x3 x4 x5,p0 x0 x1 x2 x3 x4 x5)(f:∀x0 x1 x2 x3 x4 x5,p0 x0 x1 x2 x3 x4 x5→G):G:=by
 obtain ⟨x0,x1,x2,x3,x4,x5,h0⟩:=h;exact f x0 x1 x2 x3 x4 x5 h0
theorem JG{α0:Sort _}{α1:Sort _}{α2:Sort _}{α3:Sort _}{α4:Sort _}{α5:Sort _}{p0 p1:α0→α1→α2→α3→α4→α5→Prop}{G:Prop}(h:∃x0 x1 x2 x3 x4 x5,p0 x0 x1 x2 x3 x4 x5∧p1 x0 x1 x2 x3 x4 x5)(f:∀x0 x1 x2 x3 x4 x5,p0 x0 x1 x2 x3 x4 x5→p1 x0 x1 x2 x3 x4 x5→G):G:=by
 obtain ⟨x0,x1,x2,x3,x4,x5,h0,h1⟩:=h;exact f x0 x1 x2 x3 x4 x5 h0 h1
theorem JF{α0:Sort _}{α1:Sort _}{α2:Sort _}{α3:Sort _}{α4:Sort _}{α5:Sort _}{p0 p1 p2:α0→α1→α2→α3→α4→α5→Prop}{G:Prop}(h:∃x0 x1 x2 x3 x4 x5,p0 x0 x1 x2 x3 x4 x5∧p1 x0 x1 x2 x3 x4 x5∧p2 x0 x1 x2 x3 x4 x5)(f:∀x0 x1 x2 x3 x4 x5,p0 x0 x1 x2 x3 x4 x5→p1 x0 x1 x2 x3 x4 x5→p2 x0 x1 x2 x3 x4 x5→G):G:=by
 obtain ⟨x0,x1,x2,x3,x4,x5,h0,h1,h2⟩:=h;exact f x0 x1 x2 x3 x4 x5 h0 h1 h2
theorem JE{α0:Sort _}{α1:Sort _}{α2:Sort _}{α3:Sort _}{α4:Sort _}{α5:Sort _}{p0 p1 p2 p3:α0→α1→α2→α3→α4→α5→Prop}{G:Prop}(h:∃x0 x1 x2 x3 x4 x5,p0 x0 x1 x2 x3 x4 x5∧p1 x0 x1 x2 x3 x4 x5∧p2 x0 x1 x2 x3 x4 x5∧p3 x0 x1 x2 x3 x4 x5)(f:∀x0 x1 x2 x3 x4 x5,p0 x0 x1 x2 x3 x4 x5→p1 x0 x1 x2 x3 x4 x5→p2 x0 x1 x2 x3 x4 x5→p3 x0 x1 x2 x3 x4 x5→G):G:=by
 obtain ⟨x0,x1,x2,x3,x4,x5,h0,h1,h2,h3⟩:=h;exact f x0 x1 x2 x3 x4 x5 h0 h1 h2 h3
theorem JD{α0:Sort _}{α1:Sort _}{α2:Sort _}{α3:Sort _}{α4:Sort _}{α5:Sort _}{p0 p1 p2 p3 p4:α0→α1→α2→α3→α4→α5→Prop}{G:Prop}(h:∃x0 x1 x2 x3 x4 x5,p0 x0 x1 x2 x3 x4 x5∧p1 x0 x1 x2 x3 x4 x5∧p2 x0 x1 x2 x3 x4 x5∧p3 x0 x1 x2 x3 x4 x5∧p4 x0 x1 x2 x3 x4 x5)(f:∀x0 x1 x2 x3 x4 x5,p0 x0 x1 x2 x3 x4 x5→p1 x0 x1 x2 x3 x4 x5→p2 x0 x1 x2 x3 x4 x5→p3 x0 x1 x2 x3 x4 x5→p4 x0 x1 x2 x3 x4 x5→G):G:=by
 obtain ⟨x0,x1,x2,x3,x4,x5,h0,h1,h2,h3,h4⟩:=h;exact f x0 x1 x2 x3 x4 x5 h0 h1 h2 h3 h4
theorem JB{α0:Sort _}{α1:Sort _}{α2:Sort _}{α3:Sort _}{α4:Sort _}{α5:Sort _}{p0 p1 p2 p3 p4 p5:α0→α1→α2→α3→α4→α5→Prop}{G:Prop}(h:∃x0 x1 x2 x3 x4 x5,p0 x0 x1 x2 x3 x4 x5∧p1 x0 x1 x2 x3 x4 x5∧p2 x0 x1 x2 x3 x4 x5∧p3 x0 x1 x2 x3 x4 x5∧p4 x0 x1 x2 x3 x4 x5∧p5 x0 x1 x2 x3 x4 x5)(f:∀x0 x1 x2 x3 x4 x5,p0 x0 x1 x2 x3 x4 x5→p1 x0 x1 x2 x3 x4 x5→p2 x0 x1 x2 x3 x4 x5→p3 x0 x1 x2 x3 x4 x5→p4 x0 x1 x2 x3 x4 x5→p5 x0 x1 x2 x3 x4 x5→G):G:=by
 obtain ⟨x0,x1,x2,x3,x4,x5,h0,h1,h2,h3,h4,h5⟩:=h;exact f x0 x1 x2 x3 x4 x5 h0 h1 h2 h3 h4 h5
theorem JA{α0:Sort _}{α1:Sort _}{α2:Sort _}{α3:Sort _}{α4:Sort _}{α5:Sort _}{p0 p1 p2 p3 p4 p5 p6:α0→α1→α2→α3→α4→α5→Prop}{G:Prop}(h:∃x0 x1 x2 x3 x4 x5,p0 x0 x1 x2 x3 x4 x5∧p1 x0 x1 x2 x3 x4 x5∧p2 x0 x1 x2 x3 x4 x5∧p3 x0 x1 x2 x3 x4 x5∧p4 x0 x1 x2 x3 x4 x5∧p5 x0 x1 x2 x3 x4 x5∧p6 x0 x1 x2 x3 x4 x5)(f:∀x0 x1 x2 x3 x4 x5,p0 x0 x1 x2 x3 x4 x5→p1 x0 x1 x2 x3 x4 x5→p2 x0 x1 x2 x3 x4 x5→p3 x0 x1 x2 x3 x4 x5→p4 x0 x1 x2 x3 x4 x5→p5 x0 x1 x2 x3 x4 x5→p6 x0 x1 x2 x3 x4 x5→G):G:=by
 obtain ⟨x0,x1,x2,x3,x4,x5,h0,h1,h2,h3,h4,h5,h6⟩:=h;exact f x0 x1 x2 x3 x4 x5 h0 h1 h2 h3 h4 h5 h6
theorem Jz{α0:Sort _}{α1:Sort _}{α2:Sort _}{α3:Sort _}{α4:Sort _}{α5:Sort _}{p0 p1 p2 p3 p4 p5 p6 p7:α0→α1→α2→α3→α4→α5→Prop}{G:Prop}(h:∃x0 x1 x2 x3 x4 x5,p0 x0 x1 x2 x3 x4 x5∧p1 x0 x1 x2 x3 x4 x5∧p2 x0 x1 x2 x3 x4 x5∧p3 x0 x1 x2 x3 x4 x5∧p4 x0 x1 x2 x3 x4 x5∧p5 x0 x1 x2 x3 x4 x5∧p6 x0 x1 x2 x3 x4 x5∧p7 x0 x1 x2 x3 x4 x5)(f:∀x0 x1 x2 x3 x4 x5,p0 x0 x1 x2 x3 x4 x5→p1 x0 x1 x2 x3 x4 x5→p2 x0 x1 x2 x3 x4 x5→p3 x0 x1 x2 x3 x4 x5→p4 x0 x1 x2 x3 x4 x5→p5 x0 x1 x2 x3 x4 x5→p6 x0 x1 x2 x3 x4 x5→p7 x0 x1 x2 x3 x4 x5→G):G:=by
 obtain ⟨x0,x1,x2,x3,x4,x5,h0,h1,h2,h3,h4,h5,h6,h7⟩:=h;exact f x0 x1 x2 x3 x4 x5 h0 h1 h2 h3 h4 h5 h6 h7
theorem xf{G:Prop}(h:false=true):G:=nomatch h
theorem xt{G:Prop}(h:true=false):G:=nomatch h
theorem xs{α:Type}{a:α}{G:Prop}(h:some a=none):G:=nomatch h
theorem xn{α:Type}{a:α}{G:Prop}(h:none=some a):G:=nomatch h
theorem xm{α:Type}{a:α}{G:Prop}(h:a∈([]:List α)):G:=nomatch h
theorem x2{α:Type}{a:α}{x:Option α}{G:Prop}(h:x=none)(h':x=some a):G:=nomatch h.symm.trans h'
section
variable{α β:Type}{M:Model}{A:Around}{c:Prop}[Decidable c]{a b:Sem α}{f:α→Sem β}{E:Value→Shared→Prop}{s:Shared}
theorem wn{Q:α→Shared→Prop}(h:¬c)(q:wpAny M A b Q E s):wpAny M A (if c then a else b) Q E s:=(if_neg h:(if c then a else b)=b).symm▸q
theorem wy{Q:α→Shared→Prop}(h:c)(q:wpAny M A a Q E s):wpAny M A (if c then a else b) Q E s:=(if_pos h:(if c then a else b)=a).symm▸q
theorem wbn{Q:β→Shared→Prop}(h:¬c)(q:wpAny M A (b>>=f) Q E s):wpAny M A ((if c then a else b)>>=f) Q E s:=(if_neg h:(if c then a else b)=b).symm▸q
theorem wby{Q:β→Shared→Prop}(h:c)(q:wpAny M A (a>>=f) Q E s):wpAny M A ((if c then a else b)>>=f) Q E s:=(if_pos h:(if c then a else b)=a).symm▸q
end
theorem wbp{α β:Type}{M:Model}{A:Around}{a:α}{f:α→Sem β}{Q:β→Shared→Prop}{E:Value→Shared→Prop}{s:Shared}(h:wpAny M A (f a) Q E s):wpAny M A (pure a>>=f) Q E s:=wpAny_bind (wpAny_pure h)
end Mine
end
section
set_option maxRecDepth 100000
noncomputable section
namespace Mine
open PySem PySem.W PyProof.Rows
abbrev pr:=PySem.Challenge.pw_je0023_01
noncomputable def en(P:Params)(n:String)(t:Nat)(v:Value):DictEntry:=⟨PyData.keyHash P (Str.ofString n),.str (Str.ofString n) t,v⟩
noncomputable abbrev pe:=Arguments×List Stmt×Scope
noncomputable def CW:pe:=(⟨[],[],none,[],[],none,[]⟩,[],⟨.function,[],false,false,[]⟩)
noncomputable def fdOf(s:Stmt):pe:=if h:s.ctorIdx=0 then Stmt.FunctionDef.elim (motive_2:=fun _=>pe) s h fun _ a b _ _ _ c _ _ _=>(a,b,c) else CW
noncomputable def Jh(s:Stmt):List Stmt:=if h:s.ctorIdx=2 then Stmt.ClassDef.elim (motive_2:=fun _=>List Stmt) s h fun _ _ _ b _ _ _ _ _ _ _=>b else []
noncomputable def dOf(o:Option Stmt):pe:=o.elim CW fdOf
noncomputable def top(i:Nat):pe:=dOf pr.main.body[i]?
noncomputable def inC(i j:Nat):pe:=dOf (pr.main.body[i]?.elim [] Jh)[j]?
noncomputable def fn(name qual:String)(p:pe)(g:Addr)(dV kV pm:Value)(an:Option Addr)(cd:Value)(bi:Addr):FuncData :=
 { name:=Str.ofString name,qualname:=Str.ofString qual,params:=p.1,body:=.stmts p.2.1,scope:=p.2.2,globals:=g,closure:=[],defaults:=dV,kwdefaults:=kV,pyModule:=pm,annotations:=an,code:=cd,builtins:=bi }
noncomputable def cl(n:Str)(bases mro:List Value)(ns:Addr)(q:Str)(hd:Bool)(subs:List Value)(ab:Bool)(co:Option Bool)(dl:Bool):ClassData :=
 { name:=n,bases:=bases,mro:=mro,ns:=ns,qualname:=q,hasDict:=hd,slotNames:=[],subclasses:=subs,abstract:=ab,collection:=co,hasDel:=dl }
noncomputable def sV(s:String)(t:Nat):Value:=.str (.ofString s) t
noncomputable def iV(n:Int):Value:=.int n 0
noncomputable def R(n:Addr):Value:=.ref n
noncomputable def nG:=sV "nltk.grammar" 194
noncomputable def nL:=sV "law_je0023_01" 651
noncomputable def oB(c:Value)(d:Data):Obj:=⟨c,none,d,#[]⟩
noncomputable def tU(l:List Value):Obj:=oB (.type "tuple") (.seq l.toArray 0)
noncomputable def eO:Obj:=oB .none (.fields #[])
noncomputable def fA(n q:String)(d:pe):Obj:=oB .none (.func (fn n q d 0 .none .none .none none .none 0))
noncomputable def fB(n q:String)(d:pe)(m:Value)(c:Addr):Obj:=oB (.type "function") (.func (fn n q d 3 .none .none m none (.ref c) 0))
noncomputable def cO(n q:String)(t:Nat)(a b e:Int)(r:Addr)(g:Bool)(k:Addr)(v w x y:Value)(m:Nat):Obj :=
 oB (.type "code") (.fields #[sV n t,sV q (t+1),sV "/claim/cut.py" (t+2),iV a,iV b,iV 0,iV 0,iV e,R r,.bool g,iV 181,R k,v,w,x,y,iV m,iV a,sV "/claim/cut.py" (m+1)])
noncomputable def HM(P:Params):List Obj:=[
 boot_o_0 P,
 boot_o_1 P,
 boot_o_2 P,
 oB (.type "dict") (.dict (#[en P "__name__" 165 nL,en P "__doc__" 166 .none,en P "__package__" 167 .none,en P "__loader__" 168 (.builtin "__main__.__loader__#opaque"),en P "__spec__" 169 .none,en P "__annotations__" 170 (R 6),en P "__builtins__" 171 (R 4),en P "__file__" 173 (sV "/claim/cut.py" 172),en P "__cached__" 174 .none,en P "_wall" 193 (R 21),en P "Nonterminal" 255 (R 66),en P "is_nonterminal" 262 (R 77),en P "is_terminal" 269 (R 84),en P "_key" 276 (R 91),en P "Production" 357 (R 155),en P "CFG" 637 (R 332),en P "transitive_closure" 650 (R 343),en P "_law_tape" 658 (R 348),en P "_law_take" 668 (R 355),en P "_law_over" 674 (R 360),en P "_law_reach" 680 (R 365),en P "_law_own" 686 (R 370),en P "_law_grammar" 692 (R 375),en P "_law_rows" 698 (R 380),en P "_law_kind" 704 (R 385),en P "law" 710 (R 390)]) 26),
 boot_o_4 P,
 boot_o_5 P,
 boot_o_6 P,
 boot_o_7 P,
 boot_o_8 P,
 boot_o_9 P,
 boot_o_10 P,
 tU [],
 oB .none (.fields (#[(iV 1),(iV 0),(R 20),(iV 5),(iV 0),(R 27),(iV 21),(iV 0),(R 76),(iV 23),(iV 0),(R 83),(iV 25),(iV 0),(R 90),(iV 29),(iV 0),(R 97),(iV 57),(iV 0),(R 165),(iV 278),(iV 0),(R 342),(iV 292),(iV 0),(R 347),(iV 294),(iV 0),(R 354),(iV 299),(iV 0),(R 359),(iV 311),(iV 0),(R 364),(iV 325),(iV 0),(R 369),(iV 327),(iV 0),(R 374),(iV 330),(iV 0),(R 379),(iV 332),(iV 0),(R 384),(iV 334),(iV 0),(R 389)])),
 cO "<module>" "<module>" 182 1 0 0 11 false 12 .none .none .none .none 185,
 ⟨(.type "frame"),none,.plain,#[some (R 13),some (R 3),some (R 3),none,some (sV "__main__" 164),none,some (R 0)]⟩,
 tU [],
 eO,
 tU [(sV "k" 190)],
 tU [],
 fA "_wall" "_wall" (top 0),
 cO "_wall" "_wall" 187 1 1 3 15 true 16 .none (R 17) (R 18) (R 19) 191,
 fB "_wall" "_wall" (top 0) (sV "__main__" 164) 20,
 tU [],
 oB (.type "builtin_function_or_method") (.fields (#[(.builtin "type.__prepare__"),(.type "type")])),
 oB (.type "dict") (.dict (#[en P "__module__" 203 nG,en P "__qualname__" 205 (sV "Nonterminal" 204),en P "__firstlineno__" 207 (.int 5 206),en P "__init__" 215 (R 35),en P "symbol" 222 (R 42),en P "__eq__" 230 (R 49),en P "__ne__" 238 (R 56),en P "__str__" 245 (R 63),en P "__static_attributes__" 247 (R 64)]) 9),
 tU [],
 oB .none (.fields (#[(iV 7),(iV 4),(R 34),(iV 10),(iV 4),(R 41),(iV 13),(iV 4),(R 48),(iV 16),(iV 4),(R 55),(iV 19),(iV 4),(R 62)])),
 cO "Nonterminal" "Nonterminal" 198 5 0 0 25 false 26 .none .none .none .none 201,
 ⟨(.type "frame"),none,.plain,#[some (R 27),some (R 3),some (R 24),none,some nG,none,some (R 0)]⟩,
 tU []]
noncomputable def HK(P:Params):List Obj:=[
 eO,
 tU [(sV "self" 211),(sV "symbol" 212)],
 tU [],
 fA "__init__" "Nonterminal.__init__" (inC 2 0),
 cO "__init__" "Nonterminal.__init__" 208 7 2 3 29 true 30 .none (R 31) (R 32) (R 33) 213,
 fB "__init__" "Nonterminal.__init__" (inC 2 0) nG 34,
 tU [],
 eO,
 tU [(sV "self" 219)],
 tU [],
 fA "symbol" "Nonterminal.symbol" (inC 2 1),
 cO "symbol" "Nonterminal.symbol" 216 10 1 3 36 true 37 .none (R 38) (R 39) (R 40) 220,
 fB "symbol" "Nonterminal.symbol" (inC 2 1) nG 41,
 tU [],
 eO,
 tU [(sV "self" 226),(sV "other" 227)],
 tU [],
 fA "__eq__" "Nonterminal.__eq__" (inC 2 2),
 cO "__eq__" "Nonterminal.__eq__" 223 13 2 3 43 true 44 .none (R 45) (R 46) (R 47) 228,
 fB "__eq__" "Nonterminal.__eq__" (inC 2 2) nG 48,
 tU [],
 eO,
 tU [(sV "self" 234),(sV "other" 235)],
 tU [],
 fA "__ne__" "Nonterminal.__ne__" (inC 2 3),
 cO "__ne__" "Nonterminal.__ne__" 231 16 2 3 50 true 51 .none (R 52) (R 53) (R 54) 236,
 fB "__ne__" "Nonterminal.__ne__" (inC 2 3) nG 55,
 tU [],
 eO,
 tU [(sV "self" 242)]]
noncomputable def HJ(P:Params):List Obj:=[
 tU [],
 fA "__str__" "Nonterminal.__str__" (inC 2 4),
 cO "__str__" "Nonterminal.__str__" 239 19 1 3 57 true 58 .none (R 59) (R 60) (R 61) 243,
 fB "__str__" "Nonterminal.__str__" (inC 2 4) nG 62,
 tU [(sV "_symbol" 246)],
 oB (.type "dict") (.dict (#[en P "__module__" 203 nG,en P "__firstlineno__" 207 (.int 5 206),en P "__init__" 215 (R 35),en P "symbol" 222 (R 42),en P "__eq__" 230 (R 49),en P "__ne__" 238 (R 56),en P "__str__" 245 (R 63),en P "__static_attributes__" 247 (R 64),en P "__dict__" 249 (R 67),en P "__weakref__" 251 (R 68),en P "__doc__" 252 .none,en P "__hash__" 253 .none]) 5),
 ⟨(.type "type"),none,.cls (cl (.ofString "Nonterminal") [(.type "object")] [(R 66),(.type "object")] 65 (.ofString "Nonterminal") true [] false none false),#[none,none,some (sV "Nonterminal" 196),some (sV "Nonterminal" 204),some (.builtin "object.__new__"),some (.bool true)]⟩,
 oB (.type "getset_descriptor") (.fields (#[(sV "__dict__" 248),(R 66),(.builtin "function.__dict__"),(.builtin "function.__dict__#set")])),
 oB (.type "getset_descriptor") (.fields (#[(sV "__weakref__" 250),(R 66),(.builtin "ExceptionGroup.__weakref__"),.none])),
 oB (.type "super") (.fields (#[(R 66),(R 66),(R 66)])),
 oB (.type "builtin_function_or_method") (.fields (#[(.builtin "object.__init_subclass__"),(R 66)])),
 tU [],
 eO,
 tU [(sV "item" 259)],
 tU [],
 fA "is_nonterminal" "is_nonterminal" (top 3),
 cO "is_nonterminal" "is_nonterminal" 256 21 1 3 71 true 72 .none (R 73) (R 74) (R 75) 260,
 fB "is_nonterminal" "is_nonterminal" (top 3) nG 76,
 tU [],
 eO,
 tU [(sV "item" 266)],
 tU [],
 fA "is_terminal" "is_terminal" (top 4),
 cO "is_terminal" "is_terminal" 263 23 1 3 78 true 79 .none (R 80) (R 81) (R 82) 267,
 fB "is_terminal" "is_terminal" (top 4) nG 83,
 tU [],
 eO,
 tU [(sV "item" 273)],
 tU [],
 fA "_key" "_key" (top 5)]
noncomputable def HH(P:Params):List Obj:=[
 cO "_key" "_key" 270 25 1 3 85 true 86 .none (R 87) (R 88) (R 89) 274,
 fB "_key" "_key" (top 5) nG 90,
 tU [],
 oB (.type "builtin_function_or_method") (.fields (#[(.builtin "type.__prepare__"),(.type "type")])),
 oB (.type "dict") (.dict (#[en P "__module__" 284 nG,en P "__qualname__" 286 (sV "Production" 285),en P "__firstlineno__" 288 (.int 29 287),en P "__init__" 297 (R 105),en P "lhs" 304 (R 112),en P "rhs" 311 (R 119),en P "__len__" 318 (R 126),en P "is_nonlexical" 325 (R 133),en P "is_lexical" 332 (R 140),en P "__eq__" 338 (R 145),en P "__ne__" 346 (R 152),en P "__static_attributes__" 349 (R 153)]) 12),
 tU [],
 oB .none (.fields (#[(iV 31),(iV 4),(R 104),(iV 37),(iV 4),(R 111),(iV 40),(iV 4),(R 118),(iV 43),(iV 4),(R 125),(iV 46),(iV 4),(R 132),(iV 49),(iV 4),(R 139),(iV 52),(iV 4),(R 144),(iV 55),(iV 4),(R 151)])),
 cO "Production" "Production" 279 29 0 0 95 false 96 .none .none .none .none 282,
 ⟨(.type "frame"),none,.plain,#[some (R 97),some (R 3),some (R 94),none,some nG,none,some (R 0)]⟩,
 tU [],
 eO,
 tU [(sV "self" 292),(sV "lhs" 293),(sV "rhs" 294)],
 tU [],
 fA "__init__" "Production.__init__" (inC 6 0),
 cO "__init__" "Production.__init__" 289 31 3 3 99 true 100 .none (R 101) (R 102) (R 103) 295,
 fB "__init__" "Production.__init__" (inC 6 0) nG 104,
 tU [],
 eO,
 tU [(sV "self" 301)],
 tU [],
 fA "lhs" "Production.lhs" (inC 6 1),
 cO "lhs" "Production.lhs" 298 37 1 3 106 true 107 .none (R 108) (R 109) (R 110) 302,
 fB "lhs" "Production.lhs" (inC 6 1) nG 111,
 tU [],
 eO,
 tU [(sV "self" 308)],
 tU [],
 fA "rhs" "Production.rhs" (inC 6 2),
 cO "rhs" "Production.rhs" 305 40 1 3 113 true 114 .none (R 115) (R 116) (R 117) 309,
 fB "rhs" "Production.rhs" (inC 6 2) nG 118]
noncomputable def HG(P:Params):List Obj:=[
 tU [],
 eO,
 tU [(sV "self" 315)],
 tU [],
 fA "__len__" "Production.__len__" (inC 6 3),
 cO "__len__" "Production.__len__" 312 43 1 3 120 true 121 .none (R 122) (R 123) (R 124) 316,
 fB "__len__" "Production.__len__" (inC 6 3) nG 125,
 tU [],
 eO,
 tU [(sV "self" 322)],
 tU [],
 fA "is_nonlexical" "Production.is_nonlexical" (inC 6 4),
 cO "is_nonlexical" "Production.is_nonlexical" 319 46 1 3 127 true 128 .none (R 129) (R 130) (R 131) 323,
 fB "is_nonlexical" "Production.is_nonlexical" (inC 6 4) nG 132,
 tU [],
 eO,
 tU [(sV "self" 329)],
 tU [],
 fA "is_lexical" "Production.is_lexical" (inC 6 5),
 cO "is_lexical" "Production.is_lexical" 326 49 1 3 134 true 135 .none (R 136) (R 137) (R 138) 330,
 fB "is_lexical" "Production.is_lexical" (inC 6 5) nG 139,
 tU [],
 eO,
 fA "__eq__" "Production.__eq__" (inC 6 6),
 cO "__eq__" "Production.__eq__" 333 52 2 3 141 true 142 .none .none .none (R 143) 336,
 fB "__eq__" "Production.__eq__" (inC 6 6) nG 144,
 tU [],
 eO,
 tU [(sV "self" 342),(sV "other" 343)],
 tU []]
noncomputable def HF(P:Params):List Obj:=[
 fA "__ne__" "Production.__ne__" (inC 6 7),
 cO "__ne__" "Production.__ne__" 339 55 2 3 146 true 147 .none (R 148) (R 149) (R 150) 344,
 fB "__ne__" "Production.__ne__" (inC 6 7) nG 151,
 tU [(sV "_lhs" 347),(sV "_rhs" 348)],
 oB (.type "dict") (.dict (#[en P "__module__" 284 nG,en P "__firstlineno__" 288 (.int 29 287),en P "__init__" 297 (R 105),en P "lhs" 304 (R 112),en P "rhs" 311 (R 119),en P "__len__" 318 (R 126),en P "is_nonlexical" 325 (R 133),en P "is_lexical" 332 (R 140),en P "__eq__" 338 (R 145),en P "__ne__" 346 (R 152),en P "__static_attributes__" 349 (R 153),en P "__dict__" 351 (R 156),en P "__weakref__" 353 (R 157),en P "__doc__" 354 .none,en P "__hash__" 355 .none]) 5),
 ⟨(.type "type"),none,.cls (cl (.ofString "Production") [(.type "object")] [(R 155),(.type "object")] 154 (.ofString "Production") true [] false none false),#[none,none,some (sV "Production" 277),some (sV "Production" 285),some (.builtin "object.__new__"),some (.bool true)]⟩,
 oB (.type "getset_descriptor") (.fields (#[(sV "__dict__" 350),(R 155),(.builtin "function.__dict__"),(.builtin "function.__dict__#set")])),
 oB (.type "getset_descriptor") (.fields (#[(sV "__weakref__" 352),(R 155),(.builtin "ExceptionGroup.__weakref__"),.none])),
 oB (.type "super") (.fields (#[(R 155),(R 155),(R 155)])),
 oB (.type "builtin_function_or_method") (.fields (#[(.builtin "object.__init_subclass__"),(R 155)])),
 tU [],
 oB (.type "builtin_function_or_method") (.fields (#[(.builtin "type.__prepare__"),(.type "type")])),
 oB (.type "dict") (.dict (#[en P "__module__" 365 nG,en P "__qualname__" 367 (sV "CFG" 366),en P "__firstlineno__" 369 (.int 57 368),en P "__init__" 380 (R 174),en P "_calculate_indexes" 391 (R 181),en P "_calculate_leftcorners" 397 (R 186),en P "start" 404 (R 193),en P "productions" 410 (R 199),en P "leftcorners" 418 (R 206),en P "is_leftcorner" 427 (R 213),en P "check_coverage" 435 (R 220),en P "_calculate_grammar_forms" 443 (R 227),en P "is_lexical" 450 (R 234),en P "is_nonlexical" 457 (R 241),en P "min_len" 464 (R 248),en P "max_len" 471 (R 255),en P "is_nonempty" 478 (R 262),en P "is_binarised" 485 (R 269),en P "is_flexible_chomsky_normal_form" 492 (R 276),en P "is_chomsky_normal_form" 499 (R 283),en P "chomsky_normal_form" 506 (R 289),en P "remove_unitary_rules" 534 (R 298),en P "binarize" 565 (R 309),en P "eliminate_start" 583 (R 317),en P "remove_mixed_rules" 613 (R 328),en P "__static_attributes__" 630 (R 330)]) 26),
 tU [],
 oB .none (.fields (#[(iV 59),(iV 4),(R 173),(iV 73),(iV 4),(R 180),(iV 94),(iV 4),(R 185),(iV 113),(iV 4),(R 192),(iV 116),(iV 4),(R 198),(iV 136),(iV 4),(R 205),(iV 139),(iV 4),(R 212),(iV 142),(iV 4),(R 219),(iV 145),(iV 4),(R 226),(iV 153),(iV 4),(R 233),(iV 156),(iV 4),(R 240),(iV 159),(iV 4),(R 247),(iV 162),(iV 4),(R 254),(iV 165),(iV 4),(R 261),(iV 168),(iV 4),(R 268),(iV 171),(iV 4),(R 275),(iV 174),(iV 4),(R 282),(iV 177),(iV 4),(R 288),(iV 197),(iV 4),(R 295),(iV 222),(iV 4),(R 306),(iV 241),(iV 4),(R 314),(iV 257),(iV 4),(R 325)])),
 cO "CFG" "CFG" 360 57 0 0 163 false 164 .none .none .none .none 363,
 ⟨(.type "frame"),none,.plain,#[some (R 165),some (R 3),some (R 162),none,some nG,none,some (R 0)]⟩,
 tU [(.bool true)],
 tU [],
 eO,
 tU [(sV "self" 373),(sV "start" 374),(sV "productions" 375),(sV "calculate_leftcorners" 376),(sV "prod" 377)],
 tU [],
 fA "__init__" "CFG.__init__" (inC 7 0),
 cO "__init__" "CFG.__init__" 370 59 4 3 168 true 169 .none (R 170) (R 171) (R 172) 378,
 oB (.type "function") (.func (fn "__init__" "CFG.__init__" (inC 7 0) 3 (R 167) .none nG none (R 173) 0)),
 tU [],
 eO,
 tU [(sV "self" 384),(sV "prod" 385),(sV "lhs" 386),(sV "rhs0" 387),(sV "token" 388)],
 tU [],
 fA "_calculate_indexes" "CFG._calculate_indexes" (inC 7 1)]
noncomputable def HE(P:Params):List Obj:=[
 cO "_calculate_indexes" "CFG._calculate_indexes" 381 73 1 3 175 true 176 .none (R 177) (R 178) (R 179) 389,
 fB "_calculate_indexes" "CFG._calculate_indexes" (inC 7 1) nG 180,
 tU [],
 eO,
 fA "_calculate_leftcorners" "CFG._calculate_leftcorners" (inC 7 2),
 cO "_calculate_leftcorners" "CFG._calculate_leftcorners" 392 94 1 3 182 true 183 .none .none .none (R 184) 395,
 fB "_calculate_leftcorners" "CFG._calculate_leftcorners" (inC 7 2) nG 185,
 tU [],
 eO,
 tU [(sV "self" 401)],
 tU [],
 fA "start" "CFG.start" (inC 7 3),
 cO "start" "CFG.start" 398 113 1 3 187 true 188 .none (R 189) (R 190) (R 191) 402,
 fB "start" "CFG.start" (inC 7 3) nG 192,
 tU [.none,.none,(.bool false)],
 tU [],
 eO,
 fA "productions" "CFG.productions" (inC 7 4),
 cO "productions" "CFG.productions" 405 116 4 3 195 true 196 .none .none .none (R 197) 408,
 oB (.type "function") (.func (fn "productions" "CFG.productions" (inC 7 4) 3 (R 194) .none nG none (R 198) 0)),
 tU [],
 eO,
 tU [(sV "self" 414),(sV "cat" 415)],
 tU [],
 fA "leftcorners" "CFG.leftcorners" (inC 7 5),
 cO "leftcorners" "CFG.leftcorners" 411 136 2 3 200 true 201 .none (R 202) (R 203) (R 204) 416,
 fB "leftcorners" "CFG.leftcorners" (inC 7 5) nG 205,
 tU [],
 eO,
 tU [(sV "self" 422),(sV "cat" 423),(sV "left" 424)]]
noncomputable def HD(P:Params):List Obj:=[
 tU [],
 fA "is_leftcorner" "CFG.is_leftcorner" (inC 7 6),
 cO "is_leftcorner" "CFG.is_leftcorner" 419 139 3 3 207 true 208 .none (R 209) (R 210) (R 211) 425,
 fB "is_leftcorner" "CFG.is_leftcorner" (inC 7 6) nG 212,
 tU [],
 eO,
 tU [(sV "self" 431),(sV "tokens" 432)],
 tU [],
 fA "check_coverage" "CFG.check_coverage" (inC 7 7),
 cO "check_coverage" "CFG.check_coverage" 428 142 2 3 214 true 215 .none (R 216) (R 217) (R 218) 433,
 fB "check_coverage" "CFG.check_coverage" (inC 7 7) nG 219,
 tU [],
 eO,
 tU [(sV "self" 439),(sV "prods" 440)],
 tU [],
 fA "_calculate_grammar_forms" "CFG._calculate_grammar_forms" (inC 7 8),
 cO "_calculate_grammar_forms" "CFG._calculate_grammar_forms" 436 145 1 3 221 true 222 .none (R 223) (R 224) (R 225) 441,
 fB "_calculate_grammar_forms" "CFG._calculate_grammar_forms" (inC 7 8) nG 226,
 tU [],
 eO,
 tU [(sV "self" 447)],
 tU [],
 fA "is_lexical" "CFG.is_lexical" (inC 7 9),
 cO "is_lexical" "CFG.is_lexical" 444 153 1 3 228 true 229 .none (R 230) (R 231) (R 232) 448,
 fB "is_lexical" "CFG.is_lexical" (inC 7 9) nG 233,
 tU [],
 eO,
 tU [(sV "self" 454)],
 tU [],
 fA "is_nonlexical" "CFG.is_nonlexical" (inC 7 10)]
noncomputable def HC(P:Params):List Obj:=[
 cO "is_nonlexical" "CFG.is_nonlexical" 451 156 1 3 235 true 236 .none (R 237) (R 238) (R 239) 455,
 fB "is_nonlexical" "CFG.is_nonlexical" (inC 7 10) nG 240,
 tU [],
 eO,
 tU [(sV "self" 461)],
 tU [],
 fA "min_len" "CFG.min_len" (inC 7 11),
 cO "min_len" "CFG.min_len" 458 159 1 3 242 true 243 .none (R 244) (R 245) (R 246) 462,
 fB "min_len" "CFG.min_len" (inC 7 11) nG 247,
 tU [],
 eO,
 tU [(sV "self" 468)],
 tU [],
 fA "max_len" "CFG.max_len" (inC 7 12),
 cO "max_len" "CFG.max_len" 465 162 1 3 249 true 250 .none (R 251) (R 252) (R 253) 469,
 fB "max_len" "CFG.max_len" (inC 7 12) nG 254,
 tU [],
 eO,
 tU [(sV "self" 475)],
 tU [],
 fA "is_nonempty" "CFG.is_nonempty" (inC 7 13),
 cO "is_nonempty" "CFG.is_nonempty" 472 165 1 3 256 true 257 .none (R 258) (R 259) (R 260) 476,
 fB "is_nonempty" "CFG.is_nonempty" (inC 7 13) nG 261,
 tU [],
 eO,
 tU [(sV "self" 482)],
 tU [],
 fA "is_binarised" "CFG.is_binarised" (inC 7 14),
 cO "is_binarised" "CFG.is_binarised" 479 168 1 3 263 true 264 .none (R 265) (R 266) (R 267) 483,
 fB "is_binarised" "CFG.is_binarised" (inC 7 14) nG 268]
noncomputable def HB(P:Params):List Obj:=[
 tU [],
 eO,
 tU [(sV "self" 489)],
 tU [],
 fA "is_flexible_chomsky_normal_form" "CFG.is_flexible_chomsky_normal_form" (inC 7 15),
 cO "is_flexible_chomsky_normal_form" "CFG.is_flexible_chomsky_normal_form" 486 171 1 3 270 true 271 .none (R 272) (R 273) (R 274) 490,
 fB "is_flexible_chomsky_normal_form" "CFG.is_flexible_chomsky_normal_form" (inC 7 15) nG 275,
 tU [],
 eO,
 tU [(sV "self" 496)],
 tU [],
 fA "is_chomsky_normal_form" "CFG.is_chomsky_normal_form" (inC 7 16),
 cO "is_chomsky_normal_form" "CFG.is_chomsky_normal_form" 493 174 1 3 277 true 278 .none (R 279) (R 280) (R 281) 497,
 fB "is_chomsky_normal_form" "CFG.is_chomsky_normal_form" (inC 7 16) nG 282,
 tU [(sV "@$@" 500),(.bool false)],
 tU [],
 eO,
 fA "chomsky_normal_form" "CFG.chomsky_normal_form" (inC 7 17),
 cO "chomsky_normal_form" "CFG.chomsky_normal_form" 501 177 3 3 285 true 286 .none .none .none (R 287) 504,
 oB (.type "function") (.func (fn "chomsky_normal_form" "CFG.chomsky_normal_form" (inC 7 17) 3 (R 284) .none nG none (R 288) 0)),
 tU [],
 eO,
 tU [(sV "cls" 510),(sV "grammar" 511),(sV "result" 512),(sV "unitary" 513),(sV "rule" 514),(sV "seen" 515),(sV "key" 516),(sV "item" 517),(sV "new_rule" 518),(sV "n_grammar" 519)],
 tU [],
 fA "remove_unitary_rules" "CFG.remove_unitary_rules" (inC 7 18),
 cO "remove_unitary_rules" "CFG.remove_unitary_rules" 507 196 2 3 290 true 291 .none (R 292) (R 293) (R 294) 520,
 oB (.type "function") (.func (fn "remove_unitary_rules" "CFG.remove_unitary_rules" (inC 7 18) 3 .none .none nG (some 299) (R 295) 0)),
 oB (.type "dict") (.dict (#[en P "__module__" 523 nG,en P "__name__" 526 (sV "remove_unitary_rules" 525),en P "__qualname__" 529 (sV "CFG.remove_unitary_rules" 528),en P "__doc__" 531 .none,en P "__annotations__" 533 (R 299)]) 5),
 ⟨(.type "classmethod"),some 297,.fields (#[(R 296),(.bool false)]),#[]⟩,
 oB (.type "dict") (.dict (#[]) 0)]
noncomputable def Ew(P:Params):List Obj:=[
 tU [(sV "@$@" 535)],
 tU [],
 eO,
 tU [(sV "cls" 539),(sV "grammar" 540),(sV "padding" 541),(sV "result" 542),(sV "rule" 543),(sV "left_side" 544),(sV "k" 545),(sV "tsym" 546),(sV "new_sym" 547),(sV "new_production" 548),(sV "last_prd" 549),(sV "n_grammar" 550)],
 tU [],
 fA "binarize" "CFG.binarize" (inC 7 19),
 cO "binarize" "CFG.binarize" 536 221 3 3 301 true 302 .none (R 303) (R 304) (R 305) 551,
 oB (.type "function") (.func (fn "binarize" "CFG.binarize" (inC 7 19) 3 (R 300) .none nG (some 310) (R 306) 0)),
 oB (.type "dict") (.dict (#[en P "__module__" 554 nG,en P "__name__" 557 (sV "binarize" 556),en P "__qualname__" 560 (sV "CFG.binarize" 559),en P "__doc__" 562 .none,en P "__annotations__" 564 (R 310)]) 5),
 ⟨(.type "classmethod"),some 308,.fields (#[(R 307),(.bool false)]),#[]⟩,
 oB (.type "dict") (.dict (#[]) 0),
 tU [],
 eO,
 fA "eliminate_start" "CFG.eliminate_start" (inC 7 20),
 cO "eliminate_start" "CFG.eliminate_start" 566 240 2 3 311 true 312 .none .none .none (R 313) 569,
 oB (.type "function") (.func (fn "eliminate_start" "CFG.eliminate_start" (inC 7 20) 3 .none .none nG (some 318) (R 314) 0)),
 oB (.type "dict") (.dict (#[en P "__module__" 572 nG,en P "__name__" 575 (sV "eliminate_start" 574),en P "__qualname__" 578 (sV "CFG.eliminate_start" 577),en P "__doc__" 580 .none,en P "__annotations__" 582 (R 318)]) 5),
 ⟨(.type "classmethod"),some 316,.fields (#[(R 315),(.bool false)]),#[]⟩,
 oB (.type "dict") (.dict (#[]) 0),
 tU [(sV "@$@" 584)],
 tU [],
 eO,
 tU [(sV "cls" 588),(sV "grammar" 589),(sV "padding" 590),(sV "result" 591),(sV "dummy_nonterms" 592),(sV "rule" 593),(sV "new_rhs" 594),(sV "item" 595),(sV "sanitized_term" 596),(sV "dummy_nonterm_symbol" 597),(sV "n_grammar" 598)],
 tU [],
 fA "remove_mixed_rules" "CFG.remove_mixed_rules" (inC 7 21),
 cO "remove_mixed_rules" "CFG.remove_mixed_rules" 585 256 3 3 320 true 321 .none (R 322) (R 323) (R 324) 599,
 oB (.type "function") (.func (fn "remove_mixed_rules" "CFG.remove_mixed_rules" (inC 7 21) 3 (R 319) .none nG (some 329) (R 325) 0)),
 oB (.type "dict") (.dict (#[en P "__module__" 602 nG,en P "__name__" 605 (sV "remove_mixed_rules" 604),en P "__qualname__" 608 (sV "CFG.remove_mixed_rules" 607),en P "__doc__" 610 .none,en P "__annotations__" 612 (R 329)]) 5),
 ⟨(.type "classmethod"),some 327,.fields (#[(R 326),(.bool false)]),#[]⟩,
 oB (.type "dict") (.dict (#[]) 0)]
noncomputable def Eu(P:Params):List Obj:=[
 tU [(sV "_all_unary_are_lexical" 614),(sV "_categories" 615),(sV "_empty_index" 616),(sV "_immediate_leftcorner_categories" 617),(sV "_immediate_leftcorner_words" 618),(sV "_is_lexical" 619),(sV "_is_nonlexical" 620),(sV "_leftcorner_words" 621),(sV "_leftcorners" 622),(sV "_lexical_index" 623),(sV "_lhs_index" 624),(sV "_max_len" 625),(sV "_min_len" 626),(sV "_productions" 627),(sV "_rhs_index" 628),(sV "_start" 629)],
 oB (.type "dict") (.dict (#[en P "__module__" 365 nG,en P "__firstlineno__" 369 (.int 57 368),en P "__init__" 380 (R 174),en P "_calculate_indexes" 391 (R 181),en P "_calculate_leftcorners" 397 (R 186),en P "start" 404 (R 193),en P "productions" 410 (R 199),en P "leftcorners" 418 (R 206),en P "is_leftcorner" 427 (R 213),en P "check_coverage" 435 (R 220),en P "_calculate_grammar_forms" 443 (R 227),en P "is_lexical" 450 (R 234),en P "is_nonlexical" 457 (R 241),en P "min_len" 464 (R 248),en P "max_len" 471 (R 255),en P "is_nonempty" 478 (R 262),en P "is_binarised" 485 (R 269),en P "is_flexible_chomsky_normal_form" 492 (R 276),en P "is_chomsky_normal_form" 499 (R 283),en P "chomsky_normal_form" 506 (R 289),en P "remove_unitary_rules" 534 (R 298),en P "binarize" 565 (R 309),en P "eliminate_start" 583 (R 317),en P "remove_mixed_rules" 613 (R 328),en P "__static_attributes__" 630 (R 330),en P "__dict__" 632 (R 333),en P "__weakref__" 634 (R 334),en P "__doc__" 635 .none]) 4),
 ⟨(.type "type"),none,.cls (cl (.ofString "CFG") [(.type "object")] [(R 332),(.type "object")] 331 (.ofString "CFG") true [] false none false),#[none,none,some (sV "CFG" 358),some (sV "CFG" 366),some (.builtin "object.__new__"),some (.bool true)]⟩,
 oB (.type "getset_descriptor") (.fields (#[(sV "__dict__" 631),(R 332),(.builtin "function.__dict__"),(.builtin "function.__dict__#set")])),
 oB (.type "getset_descriptor") (.fields (#[(sV "__weakref__" 633),(R 332),(.builtin "ExceptionGroup.__weakref__"),.none])),
 oB (.type "super") (.fields (#[(R 332),(R 332),(R 332)])),
 oB (.type "builtin_function_or_method") (.fields (#[(.builtin "object.__init_subclass__"),(R 332)])),
 tU [],
 eO,
 tU [(sV "graph" 641),(sV "closure" 642),(sV "i" 643),(sV "found" 644),(sV "agenda" 645),(sV "j" 646),(sV "k" 647)],
 tU [],
 fA "transitive_closure" "transitive_closure" (top 8),
 cO "transitive_closure" "transitive_closure" 638 278 1 3 337 true 338 .none (R 339) (R 340) (R 341) 648,
 fB "transitive_closure" "transitive_closure" (top 8) nG 342,
 tU [],
 eO,
 fA "_law_tape" "_law_tape" (top 10),
 cO "_law_tape" "_law_tape" 653 292 1 3 344 true 345 .none .none .none (R 346) 656,
 fB "_law_tape" "_law_tape" (top 10) nL 347,
 tU [],
 eO,
 tU [(sV "tape" 662),(sV "most" 663),(sV "at" 664),(sV "cells" 665)],
 tU [],
 fA "_law_take" "_law_take" (top 11),
 cO "_law_take" "_law_take" 659 294 2 3 349 true 350 .none (R 351) (R 352) (R 353) 666,
 fB "_law_take" "_law_take" (top 11) nL 354,
 tU [],
 eO,
 fA "_law_over" "_law_over" (top 12),
 cO "_law_over" "_law_over" 669 299 4 3 356 true 357 .none .none .none (R 358) 672]
noncomputable def Et(P:Params):List Obj:=[
 fB "_law_over" "_law_over" (top 12) nL 359,
 tU [],
 eO,
 fA "_law_reach" "_law_reach" (top 13),
 cO "_law_reach" "_law_reach" 675 311 2 3 361 true 362 .none .none .none (R 363) 678,
 fB "_law_reach" "_law_reach" (top 13) nL 364,
 tU [],
 eO,
 fA "_law_own" "_law_own" (top 14),
 cO "_law_own" "_law_own" 681 325 1 3 366 true 367 .none .none .none (R 368) 684,
 fB "_law_own" "_law_own" (top 14) nL 369,
 tU [],
 eO,
 fA "_law_grammar" "_law_grammar" (top 15),
 cO "_law_grammar" "_law_grammar" 687 327 1 3 371 true 372 .none .none .none (R 373) 690,
 fB "_law_grammar" "_law_grammar" (top 15) nL 374,
 tU [],
 eO,
 fA "_law_rows" "_law_rows" (top 16),
 cO "_law_rows" "_law_rows" 693 330 1 3 376 true 377 .none .none .none (R 378) 696,
 fB "_law_rows" "_law_rows" (top 16) nL 379,
 tU [],
 eO,
 fA "_law_kind" "_law_kind" (top 17),
 cO "_law_kind" "_law_kind" 699 332 1 3 381 true 382 .none .none .none (R 383) 702,
 fB "_law_kind" "_law_kind" (top 17) nL 384,
 tU [],
 eO,
 fA "law" "law" (top 18),
 cO "law" "law" 705 334 1 3 386 true 387 .none .none .none (R 388) 708]
noncomputable def Es(P:Params):List Obj:=[
 fB "law" "law" (top 18) nL 389]
noncomputable def fH(P:Params):List Obj:=HM P++(HK P++(HJ P++(HH P++(HG P++(HF P++(HE P++(HD P++(HC P++(HB P++(Ew P++(Eu P++(Et P++(Es P)))))))))))))
noncomputable def Jd(P:Params):List Obj:=(((fH P).take 15).set 3 (⟨(.type "dict"),none,.dict (#[en P "__name__" 165 (sV "__main__" 164),en P "__doc__" 166 .none,en P "__package__" 167 .none,en P "__loader__" 168 (.builtin "__main__.__loader__#opaque"),en P "__spec__" 169 .none,en P "__annotations__" 170 (R 6),en P "__builtins__" 171 (R 4),en P "__file__" 173 (sV "/claim/cut.py" 172),en P "__cached__" 174 .none]) 9,#[]⟩)).set 12 (⟨.none,none,.fields (#[]),#[]⟩)
noncomputable def hP5(P:Params):List Obj:=(((fH P).take 92).set 3 (⟨(.type "dict"),none,.dict (#[en P "__name__" 165 nG,en P "__doc__" 166 .none,en P "__package__" 167 .none,en P "__loader__" 168 (.builtin "__main__.__loader__#opaque"),en P "__spec__" 169 .none,en P "__annotations__" 170 (R 6),en P "__builtins__" 171 (R 4),en P "__file__" 173 (sV "/claim/cut.py" 172),en P "__cached__" 174 .none,en P "_wall" 193 (R 21),en P "Nonterminal" 255 (R 66),en P "is_nonterminal" 262 (R 77),en P "is_terminal" 269 (R 84),en P "_key" 276 (R 91)]) 14,#[]⟩)).set 12 (⟨.none,none,.fields (#[(iV 1),(iV 0),(R 20),(iV 5),(iV 0),(R 27),(iV 21),(iV 0),(R 76),(iV 23),(iV 0),(R 83),(iV 25),(iV 0),(R 90)]),#[]⟩)
noncomputable def hP6(P:Params):List Obj:=(((fH P).take 160).set 3 (⟨(.type "dict"),none,.dict (#[en P "__name__" 165 nG,en P "__doc__" 166 .none,en P "__package__" 167 .none,en P "__loader__" 168 (.builtin "__main__.__loader__#opaque"),en P "__spec__" 169 .none,en P "__annotations__" 170 (R 6),en P "__builtins__" 171 (R 4),en P "__file__" 173 (sV "/claim/cut.py" 172),en P "__cached__" 174 .none,en P "_wall" 193 (R 21),en P "Nonterminal" 255 (R 66),en P "is_nonterminal" 262 (R 77),en P "is_terminal" 269 (R 84),en P "_key" 276 (R 91),en P "Production" 357 (R 155)]) 15,#[]⟩)).set 12 (⟨.none,none,.fields (#[(iV 1),(iV 0),(R 20),(iV 5),(iV 0),(R 27),(iV 21),(iV 0),(R 76),(iV 23),(iV 0),(R 83),(iV 25),(iV 0),(R 90),(iV 29),(iV 0),(R 97)]),#[]⟩)
noncomputable def hP7(P:Params):List Obj:=(((fH P).take 337).set 3 (⟨(.type "dict"),none,.dict (#[en P "__name__" 165 nG,en P "__doc__" 166 .none,en P "__package__" 167 .none,en P "__loader__" 168 (.builtin "__main__.__loader__#opaque"),en P "__spec__" 169 .none,en P "__annotations__" 170 (R 6),en P "__builtins__" 171 (R 4),en P "__file__" 173 (sV "/claim/cut.py" 172),en P "__cached__" 174 .none,en P "_wall" 193 (R 21),en P "Nonterminal" 255 (R 66),en P "is_nonterminal" 262 (R 77),en P "is_terminal" 269 (R 84),en P "_key" 276 (R 91),en P "Production" 357 (R 155),en P "CFG" 637 (R 332)]) 16,#[]⟩)).set 12 (⟨.none,none,.fields (#[(iV 1),(iV 0),(R 20),(iV 5),(iV 0),(R 27),(iV 21),(iV 0),(R 76),(iV 23),(iV 0),(R 83),(iV 25),(iV 0),(R 90),(iV 29),(iV 0),(R 97),(iV 57),(iV 0),(R 165)]),#[]⟩)
noncomputable def Dy(P:Params):List Obj:=(fH P).take 391
noncomputable def bt(l:List Obj):BT:=(l.zipIdx).foldl (fun t x=>t.ins x.2 x.1) .nil
noncomputable def o4:PySem.Env:={ scope:=pr.main.scope,locals:=mainNs,globals:=mainNs,cells:=[],code:=.ref 13,frame:=some 14 }
noncomputable def bdy:List Stmt:=behindTheImports pr
noncomputable def cdT:Code:=.body bdy o4
noncomputable def sA(P:Params)(os:OsState):SharedT:=⟨bt (Jd P),15,{},#[],{},187,os⟩
noncomputable def s5(P:Params)(os:OsState):SharedT:=⟨bt (hP5 P),92,{},#[],{},277,os⟩
noncomputable def s6(P:Params)(os:OsState):SharedT:=⟨bt (hP6 P),160,{},#[],{},358,os⟩
noncomputable def s7(P:Params)(os:OsState):SharedT:=⟨bt (hP7 P),337,{},#[],{},638,os⟩
noncomputable def s8(P:Params)(os:OsState):SharedT:=⟨bt (Dy P),391,{},#[],{},711,os⟩
noncomputable def g0:List Stmt:=bdy.take 6
noncomputable def g1:List Stmt:=(bdy.drop 6).take 1
noncomputable def g2:List Stmt:=(bdy.drop 7).take 1
noncomputable def g3:List Stmt:=bdy.drop 8
noncomputable abbrev z:Pos:=⟨0,0,0,0⟩
noncomputable abbrev tf:List Frame:=[topFrame z]
end Mine
end
end
section
set_option maxRecDepth 100000
namespace Mine
open PySem PySem.W PyProof.Rows
theorem IU(w:World)(os:OsState):segRunT treeTable pr w 11 (some (.ref 6)) 1 285 (s7 w.params os) (piecesOf g3 o4 cdT ⟨57,0,277,24⟩ tf)=some (.next,s8 w.params os,cdT,⟨334,0,367,75⟩):=by kernel_rfl
theorem IX(w:World)(os:OsState):segRunT treeTable pr w 11 (some (.ref 6)) 1 480 (sA w.params os) (piecesOf g0 o4 cdT z tf)=some (.next,s5 w.params os,cdT,⟨25,0,28,22⟩):=by kernel_rfl
theorem IW(w:World)(os:OsState):segRunT treeTable pr w 11 (some (.ref 6)) 1 446 (s5 w.params os) (piecesOf g1 o4 cdT ⟨25,0,28,22⟩ tf)=some (.next,s6 w.params os,cdT,⟨29,0,56,32⟩):=by kernel_rfl
theorem IV(w:World)(os:OsState):segRunT treeTable pr w 11 (some (.ref 6)) 1 1455 (s6 w.params os) (piecesOf g2 o4 cdT ⟨29,0,56,32⟩ tf)=some (.next,s7 w.params os,cdT,⟨57,0,277,24⟩):=by kernel_rfl
end Mine
end
section
set_option maxRecDepth 100000
namespace Mine
open PySem PySem.W PyProof.Rows
theorem Ft:bdy=g0++(g1++(g2++(g3++[]))):=by
 unfold g0 g1 g2 g3
 simp only [List.append_nil]
 have e:(bdy.drop 6).take 1++((bdy.drop 7).take 1++bdy.drop 8)=bdy.drop 6:=by
  rw [show bdy.drop 8=(bdy.drop 7).drop 1 by rw [List.drop_drop],List.take_append_drop,show bdy.drop 7=(bdy.drop 6).drop 1 by rw [List.drop_drop],List.take_append_drop]
 rw [e,List.take_append_drop]
theorem Ef(w:World)(os:OsState):topGo treeTable pr w 11 (some (.ref 6)) 12 ⟨boot_heap w.params,Array.mk [],boot_drawn,boot_toks,os⟩ (topStub pr)=some ((sA w.params os).abs,⟨denote treeTable cdT,cdT,z,tf⟩):=by kernel_rfl
theorem runBlock(w:World)(os:OsState):segRun treeTable pr w 11 (some (.ref 6)) 1 1 (sA w.params os).abs (blockOf bdy o4 cdT z tf)=some (.next,(sA w.params os).abs,cdT,z):=by kernel_rfl
theorem Eg(w:World)(os:OsState):topRun treeTable pr w 11 (some (.ref 6)) 2 (s8 w.params os).abs ⟨doneF .next,cdT,⟨334,0,367,75⟩,tf⟩=some (s8 w.params os).abs:=by kernel_rfl
theorem run(w:World)(os:OsState):topRun treeTable pr w 11 (some (.ref 6)) (12+(1+(480+(446+(1455+(285+2)))))) ⟨boot_heap w.params,Array.mk [],boot_drawn,boot_toks,os⟩ (topStub pr)=some (s8 w.params os).abs:=by
 refine go_top (Ef w os) ?_
 refine piece_block (runBlock w os) ?_
 have e:restOf bdy o4 cdT z tf=restOf (g0++(g1++(g2++(g3++[])))) o4 cdT z tf:=congrArg (fun b=>restOf b o4 cdT z tf) Ft
 rw [e]
 exact piece_app (segRun_of (IX w os)) (piece_app (segRun_of (IW w os)) (piece_app (segRun_of (IV w os)) (piece_app (segRun_of (IU w os)) (piece_nil (Eg w os)))))
theorem opened(N:Nat)(hN:Nat.ble 600 N=true):∀w:World,(fencedOpening treeTable pr w N).map (fun s=>(s.heap,s.gens,s.drawn,s.toks))=some (boot_heap w.params,Array.mk [],boot_drawn,boot_toks) :=
 boot_open (by kernel_rfl) hN (fun s=>by kernel_rfl)
theorem Hg(w:World):((boot_heap w.params).isNs mainGlobals&&(Array.mk []:Array GenState).size==0,(boot_heap w.params).objs.size,(boot_heap w.params).nsMap mainGlobals "__annotations__")=(true,11,some (.ref 6)):=by kernel_rfl
end Mine
end
section
set_option maxRecDepth 100000
namespace Mine
open PySem PySem.W PyProof.Rows
noncomputable section
set_option maxHeartbeats 1000000
abbrev rw_:=PySem.Challenge.rw_je0023_01
noncomputable def view:Program:={ pr with main:={ pr.main with body:=pr.main.body.drop 18 } }
noncomputable def gv:List Str:=[Str.ofString "_wall",Str.ofString "Nonterminal",Str.ofString "is_nonterminal",Str.ofString "is_terminal",Str.ofString "_key",Str.ofString "Production",Str.ofString "CFG",Str.ofString "transitive_closure",
 Str.ofString "_law_tape",Str.ofString "_law_take",Str.ofString "_law_over",Str.ofString "_law_reach",Str.ofString "_law_own",Str.ofString "_law_grammar",Str.ofString "_law_rows",Str.ofString "_law_kind"]
noncomputable def Jx(P:Params):Heap:=absHeap (bt (fH P)) 391 {}
noncomputable def aZ(P:Params):Frag:=(fH P).zipIdx.map fun x=>(x.2,x.1)
theorem oF(P:Params):List.range 391=(aZ P).map (·.1):=by kernel_rfl
noncomputable def hook:Hook:=kHook aZ (List.range 391) oF
noncomputable def Xt0(s:Shared):Bool:=xlAt view [] s&&recOk (RowW.records rw_.row.toRowW) s
noncomputable abbrev h8(w:World):Heap:=absHeap (bt (Dy w.params)) 391 {}
noncomputable abbrev S8(w:World)(os:OsState):Shared:=⟨h8 w,#[],{},711,os⟩
theorem EH(w:World)(os:OsState):(staticsOk (importedModules pr.main.body) (boot_heap w.params) (h8 w)&&namesBound pr (h8 w)&&gensDone (S8 w os)&&laidKept (boot_heap w.params) (h8 w))=true:=by kernel_rfl
theorem EG(w:World)(os:OsState):openSeen view gv (importedModules pr.main.body) Xt0 true (S8 w os)=openGood view gv:=by kernel_rfl
theorem EF(w:World)(os:OsState):hook.obs (S8 w os)=hook.val w:=by kernel_rfl
theorem FQ(w:World)(os:OsState):(s8 w.params os).abs=S8 w os:=by kernel_rfl
theorem run'(w:World)(os:OsState):topRun treeTable pr w 11 (some (.ref 6)) (12+(1+(480+(446+(1455+(285+2)))))) ⟨boot_heap w.params,Array.mk [],boot_drawn,boot_toks,os⟩ (topStub pr)=some (S8 w os):=by
 rw [run w os,FQ w os]
end
end Mine
end
section
set_option maxRecDepth 100000
namespace Mine
open PySem PySem.W PyProof.Rows
theorem triple{α β γ:Type}{a a':α}{b b':β}{c c':γ}(x:a=a')(y:b=b')(z:c=c'):(a,b,c)=(a',b',c'):=by rw [x,y,z]
theorem Ah(w:World):(fun os=>((staticsOk (importedModules pr.main.body) (boot_heap w.params) (h8 w)&&namesBound pr (h8 w)&&gensDone (S8 w os)&&laidKept (boot_heap w.params) (h8 w)),
    openSeen view gv (importedModules pr.main.body) Xt0 true (S8 w os),hook.obs (S8 w os)))=fun _=>(true,openGood view gv,hook.val w) :=
 funext fun os=>triple (EH w os) (EG w os) (EF w os)
theorem left:LeftO pr view gv Xt0 hook.obs hook.val 5000 :=
 LeftO.of_pieces (p:=pr) (q:=view) (loose:=gv) (Xt:=Xt0) (Yf:=hook.obs) (Ya:=hook.val) (N:=5000) (g0:=true) (H₀:=fun P=>boot_heap P) (H₁:=fun P=>absHeap (bt (Dy P)) 391 {}) (gs₀:=Array.mk []) (gs₁:=#[]) (d₀:=boot_drawn) (d₁:={}) (k₀:=boot_toks) (k₁:=711)
  (M:=12+(1+(480+(446+(1455+(285+2)))))) (m₀:=11) (ann:=some (.ref 6))
  (opened 5000 rfl) Hg run' rfl Ah
noncomputable def sL:DefRec:=⟨Str.ofString "law",(top 18).1,(top 18).2.1,(top 18).2.2,⟨334,0,367,75⟩⟩
theorem xF:defOf view rw_.row.name=some (sL,[]):=by kernel_rfl
theorem tO:rw_.row.prog.theDef rw_.row.name=some (sL.params,sL.body,sL.scope):=by kernel_rfl
abbrev Dg:Prop:=WalkO view gv (XL view []) hook.says rw_.row.toRowW sL [] fun f vs=>PySem.call f vs
theorem Hj:rw_.wellSaid=true:=by kernel_rfl
set_option maxHeartbeats 4000000
theorem head(walk:Dg):rw_.Holds :=
 holds_law Hj fun said=>holds_open (q:=view) (loose:=gv) (Xt:=Xt0) (XP:=XL view []) (Yf:=hook.obs) (Ya:=hook.val) (YP:=hook.says) (d:=sL) (kwd:=[]) (N:=5000) left hook.of hook.keeps
  (fun s e=>xl_of s (Bool.and_eq_true_iff.mp e).1) XL.keeps xF tO (by kernel_rfl) (fun s e=>recFacts_of (Bool.and_eq_true_iff.mp e).2) (by rfl) said (by decide +kernel) ⟨rfl,rfl,rfl,rfl,rfl,by decide +kernel⟩ ⟨[.list []],by decide +kernel,by decide +kernel⟩ walk
end Mine
end
section
set_option backward.match.sparseCases false
namespace Mine
open PySem (Addr)
open scoped Classical
noncomputable abbrev cps(s:String):List Nat:=s.toList.map Char.toNat
set_option genCtorIdx true in
set_option genInjectivity true in
inductive V
 |none
 |bool (b:Bool)
 |int (i:Int)
 |str (l:List Nat)
 |tup (vs:List V)
 |lst (vs:List V)
 |arg (vs:List V)
 |rng (lo hi:Int)
 |nt (s:List Nat)
 |prod (l:List Nat) (r:List V)
 |cls (c:String)
 |ref (a:Addr)
deriving Inhabited
noncomputable abbrev aK:=Nat×PySem.SetTable
set_option genCtorIdx true in
set_option genInjectivity true in
inductive bL
 |list (vs:List V)
 |dict (es:List (V×V)) (ep:Nat)
 |set (es:List V) (k:aK)
 |inst (c:String) (dx:Addr)
 |attrs (f:String→Option V)
noncomputable abbrev Hp:=Addr→Option bL
noncomputable abbrev Env:=String→Option V
noncomputable def upd(H:Hp)(a:Addr)(o:bL):Hp:=fun b=>if b=a then some o else H b
noncomputable def del(H:Hp)(a:Addr):Hp:=fun b=>if b=a then Option.none else H b
noncomputable def put(ρ:Env)(x:String)(v:V):Env:=fun y=>if y=x then some v else ρ y
noncomputable def only(ρ:Env)(xs:List String):Env:=fun y=>if y∈xs then ρ y else Option.none
set_option genCtorIdx true in
inductive Lit
 |none
 |bool (b:Bool)
 |int (i:Int)
 |str (s:String)
noncomputable def Lit.v:Lit→V
 |.none=>.none
 |.bool b=>.bool b
 |.int i=>.int i
 |.str s=>.str (cps s)
set_option genCtorIdx true in
inductive BOp | add | sub | mul | mod | fdiv
 deriving DecidableEq
set_option genCtorIdx true in
inductive COp | eq | ne | lt | le | gt | ge | in_ | notin
 deriving DecidableEq
set_option genCtorIdx true in
inductive BI | len | int | abs | range | tuple
 deriving DecidableEq
set_option genCtorIdx true in
inductive QK | all | min | max
 deriving DecidableEq
noncomputable def BI.name:BI→String
 |.len=>"len"
 |.int=>"int"
 |.abs=>"abs"
 |.range=>"range"
 |.tuple=>"tuple"
set_option genCtorIdx true in
inductive BM | append | pop | get | setdefault | add | update | upper
 deriving DecidableEq
noncomputable def BM.name:BM→String
 |.append=>"append"
 |.pop=>"pop"
 |.get=>"get"
 |.setdefault=>"setdefault"
 |.add=>"add"
 |.update=>"update"
 |.upper=>"upper"
noncomputable def BM.blt:BM→String
 |.append=>"list.append"
 |.pop=>"list.pop"
 |.get=>"dict.get"
 |.setdefault=>"dict.setdefault"
 |.add=>"set.add"
 |.update=>"set.update"
 |.upper=>"str.upper"
noncomputable def QK.name:QK→String
 |.all=>"all"
 |.min=>"min"
 |.max=>"max"
inductive ME
 |no
 |lit (l:Lit)
 |var (x:String)
 |bin (o:BOp) (a b:ME)
 |cmp (o:COp) (a b:ME)
 |bools (isAnd:Bool) (es:List ME)
 |not_ (e:ME)
 |lst (mu:Bool) (es:List ME)
 |tup (es:List ME)
 |dictNil
 |set1 (e:ME)
 |sub (e i:ME)
 |slice (e:ME) (lo hi:ME)
 |attr (e:ME) (a:String)
 |call (f:String) (es:List ME)
 |new (c:String) (es:List ME) (kn:List String) (ks:List ME)
 |meth (e:ME) (m:String) (es:List ME) (kn:List String) (ks:List ME)
 |cmeth (m:String) (es:List ME)
 |bm (m:BM) (e:ME) (es:List ME)
 |bi (f:BI) (es:List ME)
 |setNil
 |sorted (e:ME)
 |vals (e:ME)
 |isinst (e:ME) (c:String)
 |quant (q:QK) (elt:ME) (x:String) (iter:ME) (cond:ME)
 |comp (mu:Bool) (elt:ME) (xs:List String) (iter:ME) (cond:ME) (caps:List String)
 |dcomp (k v:ME) (x:String) (iter:ME)
 |frz (e:ME)
 |fstr (xs:List String)
 |ifx (c a b:ME)
inductive MS
 |expr (e:ME)
 |asg (x:String) (e:ME)
 |asgs (xs:List String) (e:ME)
 |asgAttr (x a:String) (e:ME)
 |asgSub (d i e:ME)
 |asg2 (x:String) (d i e:ME)
 |ite (c:ME) (t e:List MS)
 |for_ (xs:List String) (iter:ME) (body:List MS)
 |while_ (c:ME) (body:List MS)
 |ret (e:ME)
 |cont
 |raiseVE
 |tryVE (x:String) (e:ME) (kn:List String) (ks:List ME) (t r:String)
 |dead
noncomputable abbrev big:Nat:=100000
noncomputable abbrev cG:Nat:=300
def onS{α:Type}(o:Option α)(k:α→Prop):Prop:=match o with
 |some a=>k a
 |.none=>False
theorem bR{α:Type}{o:Option α}{k:α→Prop}(h:onS o k):∃a,o=some a∧k a:=match o,h with
 |some a,h=>⟨a,rfl,h⟩
theorem aa{α:Type}{o:Option α}{k:α→Prop}{a:α}(e:o=some a)(h:k a):onS o k:=e▸h
def onC(o:Option String)(k:String→Prop):Prop:=match o with
 |some a=>k a
 |.none=>False
theorem Ep{o:Option String}{k:String→Prop}(h:onC o k):∃a,o=some a∧k a:=match o,h with
 |some a,h=>⟨a,rfl,h⟩
theorem bC{o:Option String}{k:String→Prop}{a:String}(e:o=some a)(h:k a):onC o k:=e▸h
noncomputable def truth(H:Hp):V→Option Bool
 |.none=>some false
 |.bool b=>some b
 |.int i=>some (decide (i≠0))
 |.tup l=>if l.length≤big then some (!l.isEmpty) else Option.none
 |.lst l=>if l.length≤big then some (!l.isEmpty) else Option.none
 |.nt _=>some true
 |.ref a=>match H a with
  |some (.list l)=>if l.length≤big then some (!l.isEmpty) else Option.none
  |_=>Option.none
 |_=>Option.none
noncomputable def listOf(H:Hp):V→Option (List V)
 |.lst l=>some l
 |.ref a=>match H a with
  |some (.list l)=>some l
  |_=>Option.none
 |_=>Option.none
noncomputable def uE:Nat→V→Bool
 |0,_=>false
 |_+1,.str _=>true
 |n+1,.tup vs=>vs.all (uE n)
 |_+1,_=>false
noncomputable def isTup:V→Bool
 |.tup vs=>vs.all (uE 4)
 |_=>false
def bQ(H:Hp)(v:V)(l:List V):Prop:=match v with
 |.lst xs=>l=xs
 |.tup xs=>l=xs
 |.rng lo hi=>l=(List.range (hi-lo).toNat).map fun k:Nat=>V.int (lo+(k:Int))
 |.ref a=>match H a with
  |some (.list xs)=>l=xs
  |some (.dict es _)=>l=es.map (·.1)
  |some (.set es _)=>l.Perm es
  |_=>False
 |_=>False
def iterable(H:Hp)(v:V):Prop:=match v with
 |.lst _=>True
 |.tup _=>True
 |.rng _ _=>True
 |.ref a=>match H a with
  |some (.list _)=>True
  |some (.dict es _)=>es.length≤big
  |some (.set es _)=>es.length≤cG∧∀e∈es,isTup e=true
  |_=>False
 |_=>False
def Still(v:V)(H H':Hp):Prop:=match v with
 |.ref a=>H' a=H a
 |_=>True
noncomputable def pk(k:Bool):Nat→V→Bool
 |0,_=>false
 |_+1,.none=>true
 |_+1,.bool _=>!k
 |_+1,.int _=>k
 |_+1,.str _=>true
 |n+1,.tup vs=>vs.all (pk k n)
 |n+1,.lst vs=>vs.all (pk k n)
 |_+1,_=>false
noncomputable def isAtom:V→Bool
 |.str _=>true
 |.int _=>true
 |_=>false
noncomputable def isStr:V→Bool
 |.str _=>true
 |_=>false
noncomputable def isAtoms:V→Bool
 |.tup vs=>vs.all isAtom
 |_=>false
def vU(es:List (V×V))(k:V):Prop:=(isStr k=true∧∀e∈es,isStr e.1=true)∨(isAtoms k=true∧∀e∈es,isAtoms e.1=true)
def uP(es:List V)(k:V):Prop:=(isStr k=true∧∀e∈es,isStr e=true)∨(isTup k=true∧∀e∈es,isTup e=true)
noncomputable def aE(es:List (V×V))(k:V):Option V:=(es.find? fun e=>decide (e.1=k)).map (·.2)
noncomputable def dput(es:List (V×V))(k v:V):List (V×V) :=
 if (aE es k).isSome then es.map fun e=>if e.1=k then (e.1,v) else e else es++[(k,v)]
noncomputable def dg(es:List V)(k:V):List V:=if k∈es then es else es++[k]
noncomputable def upper(l:List Nat):List Nat:=l.map fun c=>if 97≤c∧c≤122 then c-32 else c
noncomputable abbrev PV:=V→Hp→Prop
def oZ(o:bL)(H:Hp)(Q:PV):Prop:=∀a,H a=Option.none→Q (.ref a) (upd H a o)
inductive iP(H:Hp)(Q:PV):BOp→V→V→Prop
 |add {i j:Int} (q:Q (.int (i+j)) H):iP H Q .add (.int i) (.int j)
 |sub {i j:Int} (q:Q (.int (i-j)) H):iP H Q .sub (.int i) (.int j)
 |mul {i j:Int} (hi:-(2^31)≤i∧i≤2^31) (hj:-(2^31)≤j∧j≤2^31) (q:Q (.int (i*j)) H):iP H Q .mul (.int i) (.int j)
 |mod {i j:Int} (h:0<j) (q:Q (.int (i%j)) H):iP H Q .mod (.int i) (.int j)
 |fdiv {i j:Int} (h0:0<j) (hj:j≤2^31) (q:Q (.int (i/j)) H):iP H Q .fdiv (.int i) (.int j)
 |adds {l m:List Nat} (hz:l.length+m.length≤big) (q:Q (.str (l++m)) H):iP H Q .add (.str l) (.str m)
 |addl {a b:V} {l m:List V} (ha:listOf H a=some l) (hb:listOf H b=some m) (hz:l.length+m.length≤big) (q:Q (.lst (l++m)) H):iP H Q .add a b
inductive InW(H:Hp)(Q:Bool→Hp→Prop):V→V→Prop
 |str {l h:List Nat} (hl:l≠[]) (q:Q (decide (l <:+: h)) H):InW H Q (.str l) (.str h)
 |seq {a b:V} {l:List V} {k:Bool} (hl:listOf H b=some l) (ha:pk k 6 a=true) (hx:∀x∈l,pk k 6 x=true) (q:Q (decide (a∈l)) H):InW H Q a b
 |dict {a:V} {d:Addr} {es:List (V×V)} {ep:Nat} (h:H d=some (.dict es ep)) (hk:vU es a) (q:Q (aE es a).isSome H):InW H Q a (.ref d)
 |set {a:V} {d:Addr} {es:List V} {k:aK} (h:H d=some (.set es k)) (ha:isTup a=true) (hes:∀e∈es,isTup e=true) (q:Q (decide (a∈es)) H):InW H Q a (.ref d)
inductive EqW(a b:V)(P:Prop):Prop
 |mk (k:Bool) (ha:pk k 6 a=true) (hb:pk k 6 b=true) (q:P):EqW a b P
noncomputable def yP:V→Option Unit
 |.none=>some ()
 |_=>.none
theorem none_of{v:V}{i:Unit}(h:yP v=some i):v=.none:=by cases v<;>cases h;rfl
noncomputable def intOf:V→Option Int
 |.int i=>some i
 |_=>.none
theorem yY{v:V}{i:Int}(h:intOf v=some i):v=.int i:=by cases v<;>cases h;rfl
def iu(o:COp)(a b:V)(H:Hp)(Q:PV):Prop:=match o with
 |.eq=>EqW a b (Q (.bool (decide (a=b))) H)
 |.ne=>EqW a b (Q (.bool (!decide (a=b))) H)
 |.in_=>InW H (fun r H'=>Q (.bool r) H') a b
 |.notin=>InW H (fun r H'=>Q (.bool (!r)) H') a b
 |.lt=>onS (intOf a) fun i=>onS (intOf b) fun j=>Q (.bool (decide (i<j))) H
 |.le=>onS (intOf a) fun i=>onS (intOf b) fun j=>Q (.bool (decide (i≤j))) H
 |.gt=>onS (intOf a) fun i=>onS (intOf b) fun j=>Q (.bool (decide (j<i))) H
 |.ge=>onS (intOf a) fun i=>onS (intOf b) fun j=>Q (.bool (decide (j≤i))) H
inductive kG(H:Hp)(Q:PV):V→V→Prop
 |seq {a:V} {l:List V} {k:Int} {x:V} (hl:listOf H a=some l) (h0:0≤k) (hb:k≤big) (h:l[k.toNat]?=some x) (q:Q x H):kG H Q a (.int k)
 |tup {l:List V} {k:Int} {x:V} (h0:0≤k) (hb:k≤big) (h:l[k.toNat]?=some x) (q:Q x H):kG H Q (.tup l) (.int k)
 |str {l:List Nat} {k:Int} {x:Nat} (h0:0≤k) (hb:k≤big) (h:l[k.toNat]?=some x) (q:Q (.str [x]) H):kG H Q (.str l) (.int k)
 |dict {a:Addr} {es:List (V×V)} {ep:Nat} {i x:V} (ha:H a=some (.dict es ep)) (hk:vU es i) (h:aE es i=some x) (q:Q x H):kG H Q (.ref a) i
inductive vX(H:Hp)(Q:PV)(l:List V):Option V→Option V→Prop
 |hi {k:Nat} (hz:l.length≤big) (hk:k≤big) (q:Q (.lst (l.take k)) H):vX H Q l .none (some (.int k))
 |lo {k:Nat} (hz:l.length≤big) (hk:k≤big) (q:Q (.lst (l.drop k)) H):vX H Q l (some (.int k)) .none
inductive dJ(H:Hp)(Q:PV):V→Option V→Option V→Prop
 |arg {l:List V} {lo hi:Option V} (h:vX H Q l lo hi):dJ H Q (.arg l) lo hi
 |seq {a:V} {l:List V} {lo hi:Option V} (hl:listOf H a=some l) (h:vX H Q l lo hi):dJ H Q a lo hi
 |tup {l:List V} {k:Nat} (hz:l.length≤big) (h0:0<k) (hk:k<l.length) (q:Q (.tup (l.drop (l.length-k))) H):dJ H Q (.tup l) (some (.int (-(k:Int)))) .none
noncomputable def rP:List String:=["_start","_productions","_categories","_lhs_index","_rhs_index","_empty_index","_lexical_index","_immediate_leftcorner_categories","_immediate_leftcorner_words","_leftcorners","_leftcorner_words",
 "_is_lexical","_is_nonlexical","_min_len","_max_len","_all_unary_are_lexical"]
noncomputable def gW(n:String):Bool:=rP.contains n
noncomputable def jc:List (String×String):=("Nonterminal","_symbol")::("Production","_lhs")::("Production","_rhs")::rP.map fun n=>("CFG",n)
noncomputable def anyAttr(n:String):Bool:=(jc.map (·.2)).contains n
noncomputable def cR(c n:String):Bool:=jc.contains (c,n)
inductive uQ(H:Hp)(Q:PV)(i:Addr)(n:String):Prop
 |mk {dx:Addr} {f:String→Option V} {v:V} (hi:H i=some (.inst "CFG" dx)) (hd:H dx=some (.attrs f)) (hn:gW n=true) (hv:f n=some v) (q:Q v H):uQ H Q i n
def De(a:V)(n:String)(H:Hp)(Q:PV):Prop:=match a with
 |.nt s=>cond (n=="_symbol") (Q (.str s) H) False
 |.prod l r=>cond (n=="_lhs") (Q (.nt l) H) (cond (n=="_rhs") (Q (.tup r) H) False)
 |.ref i=>uQ H Q i n
 |_=>False
noncomputable def fns:List (String×Addr):=[("Nonterminal.__init__",35),("Production.__init__",105),("Nonterminal.symbol",42),("Production.lhs",112),("Production.rhs",119),("Production.__len__",126),("Production.is_nonlexical",133),("Production.is_lexical",140),("CFG.__init__",174),("CFG._calculate_indexes",181),("CFG._calculate_leftcorners",186),("CFG.start",193),("CFG.productions",199),("CFG._calculate_grammar_forms",227),("CFG.is_nonlexical",241),("CFG.is_nonempty",262),("CFG.is_binarised",269),("CFG.is_flexible_chomsky_normal_form",276),("CFG.is_chomsky_normal_form",283),("CFG.chomsky_normal_form",289),("CFG.remove_unitary_rules",296),("CFG.binarize",307),("CFG.eliminate_start",315),("CFG.remove_mixed_rules",326),("law",390),("_law_tape",348),("_law_take",355),("_law_over",360),("_law_reach",365),("_law_own",370),("_law_grammar",375),("_law_rows",380),("_law_kind",385),("is_nonterminal",77),("is_terminal",84),("_key",91),("transitive_closure",343)]
noncomputable def bE(f:String):Option Addr:=fns.lookup f
noncomputable abbrev Fn:=String→List V→Hp→(Option V→Hp→Prop)→Prop
noncomputable def okW(Q:PV):Option V→Hp→Prop:=fun r H=>onS r fun v=>Q v H
set_option genCtorIdx true in
inductive Ar
 |p (i:Nat)
 |k (i:Nat)
 |d (l:Lit) (t:Nat)
noncomputable def Ar.v(vs ks:List V):Ar→V
 |p i=>vs.getD i .none
 |k i=>ks.getD i .none
 |d l _=>l.v
noncomputable def fills:List ((String×Nat×List String)×List Ar):=[
 (("CFG.__init__",3,[]),[.p 0,.p 1,.p 2,.d (.bool true) 0]),
 (("CFG.productions",1,[]),[.p 0,.d .none 0,.d .none 0,.d (.bool false) 0]),
 (("CFG.productions",1,["empty"]),[.p 0,.d .none 0,.d .none 0,.k 0]),
 (("CFG.productions",1,["lhs"]),[.p 0,.k 0,.d .none 0,.d (.bool false) 0]),
 (("Production.__init__",2,["rhs"]),[.p 0,.p 1,.k 0]),
 (("CFG.chomsky_normal_form",1,["flexible"]),[.p 0,.d (.str "@$@") 500,.k 0])]
def aH(F:Fn)(f:String)(vs:List V)(kn:List String)(ks:List V)(H:Hp)(Q:Option V→Hp→Prop):Prop:=match fills.lookup (f,vs.length,kn) with
 |some as=>F f (as.map (·.v vs ks)) H Q
 |.none=>cond (kn.isEmpty&&f !="law") (F f vs H Q) False
noncomputable def made(H:Hp)(dx x:Addr)(c:String)(f:String→Option V):Hp:=upd (upd H dx (.attrs f)) x (.inst c dx)
def CZ(F:Fn)(c:String)(f:String→Option V)(vs:List V)(kn:List String)(ks:List V)(H:Hp):Prop :=
 ∀x dx,x≠dx→H x=.none→H dx=.none→aH F (c++".__init__") (.ref x::vs) kn ks (made H dx x c fun _=>.none) (okW fun r H'=>r=.none∧H'=made H dx x c f)
inductive o8(F:Fn)(H:Hp)(Q:PV):String→List V→List String→List V→Prop
 |nt {s:List Nat} (h:CZ F "Nonterminal" (fun m=>if m="_symbol" then some (.str s) else .none) [.str s] [] [] H) (q:Q (.nt s) H):o8 F H Q "Nonterminal" [.str s] [] []
 |prod {vs:List V} {kn:List String} {ks:List V} {l:List Nat} {items:List V} (h:CZ F "Production" (fun m=>if m="_rhs" then some (.tup items) else if m="_lhs" then some (.nt l) else .none) vs kn ks H) (q:Q (.prod l items) H):o8 F H Q "Production" vs kn ks
 |cfg {vs:List V} {kn:List String} {ks:List V} (h:∀x dx,x≠dx→H x=.none→H dx=.none→aH F "CFG.__init__" (.ref x::vs) kn ks (made H dx x "CFG" fun _=>.none) (okW fun r H'=>r=.none∧Q (.ref x) H')):o8 F H Q "CFG" vs kn ks
noncomputable def ni(H:Hp):V→Option String
 |.nt _=>some "Nonterminal"
 |.prod _ _=>some "Production"
 |.ref a=>match H a with
  |some (.inst "CFG" dx)=>match H dx with
   |some (.attrs _)=>some "CFG"
   |_=>Option.none
  |_=>Option.none
 |_=>Option.none
inductive BmK(H:Hp):V→BM→Prop
 |append {a:Addr} {l:List V} (h:H a=some (.list l)):BmK H (.ref a) .append
 |pop {a:Addr} {l:List V} (h:H a=some (.list l)):BmK H (.ref a) .pop
 |get {a:Addr} {es:List (V×V)} {ep:Nat} (h:H a=some (.dict es ep)):BmK H (.ref a) .get
 |setdefault {a:Addr} {es:List (V×V)} {ep:Nat} (h:H a=some (.dict es ep)):BmK H (.ref a) .setdefault
 |add {a:Addr} {es:List V} {k:aK} (h:H a=some (.set es k)):BmK H (.ref a) .add
 |update {a:Addr} {es:List V} {k:aK} (h:H a=some (.set es k)):BmK H (.ref a) .update
 |upper {l:List Nat}:BmK H (.str l) .upper
inductive BmW(H:Hp)(Q:PV):V→List V→BM→Prop
 |append {a:Addr} {l:List V} {x:V} (h:H a=some (.list l)) (hz:l.length≤big) (q:Q .none (upd H a (.list (l++[x])))):BmW H Q (.ref a) [x] .append
 |pop {a:Addr} {x:V} {r:List V} (h:H a=some (.list (r++[x]))) (hz:(r++[x]).length≤big) (q:Q x (upd H a (.list r))):BmW H Q (.ref a) [] .pop
 |pop0 {a:Addr} {x:V} {r:List V} (h:H a=some (.list (x::r))) (hz:(x::r).length≤big) (q:Q x (upd H a (.list r))):BmW H Q (.ref a) [.int 0] .pop
 |get {a:Addr} {es:List (V×V)} {ep:Nat} {k d:V} (h:H a=some (.dict es ep)) (hk:isAtoms k=true) (hes:∀e∈es,isAtoms e.1=true) (q:Q ((aE es k).getD d) H):BmW H Q (.ref a) [k,d] .get
 |setdefault {a:Addr} {es:List (V×V)} {ep:Nat} {k d:V} (h:H a=some (.dict es ep)) (hk:isStr k=true) (hes:∀e∈es,isStr e.1=true) (hz:es.length≤big)
   (q:∀H',(if (aE es k).isSome then H'=H else ∃ep,H'=upd H a (.dict (dput es k d) ep))→Q ((aE es k).getD d) H'):BmW H Q (.ref a) [k,d] .setdefault
 |add {a:Addr} {es:List V} {k0:aK} {x:V} (h:H a=some (.set es k0)) (hx:uP es x) (hz:es.length≤cG) (hz4:isStr x=true→(dg es x).length≤4) (q:∀es' k,es'.Perm (dg es x)→Q .none (upd H a (.set es' k))):BmW H Q (.ref a) [x] .add
 |update {a b:Addr} {es fs:List V} {k0 k1:aK} (h:H a=some (.set es k0)) (hne:b≠a) (hb:H b=some (.set fs k1)) (hs:∀x∈es++fs,isStr x=true) (hz:es.length+fs.length≤4)
   (q:∀gs k,gs.Nodup→(∀x,x∈gs↔x∈es∨x∈fs)→Q .none (upd H a (.set gs k))):BmW H Q (.ref a) [.ref b] .update
 |upper {l:List Nat} (hc:∀c∈l,c<128) (hz:l.length≤big) (q:Q (.str (upper l)) H):BmW H Q (.str l) [] .upper
inductive yi(F:Fn)(H:Hp)(Q:PV):V→Prop
 |seq {v:V} {l:List V} (hl:listOf H v=some l) (hz:l.length≤big) (q:Q (.int l.length) H):yi F H Q v
 |tup {l:List V} (hz:l.length≤big) (q:Q (.int l.length) H):yi F H Q (.tup l)
 |prod {l:List Nat} {r:List V} (h:aH F "Production.__len__" [.prod l r] [] [] H (okW fun v H'=>∃n:Nat,v=.int n∧n≤big∧Q v H')):yi F H Q (.prod l r)
inductive BiW(F:Fn)(H:Hp)(Q:PV):BI→List V→Prop
 |len {v:V} (h:yi F H Q v):BiW F H Q .len [v]
 |int {b:Bool} (q:Q (.int (if b then 1 else 0)) H):BiW F H Q .int [.bool b]
 |abs {i:Int} (q:Q (.int (i.natAbs:Int)) H):BiW F H Q .abs [.int i]
 |range {n:Int} (hn:0≤n∧n≤big) (q:Q (.rng 0 n) H):BiW F H Q .range [.int n]
 |range2 {m n:Int} (hm:0≤m∧m≤big) (hn:0≤n∧n≤big) (q:Q (.rng m n) H):BiW F H Q .range [.int m,.int n]
 |tupT {t:List V} (q:Q (.tup t) H):BiW F H Q .tuple [.tup t]
 |tupL {v:V} {l:List V} (h:listOf H v=some l) (hz:l.length≤big) (q:Q (.tup l) H):BiW F H Q .tuple [v]
inductive Di(H:Hp)(Q:PV):V→Prop
 |mk {a:Addr} {es:List V} {k:aK} (h:H a=some (.set es k)) (hs:∀e∈es,∃s t,e=.tup [.str s,.str t]) (hz:es.length<64) (q:∀l,l.Perm es→Q (.lst l) H):Di H Q (.ref a)
inductive Dh(H:Hp)(Q:PV):V→Prop
 |mk {a:Addr} {es:List (V×V)} {ep:Nat} (h:H a=some (.dict es ep)) (hz:es.length≤big) (q:Q (.lst (es.map (·.2))) H):Dh H Q (.ref a)
inductive GO(H:Hp)(Q:PV):V→Prop
 |mk {a:Addr} {l:List V} (h:H a=some (.list l)) (q:Q (.lst l) (del H a)):GO H Q (.ref a)
noncomputable def eG(xs:List String)(v:V)(ρ:Env):Option Env:=match xs,v with
 |[x],v=>some (put ρ x v)
 |[x,y],.tup [a,b]=>some (put (put ρ x a) y b)
 |_,_=>Option.none
noncomputable def fV(step:V→Hp→(Option V→Hp→Prop)→Prop)(still:Hp→Prop):List V→List V→Hp→(List V→Hp→Prop)→Prop
 |[],acc,H,Q=>still H∧Q acc H
 |x::xs,acc,H,Q=>still H∧acc.length≤big∧step x H fun r H'=>match r with
  |some v=>fV step still xs (acc++[v]) H' Q
  |.none=>fV step still xs acc H' Q
noncomputable def sN(step:V→Hp→(Option V→Hp→Prop)→Prop):List V→Hp→PV→Prop
 |[],H,Q=>Q (.bool true) H
 |x::xs,H,Q=>step x H fun r H'=>match r with
  |some v=>∃b,v=.bool b∧(if b then sN step xs H' Q else Q (.bool false) H')
  |.none=>sN step xs H' Q
noncomputable def ki(f:V→Int)(step:V→Hp→(Option V→Hp→Prop)→Prop):List V→Hp→(Hp→Prop)→Prop
 |[],H,Q=>Q H
 |x::xs,H,Q=>step x H fun r H'=>r=some (.int (f x))∧ki f step xs H' Q
noncomputable def yI(step:V→Hp→(Option V→Hp→Prop)→Prop)(l:List V)(H:Hp)(Q:PV):QK→Prop
 |.all=>sN step l H Q
 |.min=>l≠[]∧∃f,ki f step l H fun H'=>∀m,m∈l.map f→(∀y∈l.map f,m≤y)→Q (.int m) H'
 |.max=>l≠[]∧∃f,ki f step l H fun H'=>∀m,m∈l.map f→(∀y∈l.map f,y≤m)→Q (.int m) H'
noncomputable def dB:ME→Bool
 |.no=>true
 |_=>false
def Ds(no:Bool)(w:PV→Prop)(H:Hp)(Q:Option V→Hp→Prop):Prop:=cond no (Q Option.none H) (w fun v H'=>Q (some v) H')
def kh(no:Bool)(w:PV→Prop)(H:Hp)(Q:Bool→Hp→Prop):Prop:=cond no (Q true H) (w fun v H'=>onS (truth H' v) fun b=>Q b H')
mutual
noncomputable def wpE(F:Fn):ME→Env→Hp→PV→Prop
 |.no,_,_,_=>False
 |.lit l,_,H,Q=>Q l.v H
 |.var x,ρ,H,Q=>onS (ρ x) fun v=>Q v H
 |.bin o a b,ρ,H,Q=>wpE F a ρ H fun va H1=>wpE F b ρ H1 fun vb H2=>iP H2 Q o va vb
 |.cmp o a b,ρ,H,Q=>wpE F a ρ H fun va H1=>wpE F b ρ H1 fun vb H2=>iu o va vb H2 Q
 |.bools c es,ρ,H,Q=>gP F c es ρ H Q
 |.not_ e,ρ,H,Q=>wpE F e ρ H fun v H'=>onS (truth H' v) fun b=>Q (.bool (!b)) H'
 |.lst mu es,ρ,H,Q=>fZ F es ρ H fun vs H'=>if mu then oZ (.list vs) H' Q else Q (.lst vs) H'
 |.tup es,ρ,H,Q=>fZ F es ρ H fun vs H'=>Q (.tup vs) H'
 |.dictNil,_,H,Q=>∀ep,oZ (.dict [] ep) H Q
 |.set1 e,ρ,H,Q=>wpE F e ρ H fun v H'=>uP [] v∧∀k,oZ (.set [v] k) H' Q
 |.sub e i,ρ,H,Q=>wpE F e ρ H fun v H1=>wpE F i ρ H1 fun k H2=>kG H2 Q v k
 |.slice e lo hi,ρ,H,Q=>wpE F e ρ H fun v H1=>Ds (dB lo) (wpE F lo ρ H1) H1 fun i H2=>Ds (dB hi) (wpE F hi ρ H2) H2 fun j H3=>dJ H3 Q v i j
 |.attr e n,ρ,H,Q=>wpE F e ρ H fun v H'=>De v n H' Q
 |.call f es,ρ,H,Q=>fZ F es ρ H fun vs H'=>aH F f vs [] [] H' (okW Q)
 |.new c es kn ks,ρ,H,Q=>fZ F es ρ H fun vs H1=>fZ F ks ρ H1 fun ws H2=>o8 F H2 Q c vs kn ws
 |.meth e m es kn ks,ρ,H,Q=>wpE F e ρ H fun o H1=>onC (ni H1 o) fun c=>onS (bE (c++"."++m)) fun _=>fZ F es ρ H1 fun vs H2=>fZ F ks ρ H2 fun ws H3=>aH F (c++"."++m) (o::vs) kn ws H3 (okW Q)
 |.cmeth m es,ρ,H,Q=>fZ F es ρ H fun vs H'=>aH F ("CFG"++"."++m) (.cls "CFG"::vs) [] [] H' (okW Q)
 |.bm m e es,ρ,H,Q=>wpE F e ρ H fun o H1=>BmK H1 o m∧fZ F es ρ H1 fun vs H2=>BmW H2 Q o vs m
 |.bi f es,ρ,H,Q=>fZ F es ρ H fun vs H'=>BiW F H' Q f vs
 |.setNil,_,H,Q=>∀k,oZ (.set [] k) H Q
 |.sorted e,ρ,H,Q=>wpE F e ρ H fun v H'=>Di H' Q v
 |.vals e,ρ,H,Q=>wpE F e ρ H fun v H'=>Dh H' Q v
 |.isinst e c,ρ,H,Q=>wpE F e ρ H fun v H'=>match v with
  |.nt _=>Q (.bool (decide (c="Nonterminal"))) H'
  |.str _=>Q (.bool (decide (c="str"))) H'
  |.lst _=>c="str"∧Q (.bool false) H'
  |.tup _=>c="str"∧Q (.bool false) H'
  |.ref a=>c="str"∧(∃l,H' a=some (.list l))∧Q (.bool false) H'
  |_=>False
 |.quant q elt x iter cond,ρ,H,Q=>wpE F iter ρ H fun v H1=>∃l,(v=.lst l∨v=.tup l)∧(q=.all∨dB cond=true) ∧
   yI (fun a H2 R=>kh (dB cond) (wpE F cond (put (fun _=>Option.none) x a) H2) H2 fun b H3=>_root_.cond b (wpE F elt (put (fun _=>Option.none) x a) H3 fun r H4=>R (some r) H4) (R Option.none H3)) l H1 Q q
 |.comp mu elt xs iter cond caps,ρ,H,Q=>(∀c∈caps,(ρ c).isSome=true)∧wpE F iter ρ H fun v H1=>iterable H1 v∧∀l,bQ H1 v l →
   fV (fun a H2 R=>onS (eG xs a (only ρ caps)) fun ρ'=>kh (dB cond) (wpE F cond ρ' H2) H2 fun b H3=>_root_.cond b (wpE F elt ρ' H3 fun r H4=>R (some r) H4) (R Option.none H3)) (Still v H1) l [] H1
    fun vs H2=>if mu then oZ (.list vs) H2 Q else Q (.lst vs) H2
 |.dcomp k w x iter,ρ,H,Q=>wpE F iter ρ H fun v H1=>iterable H1 v∧∀l,bQ H1 v l →
   fV (fun a H2 R=>wpE F k (put (fun _=>Option.none) x a) H2 fun kv H3=>wpE F w (put (fun _=>Option.none) x a) H3 fun wv H4=>isAtoms kv=true∧R (some (.tup [kv,wv])) H4) (Still v H1) l [] H1
    fun ps H2=>∀ep,oZ (.dict (ps.foldl (fun es p=>match p with | .tup [kv,wv]=>dput es kv wv | _=>es) []) ep) H2 Q
 |.frz e,ρ,H,Q=>wpE F e ρ H fun v H'=>GO H' Q v
 |.fstr xs,ρ,H,Q=>∃ls:List (List Nat),xs.map ρ=ls.map (fun l=>some (V.str l))∧(ls.flatten).length≤big∧Q (.str ls.flatten) H
 |.ifx c a b,ρ,H,Q=>wpE F c ρ H fun v H'=>onS (truth H' v) fun t=>cond t (wpE F a ρ H' Q) (wpE F b ρ H' Q)
noncomputable def fZ(F:Fn):List ME→Env→Hp→(List V→Hp→Prop)→Prop
 |[],_,H,Q=>Q [] H
 |e::es,ρ,H,Q=>wpE F e ρ H fun v H1=>fZ F es ρ H1 fun vs H2=>Q (v::vs) H2
noncomputable def gP(F:Fn):Bool→List ME→Env→Hp→PV→Prop
 |_,[],_,_,_=>False
 |_,[e],ρ,H,Q=>wpE F e ρ H Q
 |c,e::es,ρ,H,Q=>wpE F e ρ H fun v H'=>onS (truth H' v) fun b=>cond (b==c) (gP F c es ρ H' Q) (Q v H')
end
set_option genCtorIdx true in
inductive Out
 |next
 |cont
 |ret (v:V)
 |exc
noncomputable abbrev PS:=Out→Env→Hp→Prop
noncomputable def sH(w:Env→Hp→PS→Prop)(Q:PS):PS:=fun o ρ H=>match o with
 |.next=>w ρ H Q
 |.cont=>Q .cont ρ H
 |.ret v=>Q (.ret v) ρ H
 |.exc=>Q .exc ρ H
noncomputable def eF(w:Env→Hp→Prop)(Q:PS):PS:=fun o ρ H=>match o with
 |.next=>w ρ H
 |.cont=>w ρ H
 |.ret r=>Q (.ret r) ρ H
 |.exc=>False
noncomputable def vQ(Q:Option V→Hp→Prop):PS:=fun o _ H=>match o with
 |.next=>Q (some .none) H
 |.cont=>False
 |.ret v=>Q (some v) H
 |.exc=>Q Option.none H
noncomputable def Gu(t e:Hp→Prop):PV:=fun v H=>onS (truth H v) fun b=>cond b (t H) (e H)
noncomputable def forL(body:Env→Hp→PS→Prop)(still:Hp→Prop)(xs:List String):List V→Env→Hp→PS→Prop
 |[],ρ,H,Q=>still H∧Q .next ρ H
 |v::vs,ρ,H,Q=>still H∧onS (eG xs v ρ) fun ρ'=>body ρ' H (eF (fun ρ2 H2=>forL body still xs vs ρ2 H2 Q) Q)
noncomputable def lA(test:Env→Hp→(Bool→Hp→Prop)→Prop)(body:Env→Hp→PS→Prop):Nat→Env→Hp→PS→Prop
 |0,_,_,_=>False
 |n+1,ρ,H,Q=>test ρ H fun b H1=>cond b (body ρ H1 (eF (fun ρ2 H2=>lA test body n ρ2 H2 Q) Q)) (Q .next ρ H1)
inductive yg(H:Hp)(Q:Hp→Prop)(v:V):V→V→Prop
 |list {a:Addr} {l:List V} {k:Nat} (ha:H a=some (.list l)) (hi:k<l.length) (hz:l.length≤big) (q:Q (upd H a (.list (l.set k v)))):yg H Q v (.ref a) (.int k)
 |dict {a:Addr} {es:List (V×V)} {ep:Nat} {i:V} (ha:H a=some (.dict es ep)) (hk:vU es i) (hz:es.length≤big) (q:∀ep,Q (upd H a (.dict (dput es i v) ep))):yg H Q v (.ref a) i
mutual
noncomputable def wpS(F:Fn):MS→Env→Hp→PS→Prop
 |.expr e,ρ,H,Q=>wpE F e ρ H fun v H'=>onS (yP v) fun _=>Q .next ρ H'
 |.asg x e,ρ,H,Q=>wpE F e ρ H fun v H'=>Q .next (put ρ x v) H'
 |.asgs xs e,ρ,H,Q=>wpE F e ρ H fun v H'=>onS (eG xs v ρ) fun ρ'=>Q .next ρ' H'
 |.asgAttr x n e,ρ,H,Q=>wpE F e ρ H fun v H'=>∃i c dx f,cR c n=true∧ρ x=some (.ref i)∧H' i=some (.inst c dx)∧H' dx=some (.attrs f)∧Q .next ρ (upd H' dx (.attrs (fun m=>if m=n then some v else f m)))
 |.asgSub d i e,ρ,H,Q=>wpE F e ρ H fun v H1=>wpE F d ρ H1 fun o H2=>wpE F i ρ H2 fun k H3=>yg H3 (fun H4=>Q .next ρ H4) v o k
 |.asg2 x d i e,ρ,H,Q=>wpE F e ρ H fun v H1=>wpE F d (put ρ x v) H1 fun o H2=>wpE F i (put ρ x v) H2 fun k H3=>yg H3 (fun H4=>Q .next (put ρ x v) H4) v o k
 |.ite c t e,ρ,H,Q=>wpE F c ρ H (Gu (fun H'=>aO F t ρ H' Q) fun H'=>aO F e ρ H' Q)
 |.for_ xs iter body,ρ,H,Q=>wpE F iter ρ H fun v H1=>iterable H1 v∧∀l,bQ H1 v l→forL (fun ρ H Q=>aO F body ρ H Q) (Still v H1) xs l ρ H1 Q
 |.while_ c body,ρ,H,Q=>∃n,lA (fun ρ H R=>wpE F c ρ H fun v H'=>onS (truth H' v) fun b=>R b H') (fun ρ H Q=>aO F body ρ H Q) n ρ H Q
 |.ret e,ρ,H,Q=>wpE F e ρ H fun v H'=>Q (.ret v) ρ H'
 |.cont,ρ,H,Q=>Q .cont ρ H
 |.raiseVE,ρ,H,Q=>Q .exc ρ H
 |.tryVE x e kn ks t z,ρ,H,Q=>wpE F e ρ H fun ov H1=>ni H1 ov=some "CFG"∧fZ F ks ρ H1 fun ws H3=>aH F "CFG.chomsky_normal_form" [ov] kn ws H3 fun r H4=>match r with
   |some v=>Q .next (put ρ x v) H4
   |Option.none=>wpE F (.cmp .in_ (.tup [.lit (.str t),.lst false []]) (.var z)) ρ H4 fun w H5=>Q (.ret w) ρ H5
 |.dead,_,_,_=>False
noncomputable def aO(F:Fn):List MS→Env→Hp→PS→Prop
 |[],ρ,H,Q=>Q .next ρ H
 |s::ss,ρ,H,Q=>wpS F s ρ H (sH (fun ρ' H' Q=>aO F ss ρ' H' Q) Q)
end
noncomputable def wpF(body:String→Option (List String×List MS)):Nat→Fn
 |0,_,_,_,_=>False
 |n+1,f,vs,H,Q=>onS (body f) fun p=>cond (p.1.length==vs.length) (aO (wpF body n) p.2 (fun x=>(p.1.zip vs).lookup x) H (vQ Q)) False
end Mine
end
section
namespace Mine
open scoped Classical
noncomputable abbrev vr:=ME.var
noncomputable abbrev st(s:String):=ME.lit (.str s)
noncomputable abbrev nm(i:Int):=ME.lit (.int i)
noncomputable abbrev tt:=ME.lit (.bool true)
noncomputable abbrev ff:=ME.lit (.bool false)
noncomputable abbrev nn:=ME.lit .none
noncomputable abbrev b0(e:ME)(m:BM):=ME.bm m e []
noncomputable abbrev b1(e:ME)(m:BM)(a:ME):=ME.bm m e [a]
noncomputable abbrev b2(e:ME)(m:BM)(a b:ME):=ME.bm m e [a,b]
noncomputable abbrev m0(e:ME)(m:String):=ME.meth e m [] [] []
noncomputable abbrev m1(e:ME)(m:String)(a:ME):=ME.meth e m [a] [] []
noncomputable abbrev m2(e:ME)(m:String)(a b:ME):=ME.meth e m [a,b] [] []
noncomputable abbrev slf(n:String):=ME.attr (.var "self") n
noncomputable abbrev key(e:ME):=ME.call "_key" [e]
noncomputable abbrev take(k:Int):=ME.call "_law_take" [vr "tape",nm k]
noncomputable abbrev len(e:ME):=ME.bi .len [e]
noncomputable def Fv:List MS:=[.ret (.lst true [.bin .add (.comp false (.bin .mod (.bi .abs [vr "cell"]) (nm 1000003)) ["cell"] (.slice (vr "script") .no (nm 24)) .no []) (.lst false [nm 7,nm 2,nm 5]),nm 0])]
noncomputable def Fw:List MS:=[
 .asg "at" (.sub (vr "tape") (nm 1)),
 .asgSub (vr "tape") (nm 1) (.bin .add (vr "at") (nm 1)),
 .asg "cells" (.sub (vr "tape") (nm 0)),
 .ret (.bin .mod (.bin .add (.sub (vr "cells") (.bin .mod (vr "at") (len (vr "cells")))) (.bin .mul (nm 31) (.bin .fdiv (vr "at") (len (vr "cells"))))) (vr "most"))]
noncomputable def FD:List MS:=[
 .asg "ends" (.lst false [vr "start"]),
 .for_ ["item"] (vr "items") [
  .asg "after" (.lst true []),
  .for_ ["end"] (vr "ends") [
   .ite (.cmp .in_ (vr "item") (st "xyz"))
    [.ite (.bools true [.cmp .lt (vr "end") (len (vr "word")),.cmp .eq (.sub (vr "word") (vr "end")) (vr "item")]) [.expr (b1 (vr "after") .append (.bin .add (vr "end") (nm 1)))] []]
    [.asg "after" (.bin .add (vr "after") (.comp false (vr "far") ["far"] (b2 (vr "known") .get (.tup [vr "item",vr "end"]) (.lst false [])) (.cmp .notin (vr "far") (vr "after")) ["after"]))]],
  .asg "ends" (vr "after")],
 .ret (vr "ends")]
noncomputable def CA:List MS:=[
 .asg "known" .dictNil,
 .for_ ["turn"] (.bi .range [nm 60]) [
  .asg "more" ff,
  .for_ ["left","right"] (vr "rules") [
   .for_ ["start"] (.bi .range [.bin .add (len (vr "word")) (nm 1)]) [
    .asg "old" (b2 (vr "known") .get (.tup [vr "left",vr "start"]) (.lst false [])),
    .asg "fresh" (.comp false (vr "end") ["end"] (.call "_law_over" [vr "known",vr "word",vr "right",vr "start"]) (.cmp .notin (vr "end") (vr "old")) ["old"]),
    .ite (.cmp .gt (len (vr "fresh")) (nm 0)) [
     .asgSub (vr "known") (.tup [vr "left",vr "start"]) (.bin .add (vr "old") (vr "fresh")),
     .asg "more" tt] []]],
  .ite (.not_ (vr "more")) [.ret (vr "known")] []],
 .ret (vr "known")]
noncomputable def Il:List MS:=[.ret (.comp false (.sub (vr "rows") (vr "k")) ["k"] (.bi .range [len (vr "rows")]) (.cmp .notin (.sub (vr "rows") (vr "k")) (.slice (vr "rows") .no (vr "k"))) ["rows"])]
noncomputable def xW:List MS:=[
 .asg "rows" (.comp false (.new "Production" [.new "Nonterminal" [vr "left"] [] [],.comp false (.ifx (.cmp .in_ (vr "item") (st "xyz")) (vr "item") (.new "Nonterminal" [vr "item"] [] [])) ["item"] (vr "right") .no []] [] []) ["left","right"] (vr "rules") .no []),
 .ret (.new "CFG" [.new "Nonterminal" [st "S"] [] [],vr "rows"] [] [])]
noncomputable def Fy:List MS:=[.ret (.comp false (.tup [m0 (m0 (vr "rule") "lhs") "symbol",.comp false (.ifx (.isinst (vr "item") "str") (vr "item") (m0 (vr "item") "symbol")) ["item"] (m0 (vr "rule") "rhs") .no []]) ["rule"] (m0 (vr "grammar") "productions") .no [])]
noncomputable def FE:List MS:=[.ret (.comp false (.cmp .in_ (vr "item") (st "xyz")) ["item"] (vr "right") .no [])]
noncomputable def iC:List MS:=[
 .asg "tape" (.call "_law_tape" [vr "script"]),
 .asg "flexible" (.cmp .eq (take 3) (nm 0)),
 .asg "rules" (.lst true [.tup [st "S",.lst false [st "x"]]]),
 .for_ ["k"] (.bi .range [.bin .add (nm 2) (take 3)]) [
  .asg "size" (.sub (.lst false [nm 1,nm 1,nm 2,nm 2,nm 3]) (take 5)),
  .asg "right" (.comp false (.sub (st "SABxy") (take 5)) ["j"] (.bi .range [vr "size"]) .no ["tape"]),
  .ite (.bools true [.cmp .eq (vr "size") (nm 3),.cmp .in_ (.sub (vr "right") (nm 0)) (st "xyz")]) [.asg "right" (.bin .add (.lst false [st "A"]) (.slice (vr "right") (nm 1) .no))] [],
  .expr (b1 (vr "rules") .append (.tup [.sub (st "SAB") (take 3),vr "right"]))],
 .asg "rules" (.bin .add (.bin .add (.bin .add (vr "rules") (.slice (.lst false [.tup [st "A",.lst false [st "y"]]]) .no (take 2))) (.slice (.lst false [.tup [st "B",.lst false [st "A"]]]) .no (take 2))) (.slice (.lst false [.tup [st "B",.lst false []]]) .no (.bin .fdiv (take 9) (nm 8)))),
 .asg "rules" (.call "_law_own" [vr "rules"]),
 .asg "grammar" (.call "_law_grammar" [vr "rules"]),
 .asg "ready" (.cmp .eq (len (.comp false (nm 1) ["left","right"] (vr "rules") (.cmp .notin (.call "_law_kind" [vr "right"]) (.lst false [.lst false [tt],.lst false [ff,ff]])) [])) (nm 0)),
 .ite (.cmp .ne (m0 (vr "grammar") "is_chomsky_normal_form") (vr "ready")) [.ret ff] [],
 .tryVE "normal" (vr "grammar") ["flexible"] [vr "flexible"] "B" "rules",
 .asg "rows" (.call "_law_rows" [vr "normal"]),
 .asg "start" (m0 (m0 (vr "normal") "start") "symbol"),
 .ite (.bools false [.cmp .in_ (.tup [st "B",.lst false []]) (vr "rules"),.cmp .ne (.call "_law_rows" [vr "grammar"]) (vr "rules")]) [.ret ff] [],
 .ite (vr "ready") [.ret (.bools true [.cmp .eq (vr "rows") (vr "rules"),.cmp .eq (vr "start") (st "S")])] [],
 .asg "forms" (.bin .add (.lst false [.lst false [tt],.lst false [ff,ff]]) (.slice (.lst false [.lst false [ff]]) .no (.bi .int [vr "flexible"]))),
 .ite (.cmp .gt (len (.comp false (nm 1) ["left","right"] (vr "rows") (.bools false [.cmp .notin (.call "_law_kind" [vr "right"]) (vr "forms"),.cmp .in_ (vr "start") (vr "right")]) ["forms","start"])) (nm 0)) [.ret ff] [],
 .ite (.bools false [.not_ (m0 (vr "normal") "is_flexible_chomsky_normal_form"),.bools true [.not_ (vr "flexible"),.not_ (m0 (vr "normal") "is_chomsky_normal_form")]]) [.ret ff] [],
 .asg "word" (.comp false (.sub (st "xxy") (take 3)) ["k"] (.bi .range [.bin .add (nm 1) (take 3)]) .no ["tape"]),
 .asg "due" (.cmp .in_ (len (vr "word")) (b2 (.call "_law_reach" [vr "rules",vr "word"]) .get (.tup [st "S",nm 0]) (.lst false []))),
 .ret (.cmp .eq (.cmp .in_ (len (vr "word")) (b2 (.call "_law_reach" [vr "rows",vr "word"]) .get (.tup [vr "start",nm 0]) (.lst false []))) (vr "due"))]
noncomputable def FF:List MS:=[.ret (.isinst (vr "item") "Nonterminal")]
noncomputable def Iq:List MS:=[.ret (.not_ (.isinst (vr "item") "Nonterminal"))]
noncomputable def Ip:List MS:=[.ite (.isinst (vr "item") "Nonterminal") [.ret (.tup [st "N",.attr (vr "item") "_symbol"])] [],.ret (.tup [st "T",vr "item"])]
noncomputable def xY:List MS:=[
 .asg "closure" .dictNil,
 .for_ ["i"] (vr "graph") [
  .asg "found" (.set1 (vr "i")),
  .asg "agenda" (.lst true [vr "i"]),
  .while_ (vr "agenda") [
   .asg "j" (b0 (vr "agenda") .pop),
   .for_ ["k"] (.sorted (b2 (vr "graph") .get (vr "j") (.setNil))) [
    .ite (.cmp .notin (vr "k") (vr "found")) [.expr (b1 (vr "found") .add (vr "k")),.expr (b1 (vr "agenda") .append (vr "k"))] []]],
  .asgSub (vr "closure") (vr "i") (vr "found")],
 .ret (vr "closure")]
noncomputable def CB:List MS:=[.asgAttr "self" "_symbol" (vr "symbol")]
noncomputable def vH:List MS:=[.ite (.isinst (vr "rhs") "str") [.dead] [],.asgAttr "self" "_lhs" (vr "lhs"),.asgAttr "self" "_rhs" (.bi .tuple [vr "rhs"])]
noncomputable def A4:List MS:=[.ret (slf "_symbol")]
noncomputable def Im:List MS:=[.ret (slf "_lhs")]
noncomputable def Ik:List MS:=[.ret (slf "_rhs")]
noncomputable def Io:List MS:=[.ret (len (slf "_rhs"))]
noncomputable def xU:List MS:=[.ret (.quant .all (.call "is_nonterminal" [vr "n"]) "n" (slf "_rhs") .no)]
noncomputable def FA:List MS:=[.ret (.not_ (m0 (vr "self") "is_nonlexical"))]
noncomputable def FG:List MS:=[
 .ite (.not_ (.call "is_nonterminal" [vr "start"])) [.dead] [],
 .asgAttr "self" "_start" (vr "start"),
 .asgAttr "self" "_productions" (vr "productions"),
 .asgAttr "self" "_categories" (.lst true []),
 .for_ ["prod"] (vr "productions") [
  .ite (.cmp .notin (key (m0 (vr "prod") "lhs")) (slf "_categories")) [.expr (b1 (slf "_categories") .append (key (m0 (vr "prod") "lhs")))] []],
 .expr (m0 (vr "self") "_calculate_indexes"),
 .expr (m0 (vr "self") "_calculate_grammar_forms"),
 .ite (vr "calculate_leftcorners") [.expr (m0 (vr "self") "_calculate_leftcorners")] []]
noncomputable def xV:List MS:=[
 .asgAttr "self" "_lhs_index" .dictNil,
 .asgAttr "self" "_rhs_index" .dictNil,
 .asgAttr "self" "_empty_index" .dictNil,
 .asgAttr "self" "_lexical_index" .dictNil,
 .for_ ["prod"] (slf "_productions") [
  .asg "lhs" (key (.attr (vr "prod") "_lhs")),
  .ite (.cmp .notin (vr "lhs") (slf "_lhs_index")) [.asgSub (slf "_lhs_index") (vr "lhs") (.lst true [])] [],
  .expr (b1 (.sub (slf "_lhs_index") (vr "lhs")) .append (vr "prod")),
  .ite (.attr (vr "prod") "_rhs") [
   .asg "rhs0" (key (.sub (.attr (vr "prod") "_rhs") (nm 0))),
   .ite (.cmp .notin (vr "rhs0") (slf "_rhs_index")) [.asgSub (slf "_rhs_index") (vr "rhs0") (.lst true [])] [],
   .expr (b1 (.sub (slf "_rhs_index") (vr "rhs0")) .append (vr "prod"))]
   [.asgSub (slf "_empty_index") (key (m0 (vr "prod") "lhs")) (vr "prod")],
  .for_ ["token"] (.attr (vr "prod") "_rhs") [
   .ite (.call "is_terminal" [vr "token"]) [.expr (b1 (b2 (slf "_lexical_index") .setdefault (vr "token") (.lst true [])) .append (vr "prod"))] []]]]
noncomputable def nI:List MS:=[
 .asgAttr "self" "_immediate_leftcorner_categories" (.dcomp (vr "cat") (.set1 (vr "cat")) "cat" (slf "_categories")),
 .asgAttr "self" "_immediate_leftcorner_words" (.dcomp (vr "cat") (.setNil) "cat" (slf "_categories")),
 .for_ ["prod"] (m0 (vr "self") "productions") [
  .ite (.cmp .gt (len (vr "prod")) (nm 0)) [
   .asgs ["cat","left"] (.tup [key (m0 (vr "prod") "lhs"),.sub (m0 (vr "prod") "rhs") (nm 0)]),
   .ite (.call "is_nonterminal" [vr "left"])
    [.expr (b1 (.sub (slf "_immediate_leftcorner_categories") (vr "cat")) .add (key (vr "left")))]
    [.expr (b1 (.sub (slf "_immediate_leftcorner_words") (vr "cat")) .add (vr "left"))]] []],
 .asg "lc" (.call "transitive_closure" [slf "_immediate_leftcorner_categories"]),
 .asgAttr "self" "_leftcorners" (vr "lc"),
 .asgAttr "self" "_leftcorner_words" .dictNil,
 .for_ ["cat"] (slf "_leftcorners") [
  .asg "lefts" (.sub (slf "_leftcorners") (vr "cat")),
  .asg2 "lc" (slf "_leftcorner_words") (vr "cat") (.setNil),
  .for_ ["left"] (vr "lefts") [
   .expr (b1 (vr "lc") .update (b2 (slf "_immediate_leftcorner_words") .get (vr "left") (.setNil)))]]]
noncomputable def Cz:List MS:=[.ret (slf "_start")]
noncomputable def nH:List MS:=[
 .ite (.bools true [vr "rhs",vr "empty"]) [.dead] [],
 .ite (.bools true [.not_ (vr "lhs"),.not_ (vr "rhs")])
  [.ite (.not_ (vr "empty")) [.ret (slf "_productions")] [.ret (.vals (slf "_empty_index"))]]
  [.ite (.bools true [vr "lhs",.not_ (vr "rhs")])
   [.ite (.not_ (vr "empty")) [.ret (b2 (slf "_lhs_index") .get (key (vr "lhs")) (.lst false []))] [.dead]]
   [.dead]]]
noncomputable def CF:List MS:=[
 .asg "prods" (slf "_productions"),
 .asgAttr "self" "_is_lexical" (.quant .all (m0 (vr "p") "is_lexical") "p" (vr "prods") .no),
 .asgAttr "self" "_is_nonlexical" (.quant .all (m0 (vr "p") "is_nonlexical") "p" (vr "prods") (.cmp .ne (len (vr "p")) (nm 1))),
 .asgAttr "self" "_min_len" (.quant .min (len (vr "p")) "p" (vr "prods") .no),
 .asgAttr "self" "_max_len" (.quant .max (len (vr "p")) "p" (vr "prods") .no),
 .asgAttr "self" "_all_unary_are_lexical" (.quant .all (m0 (vr "p") "is_lexical") "p" (vr "prods") (.cmp .eq (len (vr "p")) (nm 1)))]
noncomputable def xX:List MS:=[.ret (slf "_is_nonlexical")]
noncomputable def uB:List MS:=[.ret (.cmp .gt (slf "_min_len") (nm 0))]
noncomputable def sG:List MS:=[.ret (.cmp .le (slf "_max_len") (nm 2))]
noncomputable def FH:List MS:=[.ret (.bools true [m0 (vr "self") "is_nonempty",m0 (vr "self") "is_nonlexical",m0 (vr "self") "is_binarised"])]
noncomputable def CD:List MS:=[.ret (.bools true [m0 (vr "self") "is_flexible_chomsky_normal_form",slf "_all_unary_are_lexical"])]
noncomputable def Ir:List MS:=[
 .ite (m0 (vr "self") "is_chomsky_normal_form") [.ret (vr "self")] [],
 .ite (.meth (vr "self") "productions" [] ["empty"] [tt]) [.raiseVE] [],
 .asg "step1" (.cmeth "eliminate_start" [vr "self"]),
 .asg "step2" (.cmeth "binarize" [vr "step1",vr "new_token_padding"]),
 .asg "step3" (.cmeth "remove_mixed_rules" [vr "step2",vr "new_token_padding"]),
 .ite (vr "flexible") [.ret (vr "step3")] [],
 .asg "step4" (.cmeth "remove_unitary_rules" [vr "step3"]),
 .asgs ["seen","result"] (.tup [.setNil,.lst true []]),
 .for_ ["rule"] (m0 (vr "step4") "productions") [
  .asg "key" (.tup [key (m0 (vr "rule") "lhs"),.bi .tuple [.comp false (key (vr "n")) ["n"] (m0 (vr "rule") "rhs") .no []]]),
  .ite (.cmp .notin (vr "key") (vr "seen")) [.expr (b1 (vr "seen") .add (vr "key")),.expr (b1 (vr "result") .append (vr "rule"))] []],
 .ret (.new "CFG" [m0 (vr "step4") "start",.frz (vr "result")] [] [])]
noncomputable def xT:List MS:=[
 .asg "result" (.lst true []),
 .asg "unitary" (.lst true []),
 .for_ ["rule"] (m0 (vr "grammar") "productions") [
  .ite (.bools true [.cmp .eq (len (vr "rule")) (nm 1),m0 (vr "rule") "is_nonlexical"]) [.expr (b1 (vr "unitary") .append (vr "rule"))] [.expr (b1 (vr "result") .append (vr "rule"))]],
 .asg "seen" (.setNil),
 .while_ (vr "unitary") [
  .asg "rule" (b1 (vr "unitary") .pop (nm 0)),
  .asg "key" (.tup [key (m0 (vr "rule") "lhs"),key (.sub (m0 (vr "rule") "rhs") (nm 0))]),
  .ite (.cmp .in_ (vr "key") (vr "seen")) [.cont] [],
  .expr (b1 (vr "seen") .add (vr "key")),
  .for_ ["item"] (.meth (vr "grammar") "productions" [] ["lhs"] [.sub (m0 (vr "rule") "rhs") (nm 0)]) [
   .asg "new_rule" (.new "Production" [m0 (vr "rule") "lhs",m0 (vr "item") "rhs"] [] []),
   .ite (.bools false [.cmp .ne (len (vr "new_rule")) (nm 1),m0 (vr "new_rule") "is_lexical"]) [.expr (b1 (vr "result") .append (vr "new_rule"))] [.expr (b1 (vr "unitary") .append (vr "new_rule"))]]],
 .asg "n_grammar" (.new "CFG" [m0 (vr "grammar") "start",.frz (vr "result")] [] []),
 .ret (vr "n_grammar")]
noncomputable def uC:List MS:=[
 .asg "result" (.lst true []),
 .for_ ["rule"] (m0 (vr "grammar") "productions") [
  .ite (.cmp .gt (len (m0 (vr "rule") "rhs")) (nm 2)) [
   .asg "left_side" (m0 (vr "rule") "lhs"),
   .for_ ["k"] (.bi .range [nm 0,.bin .sub (len (m0 (vr "rule") "rhs")) (nm 2)]) [
    .asg "tsym" (.sub (m0 (vr "rule") "rhs") (vr "k")),
    .asg "new_sym" (.new "Nonterminal" [.bin .add (.bin .add (m0 (vr "left_side") "symbol") (vr "padding")) (m0 (vr "tsym") "symbol")] [] []),
    .asg "new_production" (.new "Production" [vr "left_side",.tup [vr "tsym",vr "new_sym"]] [] []),
    .asg "left_side" (vr "new_sym"),
    .expr (b1 (vr "result") .append (vr "new_production"))],
   .asg "last_prd" (.new "Production" [vr "left_side",.slice (m0 (vr "rule") "rhs") (nm (-2)) .no] [] []),
   .expr (b1 (vr "result") .append (vr "last_prd"))]
   [.expr (b1 (vr "result") .append (vr "rule"))]],
 .asg "n_grammar" (.new "CFG" [m0 (vr "grammar") "start",.frz (vr "result")] [] []),
 .ret (vr "n_grammar")]
noncomputable def FJ:List MS:=[
 .asg "start" (m0 (vr "grammar") "start"),
 .asg "result" (.lst true []),
 .asg "need_to_add" nn,
 .for_ ["rule"] (m0 (vr "grammar") "productions") [
  .ite (.cmp .in_ (key (vr "start")) (.comp false (key (vr "n")) ["n"] (m0 (vr "rule") "rhs") .no [])) [.asg "need_to_add" tt] [],
  .expr (b1 (vr "result") .append (vr "rule"))],
 .ite (vr "need_to_add") [
  .asg "start" (.new "Nonterminal" [st "S0_SIGMA"] [] []),
  .expr (b1 (vr "result") .append (.new "Production" [vr "start",.lst false [m0 (vr "grammar") "start"]] [] [])),
  .asg "n_grammar" (.new "CFG" [vr "start",.frz (vr "result")] [] []),
  .ret (vr "n_grammar")] [],
 .ret (vr "grammar")]
noncomputable def CC:List MS:=[
 .asg "result" (.lst true []),
 .asg "dummy_nonterms" .dictNil,
 .for_ ["rule"] (m0 (vr "grammar") "productions") [
  .ite (.bools false [.not_ (m0 (vr "rule") "is_lexical"),.cmp .le (len (m0 (vr "rule") "rhs")) (nm 1)]) [.expr (b1 (vr "result") .append (vr "rule")),.cont] [],
  .asg "new_rhs" (.lst true []),
  .for_ ["item"] (m0 (vr "rule") "rhs") [
   .ite (.call "is_nonterminal" [vr "item"]) [.expr (b1 (vr "new_rhs") .append (vr "item"))] [
    .ite (.cmp .notin (vr "item") (vr "dummy_nonterms")) [
     .asg "sanitized_term" (b0 (vr "item") .upper),
     .asg "dummy_nonterm_symbol" (.fstr ["sanitized_term","padding","sanitized_term"]),
     .asgSub (vr "dummy_nonterms") (vr "item") (.new "Nonterminal" [vr "dummy_nonterm_symbol"] [] [])] [],
    .expr (b1 (vr "new_rhs") .append (.sub (vr "dummy_nonterms") (vr "item"))),
    .expr (b1 (vr "result") .append (.new "Production" [.sub (vr "dummy_nonterms") (vr "item")] ["rhs"] [.lst false [vr "item"]]))]],
  .expr (b1 (vr "result") .append (.new "Production" [m0 (vr "rule") "lhs",vr "new_rhs"] [] []))],
 .asg "n_grammar" (.new "CFG" [m0 (vr "grammar") "start",.frz (vr "result")] [] []),
 .ret (vr "n_grammar")]
noncomputable def vR:List (String×List String×List MS):=[
 ("Nonterminal.__init__",["self","symbol"],CB),
 ("Production.__init__",["self","lhs","rhs"],vH),
 ("_law_tape",["script"],Fv),
 ("_law_take",["tape","most"],Fw),
 ("_law_over",["known","word","items","start"],FD),
 ("_law_reach",["rules","word"],CA),
 ("_law_own",["rows"],Il),
 ("_law_grammar",["rules"],xW),
 ("_law_rows",["grammar"],Fy),
 ("_law_kind",["right"],FE),
 ("law",["script"],iC),
 ("is_nonterminal",["item"],FF),
 ("is_terminal",["item"],Iq),
 ("_key",["item"],Ip),
 ("transitive_closure",["graph"],xY),
 ("Nonterminal.symbol",["self"],A4),
 ("Production.lhs",["self"],Im),
 ("Production.rhs",["self"],Ik),
 ("Production.__len__",["self"],Io),
 ("Production.is_nonlexical",["self"],xU),
 ("Production.is_lexical",["self"],FA),
 ("CFG.__init__",["self","start","productions","calculate_leftcorners"],FG),
 ("CFG._calculate_indexes",["self"],xV),
 ("CFG._calculate_leftcorners",["self"],nI),
 ("CFG._calculate_grammar_forms",["self"],CF),
 ("CFG.start",["self"],Cz),
 ("CFG.productions",["self","lhs","rhs","empty"],nH),
 ("CFG.is_nonlexical",["self"],xX),
 ("CFG.is_nonempty",["self"],uB),
 ("CFG.is_binarised",["self"],sG),
 ("CFG.is_flexible_chomsky_normal_form",["self"],FH),
 ("CFG.is_chomsky_normal_form",["self"],CD),
 ("CFG.chomsky_normal_form",["self","new_token_padding","flexible"],Ir),
 ("CFG.remove_unitary_rules",["cls","grammar"],xT),
 ("CFG.binarize",["cls","grammar","padding"],uC),
 ("CFG.eliminate_start",["cls","grammar"],FJ),
 ("CFG.remove_mixed_rules",["cls","grammar","padding"],CC)]
noncomputable def bodies(f:String):Option (List String×List MS):=vR.lookup f
end Mine
end
section
namespace Mine
open PySem
namespace ST
open SetTable
def kH(xs:Array Nat):Prop:=∀i k:Nat,i<k→k<xs.size→xs.getD i 0<xs.getD k 0
theorem AG(xs:Array Nat){i d e:Nat}(h:i<xs.size):xs.getD i d=xs.getD i e:=by simp [h]
theorem go_succ(xs:Array Nat)(j f lo hi:Nat):below.go xs j (f+1) lo hi=if lo<hi then if xs.getD ((lo+hi)/2) j<j then below.go xs j f ((lo+hi)/2+1) hi else below.go xs j f lo ((lo+hi)/2) else lo:=by kernel_rfl
def Cut(xs:Array Nat)(j k:Nat):Prop:=k≤xs.size∧(∀i,i<k→xs.getD i 0<j)∧∀i,k≤i→i<xs.size→j≤xs.getD i 0
theorem yS{lo hi:Nat}(h:lo<hi):(lo+hi)/2<hi:=N.b8 h
theorem B8(xs:Array Nat)(j:Nat)(hr:kH xs)(fuel:Nat):∀(lo hi:Nat),lo≤hi→hi≤xs.size→hi-lo≤fuel→(∀i,i<lo→xs.getD i 0<j)→(∀i,hi≤i→i<xs.size→j≤xs.getD i 0)→Cut xs j (below.go xs j fuel lo hi):=by
 induction fuel with
 |zero =>
  intro lo hi h1 h2 h3 h4 h5
  have:lo=hi:=(N.a3 (N.d1 h3) h1)
  subst this
  exact ⟨h2,h4,h5⟩
 |succ fuel ih =>
  intro lo hi h1 h2 h3 h4 h5
  rw [go_succ]
  by_cases hl:lo<hi
  ·have hm:=Nat.lt_of_lt_of_le (yS hl) h2
   rw [if_pos hl,AG xs (e:=0) hm]
   by_cases hd:xs.getD ((lo+hi)/2) 0<j
   ·rw [if_pos hd]
    exact ih _ hi (Nat.succ_le_of_lt (yS hl)) h2 (N.c2 h3 hl) (fun i hi'=>(Nat.lt_or_eq_of_le (Nat.le_of_lt_succ hi')).elim (fun h=>Nat.lt_trans (hr i _ h hm) hd) fun e=>e▸hd) h5
   ·rw [if_neg hd]
    exact ih lo _ (N.b9 hl) (Nat.le_of_lt hm) (N.c1 h3 hl) h4 fun i hi' hs=>(Nat.lt_or_eq_of_le hi').elim (fun h=>Nat.le_of_lt (Nat.lt_of_le_of_lt (Nat.le_of_not_lt hd) (hr _ i h hs))) fun e=>e▸Nat.le_of_not_lt hd
  ·rw [if_neg hl]
   have:lo=hi:=Nat.le_antisymm h1 (N.b1 hl)
   subst this;exact ⟨h2,h4,h5⟩
theorem fN(xs:Array Nat)(j:Nat)(hr:kH xs):below xs j≤xs.size∧(∀i,i<below xs j→xs.getD i 0<j)∧∀i,below xs j≤i→i<xs.size→j≤xs.getD i 0 :=
 B8 xs j hr xs.size 0 xs.size (Nat.zero_le _) (Nat.le_refl _) (Nat.le_refl _) (fun i h=>by exact absurd ‹_› (Nat.not_lt_zero _)) (fun i h h'=>(N.f2 h h'))
theorem getD_some{xs:Array Nat}{i j:Nat}(h:xs[i]?=some j):i<xs.size∧xs.getD i 0=j:=by
 refine aL (Array.getElem?_eq_some_iff.mp h) fun h1 h2=>?_
 exact ⟨h1,by simp [h]⟩
theorem eX{xs:Array Nat}{i:Nat}(h:i<xs.size):xs[i]?=some (xs.getD i 0):=by
 simp [h]
theorem below_at{xs:Array Nat}{i j:Nat}(hr:kH xs)(h:xs[i]?=some j):below xs j=i:=by
 refine cX (getD_some h) fun h1 h2=>?_
 refine bG (fN xs j hr) fun b1 b2 b3=>?_
 rcases Nat.lt_trichotomy (below xs j) i with g | g | g
 ·have:=b3 _ (Nat.le_refl _) (Nat.lt_trans g h1)
  have:=hr _ _ g h1;exact N.f2 ‹_› (Nat.lt_of_lt_of_le this (Nat.le_of_eq h2))
 ·exact g
 ·have:=b2 i g;exact N.j8 this h2
theorem nV{t:SetTable}(hr:kH t.place){i j:Nat}(h:t.place[i]?=some j):t.slot j=.live i:=by
 dsimp only [slot]
 simp only [below_at hr h,h,beq_self_eq_true,if_true]
theorem tT{t:SetTable}(hd:t.dummies=#[]){j:Nat}(h:j∉t.place):t.slot j=.empty:=by
 dsimp only [slot]
 rw [if_neg]
 ·rw [if_neg]
  delta SetTable.has;refine (hd)▸?_;nofun
 ·intro e
  rw [beq_iff_eq] at e
  exact h (Array.mem_of_getElem? e)
noncomputable def o7(mask:Nat)(p:Probe):Probe:=if p.more>0 then { p with j:=p.j+1,more:=p.more-1 } else
 { p with j:=(leap mask p.i p.perturb).1,more:=runEnd mask (leap mask p.i p.perturb).1-(leap mask p.i p.perturb).1,i:=(leap mask p.i p.perturb).1,perturb:=(leap mask p.i p.perturb).2 }
noncomputable def startM(mask:Nat)(h:Int):Probe:={ j:=bits h%(mask+1),more:=runEnd mask (bits h%(mask+1))-bits h%(mask+1),i:=bits h%(mask+1),perturb:=bits h,dummy:=none }
noncomputable def path(mask:Nat)(h:Int):Nat→Probe
 |0=>startM mask h
 |n+1=>o7 mask (path mask h n)
theorem FZ(t:SetTable)(p:Probe):t.advance p=o7 t.mask p:=by
 delta advance o7;split<;>rfl
theorem Iz(t:SetTable)(h:Int):t.probeStart h=startM t.mask h:=rfl
theorem mO(mask:Nat)(h:Int):∀n,(path mask h n).dummy=none
 |0=>rfl
 |n+1=>by
  have:=mO mask h n
  dsimp only [path,o7];split<;>exact this
noncomputable def bB(mask:Nat)(h:Int):Nat→Nat×Nat
 |0=>(bits h%(mask+1),bits h)
 |r+1=>leap mask (bB mask h r).1 (bB mask h r).2
noncomputable def headOf(mask:Nat)(ip:Nat×Nat):Probe:={ j:=ip.1,more:=runEnd mask ip.1-ip.1,i:=ip.1,perturb:=ip.2,dummy:=none }
theorem cN(mask:Nat)(h:Int)(n:Nat)(ip:Nat×Nat)(hn:path mask h n=headOf mask ip):∀k,k≤runEnd mask ip.1-ip.1→path mask h (n+k)={ j:=ip.1+k,more:=runEnd mask ip.1-ip.1-k,i:=ip.1,perturb:=ip.2,dummy:=none }
 |0,_=>by exact hn
 |k+1,hk=>by
  have:=cN mask h n ip hn k (Nat.le_of_lt ‹_›)
  show o7 mask (path mask h (n+k))=_
  rw [this]
  delta o7
  rw [if_pos (by simp only;omega)]
  dsimp only [and_true,true_and]
  lia
theorem rt(mask:Nat)(h:Int)(n:Nat)(ip:Nat×Nat)(hn:path mask h n=headOf mask ip):path mask h (n+(runEnd mask ip.1-ip.1)+1)=headOf mask (leap mask ip.1 ip.2):=by
 have:=cN mask h n ip hn _ (Nat.le_refl _)
 show o7 mask (path mask h (n+(runEnd mask ip.1-ip.1)))=_
 rw [this]
 dsimp only [o7]
 rw [if_neg (by simp)]
 rfl
theorem wC(mask i:Nat):runEnd mask i-i≤9:=by delta runEnd;split<;>lia
theorem vn(mask:Nat)(h:Int):∀r,∃n,n≤10*r∧path mask h n=headOf mask (bB mask h r)
 |0=>⟨0,Nat.le_refl _,rfl⟩
 |r+1=>by
  refine ao (vn mask h r) fun n hn e=>?_
  refine ⟨_,?_,rt mask h n _ e⟩
  have:=wC mask (bB mask h r).1
  lia
theorem mL(mask:Nat)(h:Int):∀r,(bB mask h r).2=bits h/32^r
 |0=>(Nat.div_one _).symm
 |r+1=>by
  show (bB mask h r).2/32=_
  simp only [mL mask h r,Nat.div_div_eq_div_mul,Nat.pow_succ]
theorem Ct(h:Int):bits h<2^64:=by
 delta bits
 lia
theorem qw(mask:Nat)(h:Int)(r:Nat)(hr:13≤r):(bB mask h r).2=0:=by
 rw [mL]
 refine Nat.div_eq_of_lt (Nat.lt_of_lt_of_le (Ct h) ?_)
 calc 2^64≤32^13:=(of_decide_eq_true rfl)
  _≤32^r:=Nat.pow_le_pow_right (of_decide_eq_true rfl) hr
theorem uX(mask:Nat)(h:Int):∀r,(bB mask h r).1<mask+1
 |0=>Nat.mod_lt _ (Nat.succ_pos _)
 |r+1=>Nat.mod_lt _ (Nat.succ_pos _)
noncomputable def step(m i:Nat):Nat:=(i*5+1)%m
noncomputable def fS(m:Nat):Nat→Nat→Nat
 |0,i=>i
 |n+1,i=>fS m n (step m i)
theorem eY(m:Nat):∀a b i,fS m (a+b) i=fS m b (fS m a i)
 |0,b,i=>by rw [Nat.zero_add];rfl
 |a+1,b,i=>by rw [Nat.succ_add];exact eY m a b (step m i)
theorem iJ(mask:Nat)(h:Int)(r:Nat)(hr:13≤r):∀k,(bB mask h (r+k)).1=fS (mask+1) k (bB mask h r).1
 |0=>rfl
 |k+1=>by
  have e:fS (mask+1) (k+1) (bB mask h r).1=step (mask+1) (fS (mask+1) k (bB mask h r).1):=by
   rw [eY (mask+1) k 1];rfl
  simp only [e,←iJ mask h r hr k]
  show (leap mask (bB mask h (r+k)).1 (bB mask h (r+k)).2).1=_
  refine (qw mask h (r+k) (N.j6 hr))▸?_
  rfl
def cH(m:Nat):Prop:=m=7∨m=31∨m=127∨m=511
noncomputable def jI(m:Nat):Nat→Nat→List Nat
 |0,_=>[]
 |n+1,i=>i::jI m n (step m i)
theorem mQ(m:Nat):∀n i k,k<n→(jI m n i)[k]?=some (fS m k i)
 |0,_,_,h=>by exact absurd ‹_› (Nat.not_lt_zero _)
 |n+1,i,0,_=>rfl
 |n+1,i,k+1,h=>by exact mQ m n (step m i) k (Nat.le_of_succ_le_succ ‹_›)
theorem mP(m:Nat):∀n i,(jI m n i).length=n
 |0,_=>rfl
 |n+1,i=>congrArg Nat.succ (mP m n (step m i))
noncomputable def lM:List Nat→Nat→Nat
 |[],a=>a
 |x::xs,a=>lM xs (a|||(1<<<x))
theorem mZ:∀(l:List Nat) (a j:Nat),(lM l a).testBit j=true→a.testBit j=true∨j∈l
 |[],a,j,h=>.inl h
 |x::xs,a,j,h=>by
  rcases mZ xs _ j h with h | h
  ·rw [Nat.testBit_or] at h
   simp only [Bool.or_eq_true] at h
   refine h.elim (fun h=>?_) fun h=>?_
   ·exact .inl h
   ·right
    rw [Nat.one_shiftLeft,Nat.testBit_two_pow] at h
    simp at h;simp [h]
  ·exact .inr (List.mem_cons_of_mem _ h)
theorem full(m:Nat)(hm:lM (jI m m 0) 0=2^m-1)(j:Nat)(hj:j<m):∃k,k<m∧fS m k 0=j:=by
 rcases mZ _ _ _ (by rw [hm];simpa using hj) with h | h
 ·simp at h
 ·refine aL (List.mem_iff_getElem?.mp h) fun k hk=>?_
  have hlt:=by have:=(List.getElem?_eq_some_iff.mp hk).1;rwa [mP] at this
  rw [mQ m m 0 k hlt] at hk
  exact ⟨k,hlt,Option.some.inj hk⟩
theorem C4(m:Nat)(hm:lM (jI m m 0) 0=2^m-1)(h0:fS m m 0=0)(i j:Nat)(hi:i<m)(hj:j<m):∃k,k<m∧fS m k i=j:=by
 refine ao (full m hm i hi) fun a ha ea=>?_
 refine ao (full m hm j hj) fun b hb eb=>?_
 by_cases h:a≤b
 ·refine ⟨b-a,(N.i4 hb),?_⟩
  rw [←ea,←eY];rw [show a+(b-a)=b by exact N.c8 h];exact eb
 ·refine ⟨m-a+b,by omega,?_⟩
  rw [←ea,←eY,show a+(m-a+b)=m+b by omega,eY,h0];exact eb
theorem zd{mask:Nat}(h:cH mask):lM (jI (mask+1) (mask+1) 0) 0=2^(mask+1)-1∧fS (mask+1) (mask+1) 0=0:=by
 rcases h with rfl | rfl | rfl | rfl
 ·decide +kernel
 ·decide +kernel
 ·decide +kernel
 ·decide +kernel
theorem meets{mask:Nat}(hm:cH mask)(h:Int)(j:Nat)(hj:j≤mask):∃n,n<10*turns mask∧(path mask h n).j=j:=by
 refine cX (zd hm) fun c1 c2=>?_
 refine ao (C4 (mask+1) c1 c2 _ j (uX mask h 13) (Nat.succ_le_succ ‹_›)) fun k hk e=>?_
 rw [←iJ mask h 13 (Nat.le_refl _)] at e
 refine ao (vn mask h (13+k)) fun n hn ep=>?_
 refine ⟨n,by delta turns;lia,?_⟩
 rw [ep];exact e
end ST
end Mine
end
section
namespace Mine
open PySem
namespace ST
open SetTable
theorem least{P:Nat→Prop}[DecidablePred P]:∀n,P n→∃m,m≤n∧P m∧∀k,k<m→¬P k
 |0,h=>⟨0,Nat.le_refl _,h,fun k hk=>by exact absurd ‹_› (Nat.not_lt_zero _)⟩
 |n+1,h=>by
  by_cases e:∃k,k≤n∧P k
  ·refine ao e ?_;clear e;rintro k hk hp
   have:∀j,(∀k,k<j→¬P k)→j≤n+1→∃m,m≤n+1∧P m∧∀k,k<m→¬P k:=by
    intro j
    induction hj:n+1-j generalizing j with
    |zero=>intro hno hle;have:j=n+1:=(N.a3 hj hle);subst this;exact ⟨n+1,Nat.le_refl _,h,hno⟩
    |succ d ih =>
     intro hno hle
     by_cases hp:P j
     ·exact ⟨j,hle,hp,hno⟩
     ·refine ih (j+1) (N.a1 hj) (fun k hk=>?_) (Nat.succ_le_of_lt (N.a2 hj))
      by_cases hkj:k=j
      ·subst hkj;exact hp
      ·exact hno k (N.b3 hk hkj)
   exact this 0 (fun k hk=>by exact absurd ‹_› (Nat.not_lt_zero _)) (Nat.zero_le _)
  ·exact ⟨n+1,Nat.le_refl _,h,fun k hk hp=>e ⟨k,by exact Nat.le_of_succ_le_succ ‹_›,hp⟩⟩
structure Tab(t:SetTable)(hs:List Int):Prop where
 sz:t.place.size=hs.length
 dm:t.dummies=#[]
 mok:cH t.mask
 ri:kH t.place
 le:∀i,i<t.place.size→t.place.getD i 0≤t.mask
 re:∀i h,hs[i]?=some h→∃n,(path t.mask h n).j=t.place.getD i 0∧∀m,m<n→(path t.mask h m).j∈t.place
theorem mem_getD{xs:Array Nat}{j:Nat}:j∈xs↔∃i,i<xs.size∧xs.getD i 0=j:=by
 constructor
 ·intro h
  obtain ⟨i,hi,e⟩:=Array.mem_iff_getElem.mp h
  exact ⟨i,hi,by simp [hi,e]⟩
 ·rintro ⟨i,hi,e⟩
  refine Array.mem_iff_getElem.mpr ⟨i,hi,?_⟩
  simpa [hi] using e
theorem uY{xs:Array Nat}(hr:kH xs):∀i,i<xs.size→i≤xs.getD i 0
 |0,_=>Nat.zero_le _
 |i+1,h=>by
  have:=uY hr i (Nat.le_of_lt ‹_›)
  have:=hr i (i+1) (Nat.le_refl _) h
  exact N.b2 ‹_› (Nat.succ_le_of_lt this)
theorem xh{xs:Array Nat}(hr:kH xs){mask:Nat}(h:xs.size≤mask):∃j,j≤mask∧j∉xs:=by
 by_cases e:∃i,i<xs.size∧xs.getD i 0≠i
 ·refine ao e ?_;clear e;rintro n hn hne
  refine br (least (P:=fun i=>i<xs.size∧xs.getD i 0≠i) n ⟨hn,hne⟩) ?_;rintro i hi;refine fun h_=>cX h_ ?_;clear h_;rintro h1 h2 hmin
  refine ⟨i,(N.j9 h1 (Nat.le_succ_of_le h)),fun hm=>?_⟩
  refine ao (mem_getD.mp hm) fun k hk ek=>?_
  have hgt:=by have:=uY hr i h1;omega
  rcases Nat.lt_trichotomy k i with g | g | g
  ·exact hmin k g ⟨hk,by omega⟩
  ·cases g;solve_by_elim (maxDepth:=3) [Nat.le_trans,Nat.lt_of_lt_of_le,Nat.lt_of_le_of_lt,Nat.le_of_lt,Nat.ne_of_lt,Nat.ne_of_gt,Nat.succ_le_succ]
  ·have:=hr i k g hk;exact Nat.not_le_of_lt this (N.b4 ek hgt)
 ·refine ⟨xs.size,h,fun hm=>?_⟩
  refine ao (mem_getD.mp hm) fun k hk ek=>?_
  exact e ⟨k,hk,by omega⟩
theorem gH{t:SetTable}{hs:List Int}(T:Tab t hs)(hf:hs.length≤t.mask)(h:Int):∃n,n<10*turns t.mask∧(path t.mask h n).j∉t.place∧∀m,m<n→(path t.mask h m).j∈t.place:=by
 refine ao (xh T.ri ((T.sz)▸hf)) fun j hj hnot=>?_
 refine ao (meets T.mok h j hj) fun n hn e=>?_
 refine br (least (P:=fun n=>(path t.mask h n).j∉t.place) n ((e)▸hnot)) fun m hm h1 h2=>?_
 exact ⟨m,(Nat.lt_of_le_of_lt hm hn),h1,fun k hk=>Decidable.not_not.mp (h2 k hk)⟩
def yz(t:SetTable)(h:Int)(hashAt:Nat→Int)(m:Nat):Prop:=∀i,t.place[i]?=some (path t.mask h m).j→hashAt i≠h
theorem q9{t:SetTable}{hs:List Int}(T:Tab t hs){h:Int}{n0:Nat}(h1:(path t.mask h n0).j∉t.place)(h2:∀m,m<n0→(path t.mask h m).j∈t.place)(hashAt:Nat→Int){G:Prop}(fuel:Nat):∀n,n≤n0→n0-n<fuel →
  (probe.go t hashAt h fuel (path t.mask h n)=some (.empty (path t.mask h n0).j none)→(∀m,n≤m→m<n0→yz t h hashAt m)→G) →
  (∀m i,n≤m→m<n0→t.place[i]?=some (path t.mask h m).j→hashAt i=h→probe.go t hashAt h fuel (path t.mask h n)=some (.candidate (path t.mask h m).j i (path t.mask h (m+1)))→(∀m',n≤m'→m'<m→yz t h hashAt m')→G)→G:=by
 induction fuel with
 |zero=>exact fun n _ h=>absurd h (Nat.not_lt_zero _)
 |succ fuel ih =>
  intro n hn hf qe qh
  by_cases e:n=n0
  ·subst e
   refine qe ?_ fun m g1 g2=>N.f2 g1 g2
   dsimp only [probe.go]
   rw [tT T.dm h1,mO]
  ·have hlt:=N.d8 hn e
   refine aL (Array.mem_iff_getElem?.mp (h2 n hlt)) fun i hi=>?_
   have hstep:probe.go t hashAt h (fuel+1) (path t.mask h n)=if (hashAt i==h)=true then some (.candidate (path t.mask h n).j i (path t.mask h (n+1))) else probe.go t hashAt h fuel (path t.mask h (n+1)):=by
    conv=>lhs;dsimp only [probe.go]
    rw [nV T.ri hi]
    rfl
   by_cases he:hashAt i=h
   ·exact qh n i (Nat.le_refl _) hlt hi he (hstep.trans (if_pos (beq_iff_eq.mpr he))) fun m' g1 g2=>N.f2 g1 g2
   ·have hstep:=hstep.trans (if_neg fun e=>he (eq_of_beq e))
    have skip:∀m',n≤m'→¬n+1≤m'→yz t h hashAt m':=fun m' g1 g2 k hk=>by
     have:m'=n:=N.d6 g1 g2
     cases this;exact ((below_at T.ri hk).symm.trans (below_at T.ri hi))▸he
    exact ih (n+1) (Nat.succ_le_of_lt hlt) (N.a6 (Nat.le_refl n) hlt hf) (fun g1 g2=>qe (hstep.trans g1) fun m q1 q2=>if q:n+1≤m then g2 m q q2 else skip m q1 q)
     fun m k g1 g2 g3 g4 g5 g6=>qh m k (Nat.le_of_succ_le g1) g2 g3 g4 (hstep.trans g5) fun m' q1 q2=>if q:n+1≤m' then g6 m' q q2 else skip m' q1 q
theorem sM{α:Type}(xs:Array α)(p:Nat)(x:α):(insertAt xs p x).toList=xs.toList.take p++x::xs.toList.drop p:=toList_insertAt xs p x
noncomputable def insI{α:Type}(l:List α)(p:Nat)(x:α):List α:=l.take p++x::l.drop p
theorem jl{α:Type}{l:List α}{p:Nat}{x:α}(hp:p≤l.length)(i:Nat):(insI l p x)[i]?=if i<p then l[i]? else if i=p then some x else l[i-1]?:=by
 delta insI
 have hlen:(l.take p).length=p:=by simp;exact Nat.min_eq_left hp
 by_cases h1:i<p
 ·rw [if_pos h1,List.getElem?_append_left (N.b7 hlen h1)]
  exact (List.getElem?_take).trans (if_pos h1)
 ·rw [if_neg h1,List.getElem?_append_right (N.b4 hlen (N.b1 h1)),hlen]
  by_cases h2:i=p
  ·subst h2;simp
  ·refine (if_neg h2)▸?_
   obtain ⟨d,hd⟩:∃d,i-p=d+1:=⟨i-p-1,(N.e5 h1 h2)⟩
   simp only [hd,List.getElem?_cons_succ,List.getElem?_drop]
   congr 1;exact N.e6 h1 h2 hd
theorem l9{xs:Array Nat}{p j:Nat}(hp:p≤xs.size)(i:Nat):(insertAt xs p j).getD i 0=if i<p then xs.getD i 0 else if i=p then j else xs.getD (i-1) 0:=by
 rw [Array.getD_eq_getD_getElem?,(show (insertAt xs p j)[i]?=(insI xs.toList p j)[i]? from by rw [←Array.getElem?_toList,sM];rfl),(jl (l:=xs.toList) (x:=j) hp i)]
 split
 ·simp
 ·split
  ·rfl
  ·simp
theorem eN{α:Type}{xs:Array α}{p:Nat}{x:α}(hp:p≤xs.size):(insertAt xs p x).size=xs.size+1:=by
 rw [←Array.length_toList,sM];simp;exact N.c5 hp
theorem zP{xs:Array Nat}(hr:kH xs){j:Nat}(hj:j∉xs):kH (insertAt xs (below xs j) j):=by
 refine bG (fN xs j hr) fun b1 b2 b3=>?_
 have hlt:∀i,below xs j≤i→i<xs.size→j<xs.getD i 0:=fun i h1 h2=>by
  have:=b3 i h1 h2
  have:xs.getD i 0≠j:=fun e=>hj (mem_getD.mpr ⟨i,h2,e⟩)
  omega
 intro i k hik hk
 rw [eN b1] at hk
 simp only [l9 b1]
 by_cases h1:i<below xs j
 ·rw [if_pos h1]
  by_cases h2:k<below xs j
  ·rw [if_pos h2];exact hr i k hik (Nat.lt_of_lt_of_le h2 b1)
  ·rw [if_neg h2]
   by_cases h3:k=below xs j
   ·rw [if_pos h3];exact b2 i h1
   ·rw [if_neg h3];exact Nat.lt_trans (b2 i h1) (hlt _ (N.e3 h2 h3) (N.e8 hik hk))
 ·rw [if_neg h1,if_neg (by omega:¬k<below xs j),if_neg (by omega:¬k=below xs j)]
  by_cases h3:i=below xs j
  ·rw [if_pos h3];exact hlt _ (N.e9 hik h3) (by omega)
  ·rw [if_neg h3];exact hr _ _ (N.e7 hik h1 h3) (by omega)
theorem pS{xs:Array Nat}{p j k:Nat}(hp:p≤xs.size):k∈insertAt xs p j↔k=j∨k∈xs:=by
 rw [←Array.mem_toList_iff,sM]
 rw [List.mem_append,List.mem_cons]
 have e:k∈xs↔k∈xs.toList.take p∨k∈xs.toList.drop p:=by
  rw [←Array.mem_toList_iff,←List.mem_append,List.take_append_drop]
 simp only [e]
 constructor
 ·rintro (h | h | h)
  ·exact .inr (.inl h)
  ·exact .inl h
  ·exact .inr (.inr h)
 ·rintro (h | h | h)
  ·exact .inr (.inl h)
  ·exact .inl h
  ·exact .inr (.inr h)
theorem Tab.put{t:SetTable}{hs:List Int}(T:Tab t hs){h:Int}{n0:Nat}(hj:(path t.mask h n0).j≤t.mask)(h1:(path t.mask h n0).j∉t.place)(h2:∀m,m<n0→(path t.mask h m).j∈t.place) :
  (t.put (path t.mask h n0).j).2=below t.place (path t.mask h n0).j∧(t.put (path t.mask h n0).j).2≤hs.length∧(t.put (path t.mask h n0).j).1.mask=t.mask∧(t.put (path t.mask h n0).j).1.led=t.led∧(t.put (path t.mask h n0).j).1.moves=t.moves∧(t.put (path t.mask h n0).j).1.plain=t.plain ∧
   Tab (t.put (path t.mask h n0).j).1 (insI hs (t.put (path t.mask h n0).j).2 h):=by
 refine bG (fN t.place (path t.mask h n0).j T.ri) fun b1 b2 b3=>?_
 refine ⟨rfl,(T.sz)▸b1,rfl,rfl,rfl,rfl,?_⟩
 have hlen:=(T.sz)▸b1
 refine ⟨?_,?_,T.mok,?_,?_,?_⟩
 ·simp only [(show (t.put (path t.mask h n0).j).1.place=insertAt t.place (below t.place (path t.mask h n0).j) (path t.mask h n0).j from rfl),eN b1,T.sz]
  show hs.length+1=(insI hs (below t.place (path t.mask h n0).j) h).length
  delta insI;simp;exact Eq.symm (N.c5 hlen)
 ·show (if _ then _ else _)=_
  exact ((show SetTable.has t.dummies (path t.mask h n0).j=false from by refine (T.dm)▸?_;rfl))▸T.dm
 ·exact zP T.ri h1
 ·intro i hi
  rw [(show (t.put (path t.mask h n0).j).1.place=insertAt t.place (below t.place (path t.mask h n0).j) (path t.mask h n0).j from rfl)] at hi ⊢
  replace hi:=(eN b1)▸hi
  rw [l9 b1]
  split
  ·exact T.le _ (Nat.lt_of_lt_of_le ‹_› b1)
  ·split
   ·exact hj
   ·exact T.le _ (N.e4 ‹_› ‹_› hi)
 ·intro i g hg
  rw [(show (t.put (path t.mask h n0).j).1.place=insertAt t.place (below t.place (path t.mask h n0).j) (path t.mask h n0).j from rfl),(show (t.put (path t.mask h n0).j).1.mask=t.mask from rfl)]
  have hg':(insI hs (below t.place (path t.mask h n0).j) h)[i]?=some g:=hg
  rw [jl hlen] at hg'
  rw [l9 b1]
  split at hg'
  ·rename_i hlt
   rw [if_pos hlt]
   refine ao (T.re i g hg') fun n e1 e2=>?_
   exact ⟨n,e1,fun m hm=>(pS b1).mpr (.inr (e2 m hm))⟩
  ·rename_i hnl
   rw [if_neg hnl]
   split at hg'
   ·rename_i he
    rw [if_pos he]
    cases hg'
    exact ⟨n0,rfl,fun m hm=>(pS b1).mpr (.inr (h2 m hm))⟩
   ·rename_i hne
    rw [if_neg hne]
    refine ao (T.re (i-1) g hg') fun n e1 e2=>?_
    exact ⟨n,e1,fun m hm=>(pS b1).mpr (.inr (e2 m hm))⟩
end ST
end Mine
end
section
namespace Mine
open PySem
namespace ST
open SetTable
def occ(o:Array (Option Nat))(j:Nat):Prop:=o.getD j (some 0)≠none
noncomputable def runN(mask:Nat)(h:Int):Nat→Nat
 |0=>0
 |r+1=>runN mask h r+(runEnd mask (bB mask h r).1-(bB mask h r).1)+1
theorem fh(mask:Nat)(h:Int):∀r,path mask h (runN mask h r)=headOf mask (bB mask h r)
 |0=>rfl
 |r+1=>rt mask h _ _ (fh mask h r)
theorem wQ{mask:Nat}(hm:cH mask)(h:Int)(j:Nat)(hj:j≤mask):∃r,r<turns mask∧(bB mask h r).1=j:=by
 refine cX (zd hm) fun c1 c2=>?_
 refine ao (C4 (mask+1) c1 c2 _ j (uX mask h 13) (Nat.succ_le_succ ‹_›)) fun k hk e=>?_
 rw [←iJ mask h 13 (Nat.le_refl _)] at e
 exact ⟨13+k,by delta turns;lia,e⟩
theorem oA{mask:Nat}(h:Int)(o:Array (Option Nat)):∀(fuel r:Nat),(∃r',r≤r'∧r'<r+fuel∧¬occ o (bB mask h r').1)→(∀m,m<runN mask h r→occ o (path mask h m).j) →
  ∃m,layClean.free mask o fuel (bB mask h r).1 (bB mask h r).2=some (path mask h m).j∧¬occ o (path mask h m).j∧∀m',m'<m→occ o (path mask h m').j
 |0,r,⟨r',h1,h2,_⟩,_=>by omega
 |fuel+1,r,⟨r',h1,h2,h3⟩,hp=>by
  dsimp only [layClean.free]
  cases hf:(List.range (runEnd mask (bB mask h r).1+1-(bB mask h r).1)).find? (fun k=>(o.getD ((bB mask h r).1+k) (some 0)).isNone) with
  |some k =>
   rw [List.find?_range_eq_some] at hf
   refine bG hf fun g1 g2 g3=>?_
   have hle:(bB mask h r).1≤runEnd mask (bB mask h r).1:=by delta runEnd;split<;>omega
   have hk:k≤runEnd mask (bB mask h r).1-(bB mask h r).1:=by simp at g2;omega
   refine ⟨runN mask h r+k,by rw [((cN mask h (runN mask h r) (bB mask h r) (fh mask h r)) k hk)],?_,fun m' hm'=>?_⟩
   ·rw [((cN mask h (runN mask h r) (bB mask h r) (fh mask h r)) k hk)];dsimp only [occ];simpa using g1
   ·by_cases q:m'<runN mask h r
    ·exact hp m' q
    ·obtain ⟨d,rfl⟩:∃d,m'=runN mask h r+d:=⟨m'-runN mask h r,(N.i2 q)⟩
     simp only [(cN mask h (runN mask h r) (bB mask h r) (fh mask h r)) d (by omega)]
     have:=g3 d (by omega)
     intro e2
     rw [e2] at this;simp at this
  |none =>
   rw [List.find?_range_eq_none] at hf
   have hle:(bB mask h r).1≤runEnd mask (bB mask h r).1:=by delta runEnd;split<;>omega
   have hall:∀d,d≤runEnd mask (bB mask h r).1-(bB mask h r).1→occ o ((bB mask h r).1+d):=fun d hd=>by
    have:=hf d (by omega)
    delta occ;intro e2;rw [e2] at this;simp at this
   have hne:r'≠r:=by
    rintro rfl
    exact h3 (hall 0 (Nat.zero_le _))
   refine oA h o fuel (r+1) ⟨r',(N.d7 h1 hne),(N.d3 h2),h3⟩ fun m hm=>?_
   by_cases q:m<runN mask h r
   ·exact hp m q
   ·obtain ⟨d,rfl⟩:∃d,m=runN mask h r+d:=⟨m-runN mask h r,(N.i2 q)⟩
    have hd:d≤runEnd mask (bB mask h r).1-(bB mask h r).1:=by
     have:runN mask h (r+1)=runN mask h r+(runEnd mask (bB mask h r).1-(bB mask h r).1)+1:=rfl
     lia
    rw [(cN mask h (runN mask h r) (bB mask h r) (fh mask h r)) d hd];exact hall d hd
structure Own(mask:Nat)(o:Array (Option Nat))(hs:List Int):Prop where
 sz:o.size=mask+1
 lt:∀j i:Nat,o[j]?=some (some i)→i<hs.length
 re:∀i h,hs[i]?=some h→∃n,o[(path mask h n).j]?=some (some i)∧∀m,m<n→occ o (path mask h m).j
 inj:∀j j' i:Nat,o[j]?=some (some i)→o[j']?=some (some i)→j=j'
theorem lW{o:Array (Option Nat)}{j:Nat}(hj:j<o.size):occ o j↔∃i,o[j]?=some (some i):=by
 delta occ
 rw [Array.getD_eq_getD_getElem?,Array.getElem?_eq_getElem hj]
 simp only [Option.getD_some,Option.some.injEq]
 exact Option.ne_none_iff_exists'
theorem gC{α:Type}[DecidableEq α]:∀{l m:List α},l.Nodup→(∀z∈l,z∈m)→l.length≤m.length
 |[],_,_,_=>Nat.zero_le _
 |a::l,m,hn,hs=>by
  refine cX (List.nodup_cons.mp hn) fun h1 h2=>?_
  have:=gC (m:=m.erase a) h2 fun z hz=>(List.mem_erase_of_ne (by rintro rfl;exact h1 hz)).mpr (hs z (List.mem_cons_of_mem _ hz))
  simp only [List.length_erase_of_mem (hs a List.mem_cons_self)] at this
  have hp:=List.length_pos_of_mem (hs a List.mem_cons_self)
  simp only [List.length_cons];exact N.i1 this hp
theorem Own.room{mask:Nat}{o:Array (Option Nat)}{hs:List Int}(O:Own mask o hs)(h:hs.length≤mask):∃j,j≤mask∧¬occ o j:=by
 refine Classical.byContradiction fun hc=>?_
 have hf:∀j,∃i,j≤mask→o[j]?=some (some i):=fun j=>by
  by_cases hj:j≤mask
  ·refine aL ((fun j hj=>(lW ((O.sz)▸Nat.succ_le_succ ‹_›)).mp (Classical.byContradiction fun h=>hc ⟨j,hj,h⟩)) j hj) fun i hi=>?_;exact ⟨i,fun _=>hi⟩
  ·exact ⟨0,fun h=>absurd h hj⟩
 let f:=fun j=>Classical.choose (hf j)
 have hfs:∀j,j≤mask→o[j]?=some (some (f j)):=fun j=>Classical.choose_spec (hf j)
 have hn:((List.range (mask+1)).map f).Nodup:=by
  refine List.pairwise_map.mpr ?_
  have:=List.nodup_range (n:=mask+1)
  refine List.Pairwise.imp_of_mem ?_ this
  intro a b ha hb hne e
  have ha':=hfs a (by have:=List.mem_range.mp ha;exact Nat.le_of_succ_le_succ ‹_›)
  rw [e] at ha'
  exact hne (O.inj _ _ _ ha' (hfs b (by have:=List.mem_range.mp hb;exact Nat.le_of_succ_le_succ ‹_›)))
 have hsub:∀z∈(List.range (mask+1)).map f,z∈List.range hs.length:=fun z hz=>by
  refine ao (List.mem_map.mp hz) ?_;rintro j hj rfl
  exact List.mem_range.mpr (O.lt j _ (hfs j (by have:=List.mem_range.mp hj;exact Nat.le_of_succ_le_succ ‹_›)))
 have:=gC hn hsub
 simp at this;exact N.d5 this (Nat.lt_succ_of_le h)
theorem Own.add{mask:Nat}(hm:cH mask){o:Array (Option Nat)}{hs:List Int}(O:Own mask o hs)(hl:hs.length≤mask)(h:Int) :
  ∃j,layClean.free mask o (turns mask) (bits h%(mask+1)) (bits h)=some j∧Own mask (o.setIfInBounds j (some hs.length)) (hs++[h]):=by
 refine ao (O.room hl) fun j0 hj0 hno=>?_
 refine ao (wQ hm h j0 hj0) fun r hr er=>?_
 refine br (oA h o (turns mask) 0 ⟨r,Nat.zero_le _,(Nat.lt_of_lt_of_le hr (Nat.le_add_left (PySem.SetTable.turns mask) 0)),(er)▸hno⟩ (fun m hm=>by cases hm)) fun m e1 e2 e3=>?_
 refine ⟨_,e1,?_⟩
 have hj:(path mask h m).j<o.size:=by
  refine Classical.byContradiction fun hc=>e2 ?_
  delta occ
  rw [Array.getD_eq_getD_getElem?,Array.getElem?_eq_none (Nat.le_of_not_lt ‹_›)];decide
 have hnone:o[(path mask h m).j]?=some none:=by
  have:=fun h=>e2 ((lW hj).mpr h)
  rw [Array.getElem?_eq_getElem hj] at this ⊢
  cases hq:o[(path mask h m).j] with
  |none=>rfl
  |some i=>exact absurd ⟨i,(hq)▸rfl⟩ this
 have hset:∀j:Nat,(o.setIfInBounds (path mask h m).j (some hs.length))[j]?=if (path mask h m).j=j then some (some hs.length) else o[j]?:=fun j=>by
  rw [Array.getElem?_setIfInBounds]
  split
  ·rename_i e;rfl
  ·rfl
 have hocc:∀j,occ o j→occ (o.setIfInBounds (path mask h m).j (some hs.length)) j:=fun j hj'=>by
  delta occ at hj' ⊢
  rw [Array.getD_eq_getD_getElem?] at hj' ⊢
  rw [hset]
  split
  ·simp
  ·exact hj'
 refine ⟨by simp [O.sz],fun j i hi=>?_,fun i g hg=>?_,fun j j' i h1 h2=>?_⟩
 ·rw [hset] at hi
  split at hi
  ·cases hi;simp
  ·have:=O.lt j i hi;simp;exact Nat.lt_succ_of_lt ‹_›
 ·by_cases hi:i<hs.length
  ·rw [List.getElem?_append_left hi] at hg
   refine ao (O.re i g hg) fun n q1 q2=>?_
   refine ⟨n,?_,fun m' hm'=>hocc _ (q2 m' hm')⟩
   rw [hset,if_neg]
   ·exact q1
   ·intro e;simp only [←e,hnone] at q1;exact nomatch q1
  ·have hlt:=(List.getElem?_eq_some_iff.mp hg).1
   have:i=hs.length:=by simp at hlt;exact Nat.le_antisymm (Nat.le_of_lt_succ hlt) (N.b1 hi)
   subst this
   rw [List.getElem?_append_right (Nat.le_refl _)] at hg
   simp at hg;subst hg
   exact ⟨m,by rw [hset,if_pos rfl],fun m' hm'=>hocc _ (e3 m' hm')⟩
 ·rw [hset] at h1 h2
  split at h1
  ·rename_i q1
   split at h2
   ·rename_i q2;exact q1.symm.trans q2
   ·cases h1;have:=O.lt _ _ h2;omega
  ·split at h2
   ·cases h2;have:=O.lt _ _ h1;omega
   ·exact O.inj _ _ _ h1 h2
theorem Own.start(mask:Nat):Own mask (Array.replicate (mask+1) none) []:=by
 have h:∀j i:Nat,(Array.replicate (mask+1) (none:Option Nat))[j]?≠some (some i):=fun j i e=>by
  replace e:=(Array.getElem?_replicate).symm.trans e
  split at e<;>exact nomatch e
 exact ⟨by simp,fun j i e=>absurd e (h j i),fun i g e=>by injection e,fun j j' i e _=>absurd e (h j i)⟩
theorem yU{mask:Nat}(hm:cH mask):∀(rest done:List Int) (o:Array (Option Nat)),Own mask o done→(done++rest).length≤mask →
  ∃o',rest.foldl (fun acc h=>do let (owner,k) ←acc;let j ←layClean.free mask owner (turns mask) (bits h%(mask+1)) (bits h);pure (owner.setIfInBounds j (some k),k+1)) (some (o,done.length))=some (o',(done++rest).length)∧Own mask o' (done++rest)
 |[],done,o,O,_=>⟨o,by simp,by simpa using O⟩
 |h::rest,done,o,O,hl=>by
  refine ao (O.add hm (by simp at hl;exact N.j1 hl) h) fun j e O'=>?_
  refine ao (yU hm rest (done++[h]) _ O' (by simpa using hl)) fun o' e2 O2=>?_
  refine ⟨o',?_,by simpa using O2⟩
  rw [List.foldl_cons]
  have e3:(do let (owner,k) ←(some (o,done.length):Option (Array (Option Nat)×Nat));let j ←layClean.free mask owner (turns mask) (bits h%(mask+1)) (bits h);pure (owner.setIfInBounds j (some k),k+1))=some (o.setIfInBounds j (some done.length),(done++[h]).length):=by
   show (layClean.free mask o (turns mask) (bits h%(mask+1)) (bits h)).bind _=_
   rw [e];simp
  rw [e3,e2]
  simp
theorem se{mask:Nat}(hm:cH mask)(hs:Array Int)(hl:hs.size≤mask):∃o,layClean mask hs=some o∧Own mask o hs.toList:=by
 refine ao (yU hm hs.toList [] _ (Own.start mask) hl) fun o e O=>?_
 refine ⟨o,?_,by exact O⟩
 delta layClean
 rw [←Array.foldl_toList]
 have:(([]:List Int).length)=0:=rfl
 refine (e)▸?_;rfl
end ST
end Mine
end
section
namespace Mine
open PySem
namespace ST
open SetTable
theorem ko{mask i:Nat}(h:i≤mask):i≤runEnd mask i∧runEnd mask i≤mask:=by delta runEnd;split<;>lia
theorem u9(mask:Nat)(h:Int):∀n,(path mask h n).j+(path mask h n).more≤mask
 |0=>by
  have h1:bits h%(mask+1)≤mask:=Nat.le_of_lt_succ (Nat.mod_lt _ (Nat.succ_pos _))
  have:=ko h1
  dsimp only [path,startM];omega
 |n+1=>by
  have ih:=u9 mask h n
  simp only [path,o7]
  split
  ·simp only;exact N.i3 ih ‹_›
  ·have h1:(leap mask (path mask h n).i (path mask h n).perturb).1≤mask:=Nat.le_of_lt_succ (Nat.mod_lt _ (Nat.succ_pos _))
   have:=ko h1
   simp only;omega
theorem sY(mask:Nat)(h:Int)(n:Nat):(path mask h n).j≤mask:=by have:=u9 mask h n;exact N.f9 this
noncomputable def dI(mask:Nat)(o:Array (Option Nat)):List (Nat×Nat):=(List.range (mask+1)).filterMap fun j=>(o.getD j none).map (j,·)
theorem dK{mask:Nat}{o:Array (Option Nat)}(hs:o.size=mask+1){j i:Nat}:(j,i)∈dI mask o↔o[j]?=some (some i):=by
 delta dI
 simp only [List.mem_filterMap,List.mem_range,Option.map_eq_some_iff,Prod.mk.injEq]
 constructor
 ·rintro ⟨k,hk,i',h,rfl,rfl⟩
  replace h:=(Array.getD_eq_getD_getElem?).symm.trans h
  cases e:o[k]? with
  |none=>replace h:=(e)▸h;injection h
  |some x=>rw [e] at h;simp at h;exact (h)▸rfl
 ·intro h
  have hj:=(Array.getElem?_eq_some_iff.mp h).1
  exact ⟨j,(Nat.lt_of_lt_of_le hj (Nat.le_of_eq hs)),i,by rw [Array.getD_eq_getD_getElem?,h];rfl,rfl,rfl⟩
theorem oh(mask:Nat)(o:Array (Option Nat)):((dI mask o).map (·.1)).Pairwise (· < ·):=by
 delta dI
 simp only [List.map_filterMap]
 refine List.Pairwise.filterMap _ (R:=(· < ·)) (fun a a' h b hb b' hb'=>?_) (List.pairwise_lt_range (n:=mask+1))
 simp only [Option.map_map,Option.map_eq_some_iff,Function.comp] at hb hb'
 refine ao hb ?_;clear hb;rintro _ _ rfl
 refine ao hb' ?_;clear hb';rintro _ _ rfl
 exact h
theorem BG{l:List Nat}(h:l.Pairwise (· < ·)):kH l.toArray:=by
 intro i k hik hk
 simp only [List.size_toArray] at hk
 have:=List.pairwise_iff_getElem.mp h i k (Nat.lt_trans hik hk) hk hik
 simpa [hk,Nat.lt_trans hik hk] using this
theorem BY{mask:Nat}(hm:cH mask)(finger moves:Nat)(led plain:Bool)(hs:Array Int)(hl:hs.size≤mask) :
  ∃t' order,laid mask finger moves led plain hs=some (t',order)∧t'.mask=mask∧t'.led=led∧t'.plain=plain∧order.toList.Perm (List.range hs.size)∧Tab t' (order.toList.map fun i=>hs.getD i 0):=by
 refine ao (se hm hs hl) fun o e O=>?_
 refine ⟨{ mask,place:=((dI mask o).map (·.1)).toArray,dummies:=#[],finger,led,moves,plain },((dI mask o).map (·.2)).toArray,?_,rfl,rfl,rfl,?_,?_⟩
 ·show (layClean mask hs).bind _=_
  refine (e)▸?_;rfl
 ·refine (List.perm_ext_iff_of_nodup ?_ List.nodup_range).mpr fun i=>?_
  ·have hn:=oh mask o
   have h1:=List.pairwise_map.mp hn
   refine List.pairwise_map.mpr (List.Pairwise.imp_of_mem ?_ h1)
   intro a b ha hb hab e
   have ha':=(dK O.sz (j:=a.1) (i:=a.2)).mp ha
   rw [e] at ha'
   have:=O.inj _ _ _ ha' ((dK O.sz (j:=b.1) (i:=b.2)).mp hb)
   exact N.j8 hab this
  ·simp only [List.mem_map,List.mem_range]
   constructor
   ·refine fun h_=>ao h_ ?_;clear h_;rintro ⟨j,i'⟩ h rfl
    have:=O.lt j _ ((dK O.sz).mp h)
    exact this
   ·intro h
    have hg:=List.getElem?_eq_getElem h
    refine ao (O.re i _ hg) fun n h1 _=>?_
    exact ⟨((path mask (hs.toList[i]) n).j,i),(dK O.sz).mpr h1,rfl⟩
 ·refine ⟨by simp,rfl,hm,BG (oh mask o),fun i hi=>?_,fun i g hg=>?_⟩
  ·simp only [List.size_toArray,List.length_map] at hi
   have hx:=List.getElem?_eq_getElem hi
   have hmem:=(dK O.sz (j:=(dI mask o)[i].1) (i:=(dI mask o)[i].2)).mp (List.getElem_mem hi)
   have:=(Array.getElem?_eq_some_iff.mp hmem).1
   have e2:((dI mask o).map (·.1)).toArray.getD i 0=(dI mask o)[i].1:=by simp [hx]
   have:=O.sz
   simp only;exact N.b4 e2 (N.j9 ‹_› (Nat.le_of_eq this))
  ·simp only [List.map_map,List.getElem?_map,Option.map_eq_some_iff] at hg
   refine ao hg ?_;clear hg;rintro ⟨j,k⟩ hx rfl
   simp only [Function.comp]
   have hmem:=(dK O.sz).mp (List.mem_of_getElem? hx)
   have hgk:hs.toList[k]?=some (hs.getD k 0):=by
    simp [(show k<hs.size from by exact (O.lt j k hmem))]
   refine ao (O.re k _ hgk) fun n h1 h2=>?_
   refine ⟨n,?_,fun m hm'=>?_⟩
   ·simp only [(show ((dI mask o).map (·.1)).toArray.getD i 0=j from by simp [hx])];exact O.inj _ _ _ h1 hmem
   ·have hoc:=(lW (by simp only [O.sz];have:=sY mask (hs.getD k 0) m;exact Nat.succ_le_succ ‹_›)).mp (h2 m hm')
    refine aL hoc fun i' hi'=>?_
    have:=(dK O.sz).mpr hi'
    rw [List.mem_toArray,List.mem_map]
    exact ⟨_,this,rfl⟩
end ST
end Mine
end
section
namespace Mine
open PySem PyProof.Rows
open scoped Classical
noncomputable abbrev Obs:=Addr→Option Obj
noncomputable def sx(x:String):Str:=Str.ofString x
theorem yF(x:String):sx x=⟨(cps x).toArray⟩:=by
 show Str.ofString x=_
 delta Str.ofString;rw [cpsOfBytes_string]
theorem lD{x y:String}(h:sx x=sx y):x=y:=by
 simp only [yF] at h
 have h2:x.toList=y.toList:=by
  have hi:Function.Injective Char.toNat:=fun a b e=>by
   have:a.val.toNat=b.val.toNat:=e
   exact Char.ext (UInt32.toNat_inj.mp this)
  exact List.map_inj_right (fun a b e=>hi e) |>.mp (by simpa using h)
 exact String.ext h2
def NsO(o:Obj)(m:Str→Option Value):Prop:=∃es ep,o.data=.dict es ep∧StrKeys es∧∀n,nsFind es n=m n
noncomputable def fU(C dx:Addr):Obj:={ cls:=.ref C,dict:=some dx,data:=.plain }
noncomputable abbrev aD:Addr:=66
noncomputable abbrev bg:Addr:=155
noncomputable abbrev gg:Addr:=332
noncomputable def aM:String→Addr
 | "Nonterminal"=>aD
 | "Production"=>bg
 | "CFG"=>gg
 |_=>0
def dw(ι:Obs)(C:Addr)(v:Value)(m:Str→Option Value):Prop :=
 ∃a dx od,v=.ref a∧ι a=some (fU C dx)∧ι dx=some od∧od.ExactDict∧NsO od m
def nO(ι:Obs)(v:Value)(s:List Nat):Prop :=
 ∃m t,dw ι aD v m∧m (sx "_symbol")=some (.str ⟨s.toArray⟩ t)∧(∀c∈s,c<0x110000)∧∀x,x≠"_symbol"→m (sx x)=none
mutual
noncomputable def Rep(ι:Obs)(v:Value):V→Prop
 |.none=>v=.none
 |.bool b=>v=.bool b
 |.int i=>∃t,v=.int i t
 |.str l=>(∃t,v=.str ⟨l.toArray⟩ t)∧∀c∈l,c<0x110000
 |.tup vs=>∃a n items,v=.ref a∧ι a=some { cls:=.type "tuple",data:=.seq items n }∧az ι items.toList vs
 |.lst vs=>∃a n items,v=.ref a∧ι a=some { cls:=.type "list",data:=.seq items n }∧az ι items.toList vs
 |.arg vs=>∃a o n items,v=.ref a∧ι a=some o∧o.cls=.type "list"∧o.data=.seq items n∧az ι items.toList vs
 |.rng lo hi=>∃a t0 t1 t2,v=.ref a∧ι a=some { cls:=.type "range",data:=.fields #[.int lo t0,.int hi t1,.int 1 t2] }∧(0≤lo∧lo≤big)∧0≤hi∧hi≤big
 |.nt s=>nO ι v s
 |.prod l r=>∃m v1 a n items,dw ι bg v m∧m (sx "_lhs")=some v1∧nO ι v1 l∧m (sx "_rhs")=some (.ref a)∧ι a=some { cls:=.type "tuple",data:=.seq items n } ∧
   az ι items.toList r∧∀x,x≠"_lhs"→x≠"_rhs"→m (sx x)=none
 |.cls c=>v=.ref (aM c)
 |.ref a=>v=.ref a
noncomputable def az(ι:Obs)(l:List Value):List V→Prop
 |[]=>l=[]
 |x::xs=>∃v vs,l=v::vs∧Rep ι v x∧az ι vs xs
end
def Le(ι ι':Obs):Prop:=∀a o,ι a=some o→ι' a=some o
theorem Le.refl(ι:Obs):Le ι ι:=fun _ _ h=>h
theorem Le.trans{a b c:Obs}(x:Le a b)(y:Le b c):Le a c:=fun k o h=>y k o (x k o h)
theorem dw.mono{ι ι':Obs}(h:Le ι ι'){C v m}(x:dw ι C v m):dw ι' C v m :=
 kW x fun a dx od e h1 h2 r=>⟨a,dx,od,e,h _ _ h1,h _ _ h2,r⟩
theorem nO.mono{ι ι':Obs}(h:Le ι ι'){v s}(x:nO ι v s):nO ι' v s :=
 ez x fun m t h1 r=>⟨m,t,h1.mono h,r⟩
theorem az.iY{ι ι':Obs}{xs:List V}(h:∀x,x∈xs→∀v,Rep ι v x→Rep ι' v x):∀{l:List Value},az ι l xs→az ι' l xs:=by
 induction xs with
 |nil=>exact fun r=>r
 |cons x xs ih=>exact fun r=>aP r fun v vs e h1 h2=>⟨v,vs,e,h x List.mem_cons_self v h1,ih (fun y hy=>h y (List.mem_cons_of_mem _ hy)) h2⟩
theorem Rep.mono{ι ι':Obs}(h:Le ι ι'){v:Value}{x:V}:Rep ι v x→Rep ι' v x :=
 V.rec (motive_1:=fun x=>∀v,Rep ι v x→Rep ι' v x) (motive_2:=fun xs=>∀x,x∈xs→∀v,Rep ι v x→Rep ι' v x)
  (fun _ r=>r) (fun _ _ r=>r) (fun _ _ r=>r) (fun _ _ r=>r)
  (fun _ ih _ r=>bP r fun a n items e h1 h2=>⟨a,n,items,e,h _ _ h1,.iY ih h2⟩)
  (fun _ ih _ r=>bP r fun a n items e h1 h2=>⟨a,n,items,e,h _ _ h1,.iY ih h2⟩)
  (fun _ ih _ r=>Bc r fun a o n items e h1 h2 h3 h4=>⟨a,o,n,items,e,h _ _ h1,h2,h3,.iY ih h4⟩)
  (fun _ _ _ r=>vO r fun a t0 t1 t2 e h1 r=>⟨a,t0,t1,t2,e,h _ _ h1,r⟩)
  (fun _ _ r=>nO.mono h r)
  (fun _ _ ih _ r=>Dz r fun m v1 a n items h1 h2 h3 h4 h6 h9 h10=>⟨m,v1,a,n,items,h1.mono h,h2,h3.mono h,h4,h _ _ h6,.iY ih h9,h10⟩)
  (fun _ _ r=>r) (fun _ _ r=>r)
  (fun _ h=>xm h) (fun x xs h1 h2 y hy v r=>(List.mem_cons.mp hy).elim (fun e=>e▸h1 v (e▸r)) fun hy=>h2 y hy v r) x v
theorem az.mono{ι ι':Obs}(h:Le ι ι'){l:List Value}{xs:List V}(r:az ι l xs):az ι' l xs:=.iY (fun _ _ _ r=>r.mono h) r
theorem az.nil{ι:Obs}:az ι [] []:=rfl
theorem az.cons{ι:Obs}{v:Value}{x:V}{l xs}(h:Rep ι v x)(t:az ι l xs):az ι (v::l) (x::xs):=⟨v,l,rfl,h,t⟩
theorem az.one{ι:Obs}{v:Value}{x:V}(h:Rep ι v x):az ι [v] [x]:=.cons h .nil
theorem az.two{ι:Obs}{P:List Value→List V→Prop}(n:P [] [])(c:∀v x l xs,Rep ι v x→az ι l xs→P l xs→P (v::l) (x::xs)){xs:List V}:∀{l:List Value},az ι l xs→P l xs:=by
 induction xs with
 |nil=>exact fun r=>(show _=[] from r)▸n
 |cons x xs ih=>exact fun r=>aP r fun v vs e h1 h2=>e▸c v x vs xs h1 h2 (ih h2)
theorem az.length{ι:Obs}{l:List Value}{xs:List V}(r:az ι l xs):l.length=xs.length :=
 az.two (P:=fun l xs=>l.length=xs.length) rfl (fun _ _ _ _ _ _ ih=>congrArg Nat.succ ih) r
theorem az.get{ι:Obs}{l:List Value}{xs:List V}(r:az ι l xs){i:Nat}{x:V}(h:xs[i]?=some x):∃v,l[i]?=some v∧Rep ι v x :=
 az.two (P:=fun l xs=>∀i:Nat,xs[i]?=some x→∃v,l[i]?=some v∧Rep ι v x) (fun _ h=>nomatch h) (fun v y l xs h1 _ ih i h=>by
  cases i with
  |zero=>exact ⟨v,rfl,Option.some.inj h▸h1⟩
  |succ i=>exact ih i h) r i h
theorem az.append{ι:Obs}{l l':List Value}{xs xs':List V}(r:az ι l xs)(r':az ι l' xs'):az ι (l++l') (xs++xs') :=
 az.two (P:=fun l xs=>az ι (l++l') (xs++xs')) r' (fun _ _ _ _ h _ ih=>.cons h ih) r
theorem az.take{ι:Obs}{l:List Value}{xs:List V}(r:az ι l xs)(n:Nat):az ι (l.take n) (xs.take n) :=
 az.two (P:=fun l xs=>∀n,az ι (l.take n) (xs.take n)) (fun n=>by rw [List.take_nil,List.take_nil];rfl) (fun _ _ _ _ h _ ih n=>by
  cases n with
  |zero=>rfl
  |succ n=>exact .cons h (ih n)) r n
theorem az.drop{ι:Obs}{l:List Value}{xs:List V}(r:az ι l xs)(n:Nat):az ι (l.drop n) (xs.drop n) :=
 az.two (P:=fun l xs=>∀n,az ι (l.drop n) (xs.drop n)) (fun n=>by rw [List.drop_nil,List.drop_nil];rfl) (fun _ _ _ _ h t ih n=>by
  cases n with
  |zero=>exact .cons h t
  |succ n=>exact ih n) r n
theorem az.set{ι:Obs}{l:List Value}{xs:List V}(r:az ι l xs)(n:Nat){v:Value}{x:V}(h:Rep ι v x):az ι (l.set n v) (xs.set n x) :=
 az.two (P:=fun l xs=>∀n,az ι (l.set n v) (xs.set n x)) (fun n=>rfl) (fun _ _ _ _ h1 t ih n=>by
  cases n with
  |zero=>exact .cons h t
  |succ n=>exact .cons h1 (ih n)) r n
noncomputable def keyHash(w:World):V→Int
 |.str l=>hashStr w ⟨l.toArray⟩
 |.int i=>hashInt i
 |.tup vs=>reduceHash (Builtin.Tuple.tupleHashOf (keyHashes w vs))
 |_=>0
where keyHashes (w:World):List V→List Int
 |[]=>[]
 |v::vs=>keyHash w v::keyHashes w vs
def gy(w:World)(ι:Obs)(e:DictEntry)(p:V×V):Prop:=e.hash=keyHash w p.1∧Rep ι e.key p.1∧Rep ι e.val p.2
def iS(w:World)(ι:Obs)(e:Int×Value)(x:V):Prop:=e.1=keyHash w x∧Rep ι e.2 x
inductive aI{α β:Type}(R:α→β→Prop):List α→List β→Prop
 |nil:aI R [] []
 |cons {a b as bs}:R a b→aI R as bs→aI R (a::as) (b::bs)
theorem aI.mono{α β:Type}{R R':α→β→Prop}(h:∀a b,R a b→R' a b){as bs}(x:aI R as bs):aI R' as bs:=by
 induction x with
 |nil=>exact .nil
 |cons h1 _ ih=>exact .cons (h _ _ h1) ih
def uO(o:Obj)(f:String→Option V):Prop:=∃es ep,∃names:List String,o.data=.dict es ep∧es.size≤names.length∧names.Nodup∧∀n∈names,(f n).isSome=true
structure fX(w:World)(t:SetTable)(hs:List Int)(es:List V):Prop where
 nd:es.Nodup
 tab:ST.Tab t hs
 led:t.led = !(w.params.followText "set-order")
 kinds:((∀e∈es,isStr e=true)∧t.mask=7∧hs.length≤4)∨((∀e∈es,isTup e=true)∧hs.length≤cG+1∧hs.length*5<t.mask*3)
 fresh:hs=[]→t.mask=7
noncomputable def iy(w:World)(ι:Obs)(o:Obj):bL→Prop
 |.list vs=>∃items n,o={ cls:=.type "list",data:=.seq items n }∧az ι items.toList vs
 |.dict es ep=>o.ExactDict∧∃en,o.data=.dict en ep∧aI (gy w ι) en.toList es∧(es.map (·.1)).Nodup ∧
   ((∀e∈es,isStr e.1=true)∨∀e∈es,isAtoms e.1=true)
 |.set es k=>o.ExactSet∧∃en,o.data=.set en k.1 k.2∧aI (iS w ι) en.toList es∧fX w k.2 (en.toList.map (·.1)) es
 |.inst c dx=>(c="CFG"∨c="Nonterminal"∨c="Production")∧o=fU (aM c) dx
 |.attrs f=>o.ExactDict∧uO o f∧∃m,NsO o m∧∀x,match f x with
   |some y=>anyAttr x=true∧∃v,m (sx x)=some v∧Rep ι v y
   |none=>m (sx x)=none
theorem gy.mono{w:World}{ι ι':Obs}(h:Le ι ι'){e p}(x:gy w ι e p):gy w ι' e p:=⟨x.1,x.2.1.mono h,x.2.2.mono h⟩
theorem iS.mono{w:World}{ι ι':Obs}(h:Le ι ι'){e p}(x:iS w ι e p):iS w ι' e p:=⟨x.1,x.2.mono h⟩
theorem iy.mono{w:World}{ι ι':Obs}(h:Le ι ι'){o:Obj}:∀{x:bL},iy w ι o x→iy w ι' o x
 |.list vs,⟨items,n,e,r⟩=>⟨items,n,e,r.mono h⟩
 |.dict es ep,⟨h1,en,h2,h3,r⟩=>⟨h1,en,h2,h3.mono fun _ _ x=>x.mono h,r⟩
 |.set es k,⟨h1,en,h2,h4,r⟩=>⟨h1,en,h2,h4.mono fun _ _ x=>x.mono h,r⟩
 |.inst c dx,e=>e
 |.attrs f,⟨h1,hf,m,h2,h3⟩=>⟨h1,hf,m,h2,fun x=>by
  have:=h3 x
  split<;>rename_i hx<;>simp only [hx] at this
  ·obtain ⟨h0,v,h4,h5⟩:=this;exact ⟨h0,v,h4,h5.mono h⟩
  ·exact this⟩
structure Base where
 w:World
 os:OsState
 tabs:List (Addr×Addr×Array Value)
 obs:Obs
 aZ:W.Frag
 inK:∀a o,aZ.lookup a=some o→obs a=some o
 tabsIn:∀c P ps,(c,P,ps)∈tabs→obs c≠none
 codes:∀c o,aZ.lookup c=some o→o.cls=.type "code"→∃P ps,(c,P,ps)∈tabs
 sys:obs sysModules≠none
 lim:∃o m,obs cStatics=some o∧NsO o m∧m "sys.recursionlimit"=none
inductive dU(h:Heap)(c P:Addr)(ps:Array Value):Prop
 |mk {o:Obj} {vs:Array Value} {file:Str} {tf tg tt:Tok} {flags text:Int} {inF:Bool} (ho:h.get? c=some o) (hc:o.cls=.type "code") (hd:o.data=.fields vs) (h11:vs[11]?=some (.ref P)) (h18:vs.getD 18 .none=.str file tf) (h7:vs.getD 7 .none=.int flags tg) (h9:vs.getD 9 .none=.bool inF) (h10:vs.getD 10 .none=.int text tt) (hP:h.get? P=some { cls:=.none,data:=.fields ps }) (tri:TriplesOk ps.toList) (ne:c≠P)
section
variable{h h':Heap}{c P:Addr}{ps:Array Value}
theorem dU.mono(k:dU h c P ps)(hc:∀o,h.get? c=some o→h'.get? c=some o)(hP:∀o,h.get? P=some o→h'.get? P=some o):dU h' c P ps:=by
 cases k with | mk a b d e f g i j k l m=>exact .mk (hc _ a) b d e f g i j (hP _ k) l m
theorem dU.at_(k:dU h c P ps):h.get? P=some { cls:=.none,data:=.fields ps }:=by
 cases k with | mk a b d e f g i j k l m=>exact k
theorem dU.table(k:dU h c P ps):h.TableAt c P ps:=by
 cases k with | mk a b d e f g i j k l m=>exact ⟨⟨_,_,a,b,d,e⟩,k⟩
theorem dU.data(k:dU h c P ps){G:Prop}(q:∀o vs,h.get? c=some o→o.data=.fields vs→G):G:=by
 cases k with | mk a b d e f g i j k l m=>exact q _ _ a d
theorem dU.grow(k:dU h c P ps){old x:Array Value}(ho:h.get? P=some { cls:=.none,data:=.fields old })(hc:∀o,h.get? c=some o→h'.get? c=some o)(hn:h'.get? P=some { cls:=.none,data:=.fields (old++x) })(tr:∀l,TriplesOk l→TriplesOk (l++x.toList)):dU h' c P (ps++x):=by
 have e:=Data.fields.inj (Obj.mk.inj (Option.some.inj (ho.symm.trans k.at_))).2.2.1
 subst e
 cases k with | mk a b d e f g i j k l m=>exact .mk (hc _ a) b d e f g i j hn (Array.toList_append▸tr _ l) m
end
structure Inv(B:Base)(γ:Array GenState)(φ ι:Obs)(H:Hp)(s:Shared):Prop where
 data:∀a o,ι a=some o→s.heap.get? a=some o
 fr:∀a o,φ a=some o→s.heap.get? a=some o
 objs:∀a x,H a=some x→∃o,s.heap.get? a=some o∧iy B.w ι o x
 dfr:∀a,ι a≠none→φ a=none
 dob:∀a,ι a≠none→H a=none
 fob:∀a,φ a≠none→H a=none
 base:Le B.obs ι
 tab:∀c P ps,(c,P,ps)∈B.tabs→∃more,dU s.heap c P (ps++more)
 tdis:∀c P ps,(c,P,ps)∈B.tabs→ι P=none∧φ P=none∧H P=none
 gens:∃l,AllBare l∧s.gens=γ++l
 os:s.os=B.os
end Mine
end
section
namespace Mine
open PySem PyProof.Rows
open scoped Classical
noncomputable def bh(ι:Obs)(a:Addr)(o:Obj):Obs:=fun b=>if b=a then some o else ι b
theorem af(ι:Obs)(a:Addr)(o:Obj):bh ι a o a=some o:=by exact if_pos rfl
theorem ak{ι:Obs}{a b:Addr}{o:Obj}(h:b≠a):bh ι a o b=ι b:=by exact if_neg h
theorem Le.add{ι:Obs}{a:Addr}{o:Obj}(h:ι a=none):Le ι (bh ι a o):=fun b x e=>by
 have:b≠a:=by rintro rfl;replace e:=(h).symm.trans e;injection e
 exact (ak this)▸e
section
variable{B:Base}{γ:Array GenState}{φ ι:Obs}{H:Hp}{s:Shared}
structure New(B:Base)(φ ι:Obs)(H:Hp)(a:Addr):Prop where
 i:ι a=none
 f:φ a=none
 h:H a=none
 t:∀c P ps,(c,P,ps)∈B.tabs→P≠a
namespace Inv
theorem new(I:Inv B γ φ ι H s){a:Addr}(h:s.heap.objs.size≤a):New B φ ι H a where
 i:=by cases e:ι a with
  |none=>rfl
  |some o=>exact absurd (Heap.lt_size (I.data a o e)) (Nat.not_lt.mpr h)
 f:=by cases e:φ a with
  |none=>rfl
  |some o=>exact absurd (Heap.lt_size (I.fr a o e)) (Nat.not_lt.mpr h)
 h:=by cases e:H a with
  |none=>rfl
  |some o=>refine ao (I.objs a o e) fun x hx _=>?_;exact absurd (Heap.lt_size hx) (Nat.not_lt.mpr h)
 t:=fun c P ps hm e=>by
  refine aL (I.tab c P ps hm) fun more k=>?_
  subst e;exact Nat.not_lt.mpr h (Heap.lt_size k.at_)
theorem same(I:Inv B γ φ ι H s){s':Shared}(h:s'.heap=s.heap)(g:s'.gens=s.gens)(o:s'.os=s.os):Inv B γ φ ι H s' where
 data:=(h)▸I.data
 fr:=(h)▸I.fr
 objs:=(h)▸I.objs
 dfr:=I.dfr
 dob:=I.dob
 fob:=I.fob
 base:=I.base
 tab:=(h)▸I.tab
 tdis:=I.tdis
 gens:=(g)▸I.gens
 os:=o.trans I.os
theorem keep(I:Inv B γ φ ι H s){s':Shared}(hk:∀b o,s.heap.get? b=some o→s'.heap.get? b=some o)(g:s'.gens=s.gens)(o:s'.os=s.os):Inv B γ φ ι H s' where
 data:=fun a o e=>hk _ _ (I.data a o e)
 fr:=fun a o e=>hk _ _ (I.fr a o e)
 objs:=fun a x e=>let ⟨o,h1,h2⟩:=I.objs a x e;⟨o,hk _ _ h1,h2⟩
 dfr:=I.dfr
 dob:=I.dob
 fob:=I.fob
 base:=I.base
 tab:=fun c P ps hm=>(I.tab c P ps hm).imp fun _ k=>k.mono (hk _) (hk _)
 tdis:=I.tdis
 gens:=(g)▸I.gens
 os:=o.trans I.os
theorem note(I:Inv B γ φ ι H s){a:Addr}{o:Obj}(n:New B φ ι H a)(h:s.heap.get? a=some o):Inv B γ φ (bh ι a o) H s where
 data:=fun b x e=>by
  by_cases hb:b=a
  ·subst hb;rw [af] at e;cases e;exact h
  ·replace e:=(ak hb).symm.trans e;exact I.data b x e
 fr:=I.fr
 objs:=fun b x e=>let ⟨y,h1,h2⟩:=I.objs b x e;⟨y,h1,h2.mono (Le.add n.i)⟩
 dfr:=fun b hb=>by
  by_cases e:b=a
  ·subst e;exact n.f
  ·rw [ak e] at hb;exact I.dfr b hb
 dob:=fun b hb=>by
  by_cases e:b=a
  ·subst e;exact n.h
  ·rw [ak e] at hb;exact I.dob b hb
 fob:=I.fob
 base:=I.base.trans (Le.add n.i)
 tab:=I.tab
 tdis:=fun c P ps hm=>let ⟨h1,h2,h3⟩:=I.tdis c P ps hm;⟨(ak (n.t c P ps hm))▸h1,h2,h3⟩
 gens:=I.gens
 os:=I.os
theorem own(I:Inv B γ φ ι H s){a:Addr}{o:Obj}{x:bL}(n:New B φ ι H a)(h:s.heap.get? a=some o)(r:iy B.w ι o x):Inv B γ φ ι (upd H a x) s where
 data:=I.data
 fr:=I.fr
 objs:=fun b y e=>by
  by_cases hb:b=a
  ·subst hb;simp only [upd,if_true,Option.some.injEq] at e;subst e;exact ⟨o,h,r⟩
  ·rw [upd,if_neg hb] at e;exact I.objs b y e
 dfr:=I.dfr
 dob:=fun b hb=>by
  by_cases e:b=a
  ·subst e;exact absurd n.i hb
  ·simp only [upd,if_neg e];exact I.dob b hb
 fob:=fun b hb=>by
  by_cases e:b=a
  ·subst e;exact absurd n.f hb
  ·simp only [upd,if_neg e];exact I.fob b hb
 base:=I.base
 tab:=I.tab
 tdis:=fun c P ps hm=>let ⟨h1,h2,h3⟩:=I.tdis c P ps hm;⟨h1,h2,by rw [upd,if_neg (n.t c P ps hm)];exact h3⟩
 gens:=I.gens
 os:=I.os
theorem Du(I:Inv B γ φ ι H s){a:Addr}{x:bL}(h:H a=some x):φ a=none:=by
 cases e:φ a with
 |none=>rfl
 |some o=>have:=I.fob a ((e)▸Option.some_ne_none _);replace this:=(h).symm.trans this;contradiction
theorem nj(I:Inv B γ φ ι H s){a:Addr}{x:bL}(h:H a=some x):ι a=none:=by
 cases e:ι a with
 |none=>rfl
 |some o=>have:=I.dob a ((e)▸Option.some_ne_none _);replace this:=(h).symm.trans this;contradiction
theorem qR(I:Inv B γ φ ι H s){a:Addr}(h:ι a≠none∨φ a≠none∨H a≠none){c P ps}(hm:(c,P,ps)∈B.tabs):P≠a:=by
 rintro rfl
 refine bG (I.tdis c P ps hm) fun h1 h2 h3=>?_
 rcases h with h | h | h<;>contradiction
theorem lK(I:Inv B γ φ ι H s){a c P ps}(hm:(c,P,ps)∈B.tabs)(h:φ a≠none∨H a≠none):c≠a∧P≠a:=by
 refine ⟨?_,I.qR (.inr h) hm⟩
 rintro rfl
 cases e:B.obs c with
 |none=>exact (B.tabsIn c P ps hm) e
 |some o =>
  have h2:=(I.base _ _ e)▸Option.some_ne_none _
  refine h.elim (fun h=>?_) fun h=>?_
  ·exact h (I.dfr c h2)
  ·exact h (I.dob c h2)
theorem change(I:Inv B γ φ ι H s){s':Shared}{a:Addr}{o:Obj}{x₀ x:bL}(h₀:H a=some x₀)(hs:Heap.SameBut a s.heap s'.heap)(h:s'.heap.get? a=some o)(r:iy B.w ι o x)
  (g:s'.gens=s.gens) (os:s'.os=s.os):Inv B γ φ ι (upd H a x) s' where
 data:=fun b y e=>(hs.2 b (by rintro rfl;replace e:=(I.nj h₀).symm.trans e;injection e)).trans (I.data b y e)
 fr:=fun b y e=>(hs.2 b (by rintro rfl;replace e:=(I.Du h₀).symm.trans e;injection e)).trans (I.fr b y e)
 objs:=fun b y e=>by
  by_cases hb:b=a
  ·subst hb;simp only [upd,if_true,Option.some.injEq] at e;subst e;exact ⟨o,h,r⟩
  ·rw [upd,if_neg hb] at e
   refine ao (I.objs b y e) fun z h1 h2=>?_
   exact ⟨z,(hs.2 b hb).trans h1,h2⟩
 dfr:=I.dfr
 dob:=fun b hb=>by
  by_cases e:b=a
  ·subst e;exact absurd (I.nj h₀) hb
  ·simp only [upd,if_neg e];exact I.dob b hb
 fob:=fun b hb=>by
  by_cases e:b=a
  ·subst e;exact absurd (I.Du h₀) hb
  ·simp only [upd,if_neg e];exact I.fob b hb
 base:=I.base
 tab:=fun c P ps hm=>have n:=I.lK hm (a:=a) (.inr (h₀▸Option.some_ne_none _));(I.tab c P ps hm).imp fun _ k=>k.mono (fun _ e=>(hs.2 c n.1).trans e) fun _ e=>(hs.2 P n.2).trans e
 tdis:=fun c P ps hm=>let ⟨h1,h2,h3⟩:=I.tdis c P ps hm;⟨h1,h2,by
  have:=I.qR (a:=a) (.inr (.inr (by rw [h₀];exact Option.some_ne_none _))) hm
  simp only [upd,if_neg this];exact h3⟩
 gens:=(g)▸I.gens
 os:=os.trans I.os
theorem settle(I:Inv B γ φ ι H s){a:Addr}{o:Obj}{x:bL}(h:H a=some x)(ho:s.heap.get? a=some o):Inv B γ φ (bh ι a o) (del H a) s where
 data:=fun b y e=>by
  by_cases hb:b=a
  ·subst hb;rw [af] at e;cases e;exact ho
  ·replace e:=(ak hb).symm.trans e;exact I.data b y e
 fr:=I.fr
 objs:=fun b y e=>by
  by_cases hb:b=a
  ·subst hb;simp [del] at e
  ·rw [del,if_neg hb] at e
   refine ao (I.objs b y e) fun z h1 h2=>?_
   exact ⟨z,h1,h2.mono (Le.add (I.nj h))⟩
 dfr:=fun b hb=>by
  by_cases e:b=a
  ·subst e;exact I.Du h
  ·rw [ak e] at hb;exact I.dfr b hb
 dob:=fun b hb=>by
  by_cases e:b=a
  ·subst e;exact if_pos rfl
  ·simp only [del,if_neg e];rw [ak e] at hb;exact I.dob b hb
 fob:=fun b hb=>by
  by_cases e:b=a
  ·subst e;exact if_pos rfl
  ·simp only [del,if_neg e];exact I.fob b hb
 base:=I.base.trans (Le.add (I.nj h))
 tab:=I.tab
 tdis:=fun c P ps hm=>let ⟨h1,h2,h3⟩:=I.tdis c P ps hm;by
  exact ⟨by rw [ak (I.qR (a:=a) (.inr (.inr (by rw [h];exact Option.some_ne_none _))) hm)];exact h1,h2,by rw [del,if_neg (I.qR (a:=a) (.inr (.inr (by rw [h];exact Option.some_ne_none _))) hm)];exact h3⟩
 gens:=I.gens
 os:=I.os
theorem frame(I:Inv B γ φ ι H s){s':Shared}{a:Addr}{o₀ o:Obj}(h₀:φ a=some o₀)
  (hs:Heap.SameBut a s.heap s'.heap) (h:s'.heap.get? a=some o)
  (g:s'.gens=s.gens) (os:s'.os=s.os):Inv B γ (bh φ a o) ι H s':=by
 have nd:ι a=none:=by
  cases e:ι a with
  |none=>rfl
  |some o=>have:=I.dfr a ((e)▸Option.some_ne_none _);replace this:=(h₀).symm.trans this;contradiction
 have nh:=I.fob a ((h₀)▸Option.some_ne_none _)
 exact {
  data:=fun b y e=>(hs.2 b (by rintro rfl;replace e:=(nd).symm.trans e;injection e)).trans (I.data b y e)
  fr:=fun b y e=>by
   by_cases hb:b=a
   ·subst hb;rw [af] at e;cases e;exact h
   ·replace e:=(ak hb).symm.trans e;exact (hs.2 b hb).trans (I.fr b y e)
  objs:=fun b y e=>by
   refine ao (I.objs b y e) fun z h1 h2=>?_
   exact ⟨z,(hs.2 b (by rintro rfl;replace e:=(nh).symm.trans e;injection e)).trans h1,h2⟩
  dfr:=fun b hb=>by
   have:b≠a:=by rintro rfl;exact hb nd
   exact (ak this)▸I.dfr b hb
  dob:=I.dob
  fob:=fun b hb=>by
   by_cases e:b=a
   ·subst e;exact nh
   ·replace hb:=(ak e)▸hb;exact I.fob b hb
  base:=I.base
  tab:=fun c P ps hm=>have n:=I.lK hm (a:=a) (.inl ((h₀)▸Option.some_ne_none _));(I.tab c P ps hm).imp fun _ k=>k.mono (fun _ e=>(hs.2 c n.1).trans e) fun _ e=>(hs.2 P n.2).trans e
  tdis:=fun c P ps hm=>let ⟨h1,h2,h3⟩:=I.tdis c P ps hm;⟨h1,by
   have:=I.qR (a:=a) (.inr (.inl ((h₀)▸Option.some_ne_none _))) hm
   exact (ak this)▸h2,h3⟩
  gens:=(g)▸I.gens
  os:=os.trans I.os }
theorem yl(I:Inv B γ φ ι H s){a:Addr}{o:Obj}(n:New B φ ι H a)(h:s.heap.get? a=some o):Inv B γ (bh φ a o) ι H s where
 data:=I.data
 fr:=fun b x e=>by
  by_cases hb:b=a
  ·subst hb;rw [af] at e;cases e;exact h
  ·replace e:=(ak hb).symm.trans e;exact I.fr b x e
 objs:=I.objs
 dfr:=fun b hb=>by
  have:b≠a:=by rintro rfl;exact hb n.i
  rw [ak this];exact I.dfr b hb
 dob:=I.dob
 fob:=fun b hb=>by
  by_cases e:b=a
  ·subst e;exact n.h
  ·rw [ak e] at hb;exact I.fob b hb
 base:=I.base
 tab:=I.tab
 tdis:=fun c P ps hm=>let ⟨h1,h2,h3⟩:=I.tdis c P ps hm;⟨h1,by rw [ak (n.t c P ps hm)];exact h2,h3⟩
 gens:=I.gens
 os:=I.os
theorem less(I:Inv B γ φ ι H s){φ':Obs}(h:Le φ' φ):Inv B γ φ' ι H s:=by
 have hn:∀a,φ a=none→φ' a=none:=fun a e=>by
  cases e':φ' a with
  |none=>rfl
  |some o=>have:=h a o e';replace this:=(e).symm.trans this;contradiction
 exact {
  data:=I.data
  fr:=fun a o e=>I.fr a o (h a o e)
  objs:=I.objs
  dfr:=fun a e=>hn a (I.dfr a e)
  dob:=I.dob
  fob:=fun a e=>I.fob a fun e'=>e (hn a e')
  base:=I.base
  tab:=I.tab
  tdis:=fun c P ps hm=>let ⟨h1,h2,h3⟩:=I.tdis c P ps hm;⟨h1,hn _ h2,h3⟩
  gens:=I.gens
  os:=I.os }
theorem leave(I:Inv B γ φ ι H s){φ₀:Obs}{s':Shared}{a:Addr}(hl:Le φ₀ φ)(h₀:φ₀ a=none)(hf:φ a≠none)(hx:Heap.ExtBut a s.heap s'.heap)(g:s'.gens=s.gens)(os:s'.os=s.os):Inv B γ φ₀ ι H s':=by
 have I0:=I.less hl
 have nd:ι a=none:=by
  cases e:ι a with
  |none=>rfl
  |some o=>exact absurd (I.dfr a ((e)▸Option.some_ne_none _)) hf
 have nh:=I.fob a hf
 exact {
  data:=fun b o e=>hx b o (by rintro rfl;replace e:=(nd)▸e;injection e) (I0.data b o e)
  fr:=fun b o e=>hx b o (by rintro rfl;replace e:=(h₀).symm.trans e;injection e) (I0.fr b o e)
  objs:=fun b y e=>let ⟨z,h1,h2⟩:=I0.objs b y e;⟨z,hx b z (by rintro rfl;replace e:=(nh).symm.trans e;injection e) h1,h2⟩
  dfr:=I0.dfr
  dob:=I0.dob
  fob:=I0.fob
  base:=I0.base
  tab:=fun c P ps hm=>have n:=I.lK hm (a:=a) (.inl hf);(I0.tab c P ps hm).imp fun _ k=>k.mono (fun o=>hx c o n.1) fun o=>hx P o n.2
  tdis:=I0.tdis
  gens:=(g)▸I0.gens
  os:=os.trans I0.os }
end Inv
theorem Inv.listAt(I:Inv B γ φ ι H s){a:Addr}{l:List V}(h:H a=some (.list l)){G:Prop}(q:∀items n,s.heap.get? a=some { cls:=.type "list",data:=.seq items n }→az ι items.toList l→G):G :=
 ao (I.objs _ _ h) fun o ho h=>ez h fun items n e h2=>q items n (e▸ho) h2
theorem Inv.dictAt(I:Inv B γ φ ι H s){a:Addr}{es:List (V×V)}{ep:Nat}(h:H a=some (.dict es ep)){G:Prop}(q:∀o,s.heap.get? a=some o→iy B.w ι o (.dict es ep)→o.cls=.type "dict"→o.dict=none→G):G :=
 ao (I.objs _ _ h) fun o ho h=>q o ho h h.1.1 h.1.2.1
theorem Inv.setAt(I:Inv B γ φ ι H s){a:Addr}{es:List V}{k:aK}(h:H a=some (.set es k)){G:Prop}(q:∀o,s.heap.get? a=some o→o.cls=.type "set"→o.dict=none→G):G :=
 ao (I.objs _ _ h) fun o ho h=>q o ho h.1.1 h.1.2.1
theorem Inv.nJ(I:Inv B γ φ ι H s){d:Addr}{x:bL}(h:H d=some x):(d==sysModules)=false:=by
 have:d≠sysModules:=by
  rintro rfl
  cases e:B.obs sysModules with
  |none=>exact B.sys e
  |some o=>have:=I.dob sysModules ((I.base _ _ e)▸Option.some_ne_none _);replace this:=(h).symm.trans this;contradiction
 simpa using this
theorem Inv.inK(I:Inv B γ φ ι H s):B.aZ.In s.heap:=fun a o e=>I.data _ _ (I.base _ _ (B.inK a o e))
theorem Inv.noLimit(I:Inv B γ φ ι H s):s.heap.NoLimit:=by
 refine aP (B.lim) ?_;rintro o m h1;refine fun h_=>aP h_ ?_;rintro es ep h2 h3 h4 h5
 exact ⟨m,⟨o,es,ep,I.data _ _ (I.base _ _ h1),h2,h3,h4⟩,h5⟩
inductive PE(B:Base)(γ:Array GenState)(φ ι:Obs)(Q:PV)(v:Value)(s:Shared):Prop
 |mk (ι':Obs) (H':Hp) (x:V) (l:Le ι ι') (I:Inv B γ φ ι' H' s) (r:Rep ι' v x) (q:Q x H')
noncomputable abbrev aA:Value→Shared→Prop:=fun _ _=>False
theorem PE.mono{ι₀:Obs}{Q Q':PV}(h:Le ι₀ ι)(hq:∀x H,Q x H→Q' x H){v:Value}(x:PE B γ φ ι Q v s):PE B γ φ ι₀ Q' v s :=
 match x with | .mk ι' H' x a b c d=>⟨ι',H',x,h.trans a,b,c,hq _ _ d⟩
theorem PE.up{M:PySem.Model}{A:Around}{t:Sem Value}{E:Value→Shared→Prop}{ι₀:Obs}{Q:PV}(l:Le ι₀ ι)(h:wpAny M A t (PE B γ φ ι Q) E s):wpAny M A t (PE B γ φ ι₀ Q) E s :=
 wpAny_mono h (fun _ _ h=>h.mono l fun _ _ q=>q) fun _ _ e=>e
end
end Mine
end
section
namespace Mine
open PySem PyProof.Rows
open scoped Classical
structure bx(A:Around)(k:Nat):Prop where
 h:A.handled=none
 d:A.depth+3*k+3<700
 u:A.units+100*k+100<cLine
theorem bx.le{A:Around}{k j:Nat}(r:bx A k)(h:j≤k):bx A j:=⟨r.h,Nat.lt_of_le_of_lt (Nat.add_le_add_right (Nat.add_le_add_left (Nat.mul_le_mul_left 3 h) _) 3) r.d,Nat.lt_of_le_of_lt (Nat.add_le_add_right (Nat.add_le_add_left (Nat.mul_le_mul_left 100 h) _) 100) r.u⟩
theorem bx.u0{A:Around}{k:Nat}(r:bx A k):A.units+100<cLine:=Nat.lt_of_le_of_lt (Nat.add_le_add_right (Nat.le_add_right ..) 100) r.u
theorem bx.c{A:Around}{k:Nat}(r:bx A k):A.units+99<cLine:=Nat.lt_of_succ_lt r.u0
theorem bx.min{A:Around}{k a b n:Nat}(r:bx A k)(h:a≤n)(g:n≤100):A.units+min a b<cLine:=N.l4 r.u0 (Nat.le_trans (Nat.min_le_left ..) (Nat.le_trans h g))
mutual
noncomputable def dat:V→PyData
 |.bool b=>.bool b
 |.int i=>.int i
 |.str l=>.str ⟨l.toArray⟩
 |.tup vs=>.tuple (jG vs)
 |.lst vs=>.list (jG vs)
 |_=>.none
noncomputable def jG:List V→List PyData
 |[]=>[]
 |v::vs=>dat v::jG vs
end
theorem Dn(l:List V):(jG l).length=l.length:=by
 induction l with
 |nil=>rfl
 |cons x l ih=>simp [jG,ih]
inductive Pk(k:Bool)(n:Nat):V→Prop
 |none:Pk k n .none
 |bool {b:Bool} (h:k=false):Pk k n (.bool b)
 |int {i:Int} (h:k=true):Pk k n (.int i)
 |str {l:List Nat}:Pk k n (.str l)
 |tup {vs:List V} (h:∀x∈vs,pk k n x=true):Pk k n (.tup vs)
 |lst {vs:List V} (h:∀x∈vs,pk k n x=true):Pk k n (.lst vs)
theorem iX{k:Bool}{n:Nat}{x:V}(h:pk k (n+1) x=true):Pk k n x:=by
 cases x with
 |none=>exact .none
 |bool b=>exact .bool ((Bool.not_eq_true' k).mp h)
 |int i=>exact .int h
 |str l=>exact .str
 |tup vs=>exact .tup (List.all_eq_true.mp h)
 |lst vs=>exact .lst (List.all_eq_true.mp h)
 |_=>injection h
structure Rd(h:Heap)(v:Value)(d:PyData)(n:Nat):Prop where
 r:∃as,Reads h v d as
 l:d.canLay0=true
 d:d.depth≤n
structure Rds(h:Heap)(vs:List Value)(ds:List PyData)(n:Nat):Prop where
 r:∃as,ReadsAll h vs ds as
 l:PyData.canLayAll0 ds=true
 d:PyData.depthAll ds≤n
theorem jS{k:Bool}{n:Nat}{h:Heap}{ι:Obs}(ih:∀(x:V) (v:Value),pk k n x=true→Rep ι v x→Rd h v (dat x) n)(xs:List V):∀(vs:List Value),(∀x∈xs,pk k n x=true)→az ι vs xs→Rds h vs (jG xs) n:=by
 induction xs with
 |nil=>exact fun vs _ r=>⟨⟨[],(show vs=[] from r)▸ReadsAll.nil⟩,rfl,Nat.zero_le _⟩
 |cons y ys ih2=>exact fun vs hy r=>aP r fun u us e r1 r2 =>
   have R:=ih y u (hy y List.mem_cons_self) r1
   have S:=ih2 us (fun x hx=>hy x (List.mem_cons_of_mem _ hx)) r2
   ⟨aL R.r fun _ h1=>aL S.r fun _ h4=>⟨_,e▸ReadsAll.cons h1 h4⟩,Bool.and_eq_true_iff.mpr ⟨R.l,S.l⟩,Nat.max_le.mpr ⟨R.d,S.d⟩⟩
theorem cV{k:Bool}{h:Heap}{ι:Obs}(hi:∀a o,ι a=some o→h.get? a=some o)(n:Nat):∀(x:V) (v:Value),pk k n x=true→Rep ι v x→Rd h v (dat x) n:=by
 induction n with
 |zero=>exact fun x v hp=>xf hp
 |succ n ih =>
 intro x v hp r
 cases iX hp with
 |none=>exact ⟨⟨_,(show v=Value.none from r)▸Reads.none⟩,rfl,Nat.zero_le _⟩
 |bool _=>exact ⟨⟨_,(show v=Value.bool _ from r)▸Reads.bool _⟩,rfl,Nat.zero_le _⟩
 |int _=>exact aL r fun t e=>⟨⟨_,e▸Reads.int _ t⟩,rfl,Nat.zero_le _⟩
 |str=>exact aL r.1 fun t e=>⟨⟨_,e▸Reads.str _ t⟩,(show (PyData.str _).canLay0=true by simpa [PyData.canLay0,PyData.strOk] using r.2),Nat.zero_le _⟩
 |tup g=>exact bP r fun a m items e h1 h2=>have S:=jS ih _ items.toList g h2;⟨aL S.r fun _ q=>⟨_,e▸Reads.tuple (hi _ _ h1) rfl rfl q⟩,S.l,Nat.succ_le_succ S.d⟩
 |lst g=>exact bP r fun a m items e h1 h2=>have S:=jS ih _ items.toList g h2;⟨aL S.r fun _ q=>⟨_,e▸Reads.list (hi _ _ h1) rfl rfl q⟩,S.l,Nat.succ_le_succ S.d⟩
theorem ql{α:Type}[BEq α][LawfulBEq α][DecidableEq α](a b:α):(a==b)=decide (a=b):=Bool.eq_iff_iff.mpr (beq_iff_eq.trans decide_eq_true_iff.symm)
theorem EX{a b:V}(h:a=b→False):false=decide (a=b):=(decide_eq_false h).symm
theorem pH{k:Bool}(n:Nat):∀(a b:V),pk k n a=true→pk k n b=true→PyData.eqv (dat a) (dat b)=decide (a=b):=by
 induction n with
 |zero=>exact fun a b ha=>xf ha
 |succ n ih =>
 intro a b ha hb
 have all:∀(xs ys:List V),(∀x∈xs,pk k n x=true)→(∀x∈ys,pk k n x=true)→PyData.eqvAll (jG xs) (jG ys)=decide (xs=ys):=by
  intro xs
  induction xs with
  |nil=>intro ys _ _;cases ys with
   |nil=>exact (decide_eq_true rfl).symm
   |cons y ys=>exact (decide_eq_false (List.cons_ne_nil y ys ·.symm)).symm
  |cons x xs ih2 =>
   intro ys hx hy
   cases ys with
   |nil=>exact (decide_eq_false (List.cons_ne_nil x xs)).symm
   |cons y ys =>
    show (PyData.eqv (dat x) (dat y)&&PyData.eqvAll (jG xs) (jG ys))=_
    rw [ih x y (hx x List.mem_cons_self) (hy y List.mem_cons_self),ih2 ys (fun x h=>hx x (List.mem_cons_of_mem _ h)) (fun x h=>hy x (List.mem_cons_of_mem _ h)),←Bool.decide_and]
    exact decide_eq_decide.mpr List.cons_eq_cons.symm
 cases iX ha<;>cases iX hb
 all_goals first
  |exact EX fun h=>V.noConfusion h
  |exact (decide_eq_true rfl).symm
  |exact absurd (‹k=false›.symm.trans ‹k=true›) Bool.false_ne_true
  |exact (all _ _ ‹_› ‹_›).trans (decide_eq_decide.mpr (Iff.of_eq (V.tup.injEq ..)).symm)
  |exact (all _ _ ‹_› ‹_›).trans (decide_eq_decide.mpr (Iff.of_eq (V.lst.injEq ..)).symm)
  |exact (ql _ _).trans (decide_eq_decide.mpr (Iff.of_eq (V.bool.injEq ..)).symm)
  |exact (ql _ _).trans (decide_eq_decide.mpr (Iff.of_eq (V.int.injEq ..)).symm)
  |exact (ql _ _).trans (decide_eq_decide.mpr ⟨fun e=>congrArg V.str (Array.mk.inj (congrArg Str.cps e)),fun e=>by cases e;rfl⟩)
section
variable{B:Base}{γ:Array GenState}{φ ι:Obs}{H:Hp}{s:Shared}{prog:Program}{A:Around}
theorem PE.here(I:Inv B γ φ ι H s){Q:PV}{v:Value}{x:V}(r:Rep ι v x)(q:Q x H):PE B γ φ ι Q v s:=⟨ι,H,x,.refl _,I,r,q⟩
theorem PE.toks(I:Inv B γ φ ι H s){Q:PV}{v:Value}{x:V}{k:Nat}(r:Rep ι v x)(q:Q x H):PE B γ φ ι Q v { s with toks:=k } :=
 ⟨ι,H,x,.refl _,I.same rfl rfl rfl,r,q⟩
theorem PE.push(I:Inv B γ φ ι H s){Q:PV}{x:V}{o:Obj}{k:Nat}(hf:o.isFreed=false)(r:∀ι',Le ι ι'→ι' s.heap.objs.size=some o→Rep ι' (.ref s.heap.objs.size) x)(q:Q x H) :
  PE B γ φ ι Q (.ref s.heap.objs.size) { s with heap:=s.heap.push o,toks:=k }:=by
 have I':Inv B γ φ ι H { s with heap:=s.heap.push o,toks:=k }:=I.keep (fun b o' e=>Heap.get?_push_of_some _ e) rfl rfl
 exact ⟨_,H,x,Le.add (I.new (Nat.le_refl s.heap.objs.size)).i,I'.note (I.new (Nat.le_refl s.heap.objs.size)) (Heap.get?_push_size _ hf),r _ (Le.add (I.new (Nat.le_refl s.heap.objs.size)).i) (af ..),q⟩
theorem PE.yk(I:Inv B γ φ ι H s){Q:PV}{x:bL}{o:Obj}{k:Nat}(hf:o.isFreed=false)(r:iy B.w ι o x)(q:oZ x H Q) :
  PE B γ φ ι Q (.ref s.heap.objs.size) { s with heap:=s.heap.push o,toks:=k }:=by
 have I':Inv B γ φ ι H { s with heap:=s.heap.push o,toks:=k }:=I.keep (fun b o' e=>Heap.get?_push_of_some _ e) rfl rfl
 exact ⟨ι,_,.ref _,.refl _,I'.own (I.new (Nat.le_refl s.heap.objs.size)) (Heap.get?_push_size _ hf) r,rfl,q _ (I.new (Nat.le_refl s.heap.objs.size)).h⟩
theorem bV{ι:Obs}{i:Int}{t:Tok}:Rep ι (.int i t) (.int i):=⟨_,rfl⟩
theorem bq{ι:Obs}{b:Bool}:Rep ι (.bool b) (.bool b):=rfl
theorem fG{ι:Obs}:Rep ι .none .none:=rfl
theorem pB{ι:Obs}{l:List Nat}{t:Tok}(h:∀c∈l,c<0x110000):Rep ι (.str ⟨l.toArray⟩ t) (.str l):=by exact ⟨⟨_,rfl⟩,h⟩
theorem isList(I:Inv B γ φ ι H s){v:Value}{x:V}{l:List V}(r:Rep ι v x)(h:listOf H x=some l):∃a n items,v=.ref a∧IsL s.heap a items n∧az ι items.toList l:=by
 cases x with
 |lst l' =>
  cases Option.some.inj h
  exact bP r fun a n items e h1 h2=>⟨a,n,items,e,I.data _ _ h1,h2⟩
 |ref a =>
  delta listOf at h
  dsimp only at h
  cases e:H a with
  |none=>rw [e] at h;injection h
  |some y =>
   rw [e] at h
   cases y with
   |list l' =>
    cases Option.some.inj h
    exact I.listAt e fun items n ho h2=>⟨a,n,items,r,ho,h2⟩
   |_=>injection h
 |_=>injection h
theorem noPylong{i j:Int}(h:0<j)(h':j≤2^31):¬(Builtin.divisionGoesByPylong i j)=true:=by
 have hj:j.natAbs.log2<32:=by
  rw [Nat.log2_lt (by omega)];omega
 dsimp only [Builtin.divisionGoesByPylong]
 simp only [Bool.and_eq_true,decide_eq_true_eq,not_and]
 intro h1
 split at h1
 ·exact absurd ‹_› (Nat.not_lt_zero _)
 ·lia
noncomputable def yw:BOp→Operator
 |.add=>.Add
 |.sub=>.Sub
 |.mul=>.Mult
 |.mod=>.Mod
 |.fdiv=>.FloorDiv
theorem Eo(I:Inv B γ φ ι H s){o:BOp}{a b:V}{va vb:Value}{Q:PV}(ra:Rep ι va a)(rb:Rep ι vb b)(h:iP H Q o a b) :
  wpAny (model prog B.w) A (binaryOp (yw o) va vb) (PE B γ φ ι Q) aA s:=by
 cases h with
 |add q=>exact let ⟨t,e⟩:=ra;let ⟨u,e'⟩:=rb;e▸e'▸P.add_int (.toks I bV q)
 |sub q=>exact let ⟨t,e⟩:=ra;let ⟨u,e'⟩:=rb;e▸e'▸P.sub_int (.toks I bV q)
 |mul hi hj q=>exact let ⟨t,e⟩:=ra;let ⟨u,e'⟩:=rb;e▸e'▸P.mul_int (.toks I bV q) (.of_left (intBits_le_64 (by omega) (by omega)))
 |mod h q=>exact let ⟨t,e⟩:=ra;let ⟨u,e'⟩:=rb;e▸e'▸AutoIntOps.mod_1 (by simp;omega) ((Int.fmod_eq_emod_of_nonneg _ (Int.le_of_lt h)).symm▸PE.toks I bV q)
 |fdiv h0 hj q=>exact let ⟨t,e⟩:=ra;let ⟨u,e'⟩:=rb;e▸e'▸AutoIntOps.floordiv_1 (by simp;lia) (noPylong h0 hj) ((Int.fdiv_eq_ediv_of_nonneg _ (Int.le_of_lt h0))▸PE.toks I bV q)
 |@adds l m hz q =>
  refine cX ra ?_;clear ra;rintro ⟨t,rfl⟩ hl;obtain ⟨⟨u,rfl⟩,hm⟩:=rb
  refine SB.add (fun t' k=>?_) (Nat.le_trans (Nat.le_of_eq rfl) (Nat.le_trans hz (of_decide_eq_true rfl)))
  exact (show (⟨l.toArray⟩++⟨m.toArray⟩:Str)=⟨(l++m).toArray⟩ by show Str.mk (l.toArray++m.toArray)=_;simp)▸.toks I (x:=.str (l++m)) ⟨⟨_,rfl⟩,fun c hc=>(List.mem_append.mp hc).elim (hl c) (hm c)⟩ q
 |addl hl hm hz q =>
  refine bP (isList I ra hl) ?_;rintro a' n items rfl h1 h2
  refine bP (isList I rb hm) ?_;rintro b' n' items' rfl h3 h4
  have e1:=h2.length
  have e2:=h4.length
  refine P.add_list h1 h3 (PE.push I (k:=s.toks) (x:=.lst (_++_)) rfl (fun ι' hle e=>⟨_,_,_,rfl,e,by simpa using (h2.mono hle).append (h4.mono hle)⟩) q) ?_
  simp at e1 e2;unfold sizeLine;lia
theorem Hy(I:Inv B γ φ ι H s)(R:bx A 0){a b:V}{va vb:Value}{Q:PV}(ra:Rep ι va a)(rb:Rep ι vb b)(h:iu .eq a b H Q) :
  wpAny (model prog B.w) A (compareOp .Eq va vb) (PE B γ φ ι Q) aA s:=by
 cases h with | mk k ha hb q =>
 exact have X:=cV I.data 6 a va ha ra;have Y:=cV I.data 6 b vb hb rb
  aL X.r fun _ h1=>aL Y.r fun _ h2=>SeqAt.compareEq_reads h1 h2 X.l Y.l (R.min X.d (of_decide_eq_true rfl)) (pH 6 a b ha hb▸.here I bq q)
theorem Hx(I:Inv B γ φ ι H s)(R:bx A 0){a b:V}{va vb:Value}{Q:PV}(ra:Rep ι va a)(rb:Rep ι vb b)(h:iu .ne a b H Q) :
  wpAny (model prog B.w) A (compareOp .NotEq va vb) (PE B γ φ ι Q) aA s:=by
 cases h with | mk k ha hb q =>
 exact have X:=cV I.data 6 a va ha ra;have Y:=cV I.data 6 b vb hb rb
  aL X.r fun _ h1=>aL Y.r fun _ h2=>SeqAt.compareNe_reads h1 h2 X.l Y.l (R.min X.d (of_decide_eq_true rfl)) (pH 6 a b ha hb▸.here I bq q)
theorem tF{k:Bool}{a:V}(ha:pk k 6 a=true):∀l:List V,(∀x∈l,pk k 6 x=true)→((jG l).any fun y=>PyData.eqv y (dat a))=decide (a∈l)
 |[],_=>by rfl
 |x::xs,h=>by
  simp only [jG,List.any_cons]
  simp only [pH 6 x a (h x List.mem_cons_self) ha,tF ha xs fun y hy=>h y (List.mem_cons_of_mem _ hy)]
  by_cases e:x=a<;>simp [e]
  simp [Ne.symm e]
theorem yK(neg:Bool)(I:Inv B γ φ ι H s)(hu:A.units+100<cLine){a:V}{l:List V}{va:Value}{d:Addr}{n:Nat}{items:Array Value}{Q:Bool→Hp→Prop}{k:Bool}
  (ra:Rep ι va a) (hl:IsL s.heap d items n) (rl:az ι items.toList l) (ha:pk k 6 a=true) (hl':∀x∈l,pk k 6 x=true) (q:Q (decide (a∈l)) H) :
  wpAny (model prog B.w) A (compareOp (if neg then .NotIn else .In) va (.ref d)) (PE B γ φ ι fun v H'=>∃b,v=.bool (cond neg (!b) b)∧Q b H') aA s:=by
 have X:=cV I.data 6 a va ha ra
 have Y:=jS (cV I.data 6) l _ hl' rl
 have u:A.units+1+min (PyData.depthAll (jG l)) (dat a).depth<cLine:=N.l4 (N.l2 hu) (Nat.le_trans (Nat.min_le_left ..) (Nat.le_trans Y.d (of_decide_eq_true rfl)))
 refine aL X.r fun _ h1=>aL Y.r fun _ h4=>?_
 cases neg
 ·exact SeqAt.in_list_reads (.list hl rfl rfl h4) h1 Y.l X.l u (tF ha l hl'▸.here I bq ⟨_,rfl,q⟩)
 ·exact SeqAt.notIn_list_reads (.list hl rfl rfl h4) h1 Y.l X.l u (tF ha l hl'▸.here I bq ⟨_,rfl,q⟩)
end
end Mine
end
section
namespace Mine
open PySem PyProof.Rows
open scoped Classical
noncomputable def cT:Nat→V→Bool
 |0,_=>false
 |_+1,.str _=>true
 |_+1,.int _=>true
 |n+1,.tup vs=>vs.all (cT n)
 |_+1,_=>false
noncomputable def isT:V→Bool
 |.tup vs=>vs.all (cT 6)
 |_=>false
inductive Tr(n:Nat):V→Prop
 |str {l:List Nat}:Tr n (.str l)
 |int {i:Int}:Tr n (.int i)
 |tup {vs:List V} (h:∀x∈vs,cT n x=true):Tr n (.tup vs)
theorem cJ{n:Nat}{x:V}(h:cT (n+1) x=true):Tr n x:=by
 cases x with
 |str l=>exact .str
 |int i=>exact .int
 |tup vs=>exact .tup (List.all_eq_true.mp h)
 |_=>injection h
theorem jE{k:V}(h:isT k=true):cT 7 k=true:=by
 cases k with
 |tup vs=>exact h
 |_=>injection h
theorem cP(n:Nat):∀x:V,cT n x=true→pk true n x=true:=by
 induction n with
 |zero=>exact fun _ h=>xf h
 |succ n ih =>
  intro x h
  cases cJ h with
  |str=>rfl
  |int=>rfl
  |tup g=>exact List.all_eq_true.mpr fun y hy=>ih y (g y hy)
noncomputable def kx:V→Nat
 |.none=>0
 |.bool _=>3
 |.int _=>4
 |.str _=>6
 |_=>10
theorem CR{k:Bool}{n:Nat}{ι:Obs}{x:V}{v:Value}(p:Pk k n x)(r:Rep ι v x):v.ctorIdx=kx x:=by
 cases p with
 |none=>exact congrArg Value.ctorIdx (show v=.none from r)
 |bool _=>exact congrArg Value.ctorIdx (show v=.bool _ from r)
 |int _=>exact aL r fun t e=>congrArg Value.ctorIdx e
 |str=>exact aL r.1 fun t e=>congrArg Value.ctorIdx e
 |tup _=>exact kX r fun _ _ _ e _=>congrArg Value.ctorIdx e
 |lst _=>exact kX r fun _ _ _ e _=>congrArg Value.ctorIdx e
theorem lT{ι:Obs}{v:Value}{T T':String}{xs ys:List V}(rx:∃a n items,v=.ref a∧ι a=some { cls:=.type T,data:=.seq items n }∧az ι items.toList xs)(ry:∃a n items,v=.ref a∧ι a=some { cls:=.type T',data:=.seq items n }∧az ι items.toList ys){G:Prop}(q:T=T'→∀l,az ι l xs→az ι l ys→G):G :=
 bP rx fun a n it e h1 h2=>bP ry fun a' n' it' e' h1' h2'=>by
  cases e.symm.trans e'
  have o:=Obj.mk.inj (Option.some.inj (h1.symm.trans h1'))
  exact q (Value.type.inj o.1) it.toList h2 ((Data.seq.inj o.2.2.1).1▸h2')
theorem BK{k:Bool}{ι:Obs}(n:Nat):∀(x y:V) (v:Value),pk k n x=true→pk k n y=true→Rep ι v x→Rep ι v y→x=y:=by
 induction n with
 |zero=>exact fun x y v h=>xf h
 |succ n ih =>
 have all:∀(xs ys:List V) (vs:List Value),(∀x∈xs,pk k n x=true)→(∀x∈ys,pk k n x=true)→az ι vs xs→az ι vs ys→xs=ys:=by
  intro xs
  induction xs with
  |nil=>exact fun ys vs _ _ h1 h2=>(List.length_eq_zero_iff.mp (h2.length.symm.trans h1.length)).symm
  |cons x xs ih2 =>
   intro ys vs hx hy h1 h2
   refine aP h1 fun u us e r1 r2=>?_
   cases ys with
   |nil=>exact absurd (e.symm.trans h2) (List.cons_ne_nil _ _)
   |cons y ys =>
    refine aP h2 fun u' us' e' r3 r4=>?_
    have e:=List.cons.inj (e.symm.trans e')
    rw [ih x y u (hx x List.mem_cons_self) (hy y List.mem_cons_self) r1 (e.1▸r3),ih2 ys us (fun z h=>hx z (List.mem_cons_of_mem _ h)) (fun z h=>hy z (List.mem_cons_of_mem _ h)) r2 (e.2▸r4)]
 intro x y v hx hy rx ry
 have hx:=iX hx
 have hy:=iX hy
 have e:=(CR hx rx).symm.trans (CR hy ry)
 cases hx<;>cases hy
 all_goals first
  |exact absurd e (Nat.ne_of_beq_eq_false rfl)
  |rfl
  |exact congrArg V.bool (Value.bool.inj ((show v=.bool _ from rx).symm.trans ry))
  |exact aL rx fun t e=>aL ry fun t' e'=>congrArg V.int (Value.int.inj (e.symm.trans e')).1
  |exact aL rx.1 fun t e=>aL ry.1 fun t' e'=>congrArg V.str (Array.mk.inj (congrArg Str.cps (Value.str.inj (e.symm.trans e')).1))
  |exact lT rx ry fun e l h1 h2=>congrArg V.tup (all _ _ l ‹_› ‹_› h1 h2)
  |exact lT rx ry fun e l h1 h2=>congrArg V.lst (all _ _ l ‹_› ‹_› h1 h2)
  |exact lT rx ry fun e l h1 h2=>absurd e (by decide)
noncomputable def hob(h:Heap):Obs:=fun a=>h.get? a
theorem iW{h:Heap}{ι:Obs}(hi:∀a o,ι a=some o→h.get? a=some o){v:Value}{x:V}(r:Rep ι v x):Rep (hob h) v x:=r.mono hi
theorem mH{h:Heap}{d:Addr}{o:Obj}(ho:h.get? d=some o)(hd:∀items n,o.data≠.seq items n)(n:Nat) :
  ∀(x:V) (v:Value),cT n x=true→Rep (hob h) v x→Rep (fun a=>if a=d then none else h.get? a) v x:=by
 induction n with
 |zero=>exact fun x v h=>xf h
 |succ n ih =>
 have all:∀(xs:List V) (vs:List Value),(∀x∈xs,cT n x=true)→az (hob h) vs xs→az (fun a=>if a=d then none else h.get? a) vs xs:=by
  intro xs
  induction xs with
  |nil=>exact fun vs _ r=>r
  |cons y ys ih2=>exact fun vs hy r=>aP r fun u us e r1 r2=>⟨u,us,e,ih y u (hy y List.mem_cons_self) r1,ih2 us (fun z hz=>hy z (List.mem_cons_of_mem _ hz)) r2⟩
 intro x v hx r
 cases cJ hx with
 |str=>exact r
 |int=>exact r
 |tup g =>
  refine bP r fun a m items e h1 h2=>⟨a,m,items,e,(if_neg fun e=>hd _ _ (congrArg Obj.data (Option.some.inj (ho.symm.trans (e▸h1)))):(if a=d then none else h.get? a)=h.get? a).trans h1,all _ _ g h2⟩
noncomputable def drw:V→Nat
 |.tup vs=>drws vs+1
 |_=>1
where drws:List V→Nat
 |[]=>0
 |v::vs=>drw v+drws vs
section
variable{prog:Program}{w:World}
inductive TL(n:Nat)(h:Heap):List Value→Prop
 |nil:TL n h []
 |cons {v:Value} {x:V} {l:List Value} (hx:cT n x=true) (r:Rep (hob h) v x) (t:TL n h l):TL n h (v::l)
theorem TL.of{n:Nat}{h:Heap}{xs:List V}:∀{l:List Value},(∀x∈xs,cT n x=true)→az (hob h) l xs→TL n h l:=by
 induction xs with
 |nil=>exact fun _ r=>(show _=[] from r)▸.nil
 |cons x xs ih=>exact fun hx r=>aP r fun u us e r1 r2=>e▸.cons (hx x List.mem_cons_self) r1 (ih (fun z hz=>hx z (List.mem_cons_of_mem _ hz)) r2)
theorem sj(d:List V)(z:V):keyHash.keyHashes w (d++[z])=keyHash.keyHashes w d++[keyHash w z]:=by
 induction d with
 |nil=>rfl
 |cons d ds ih=>exact congrArg (keyHash w d::·) ih
theorem uq(d:List V)(z:V):drw.drws (d++[z])=drw.drws d+drw z:=by
 induction d with
 |nil=>exact Nat.add_comm ..
 |cons d ds ih=>exact (congrArg (drw d+·) ih).trans (Nat.add_assoc ..).symm
inductive HL(w:World)(s:Shared)(vs:List V)(rest:List Value)(b:Array Int):Shared→Prop
 |mk (done left:List V) (e:vs=done++left) (r:az (hob s.heap) rest left) (hb:b.toList=keyHash.keyHashes w done):HL w s vs rest b { s with toks:=s.toks+drw.drws done }
theorem xg(n:Nat):∀(x:V) {A:Around} {E:Value→Shared→Prop} {s:Shared} {v:Value} {Q:Int→Shared→Prop},cT n x=true→A.units+n<cLine→Rep (hob s.heap) v x →
  Q (keyHash w x) { s with toks:=s.toks+drw x }→wpAny (model prog w) A (pyHash v) Q E s:=by
 induction n with
 |zero=>exact fun x _ _ _ _ _ h=>xf h
 |succ n ih =>
  intro x A E s v Q hx hu r h
  cases cJ hx with
  |int=>exact aL r fun t e=>e▸wpAny_pyHash_int h
  |str=>exact aL r.1 fun t e=>e▸wpAny_pyHash_str h
  |@tup vs g =>
   refine bP r fun a m items e h1 h2=>?_
   subst e
   have hT:s.TypeIs (.ref a) "tuple":=⟨_,h1,rfl⟩
   refine wpAny_bind (wpAny_cRoomFor_or (.inr (N.l3 hu)) (wpAny_bind (wpAny_specialOf hT F.slot_tuple_hash.lookup (wpAny_bind (wpAny_specialOf hT F.slot_tuple_hash.lookup ?_)))))
   refine wpAny_bind (wpAny_callSpecialIfBoundUnlessNone?_slot hT F.slot_tuple_hash (wpAny_call_entry F.slot_tuple_hash hT F.entry_tuple_hash ?_ (F.args_tuple_hash_1 _)))
   show wpAny _ _ (Builtin.Tuple.tupleItemsOf (.ref a)>>=_) _ _ s
   refine wpAny_bind (wpAny_tupleItemsOf h1 rfl (wpAny_bind ?_))
   rw [←Array.forIn_toList]
   refine wpAny_forIn_list _ (HL w s vs) _ ?_ ?_ _ _ (.mk [] vs rfl h2 rfl)
   ·intro y rest b s' I
    cases I with | mk done left e hl hb =>
    cases left with
    |nil=>injection hl
    |cons z left =>
     refine aP hl fun y' rest' e' hz hl=>?_
     cases e'
     refine wpAny_bind (ih z (g z (e▸List.mem_append.mpr (.inr List.mem_cons_self))) (N.l2 hu) hz ?_)
     have k:=HL.mk (w:=w) (s:=s) (b:=b.push (keyHash w z)) (done++[z]) left (e.trans (List.append_assoc done [z] left).symm) hl (by rw [Array.toList_push,hb,sj])
     rw [uq,←Nat.add_assoc] at k
     exact wpAny_pure k
   ·intro b s' I
    cases I with | mk done left e hl hb =>
    cases left with
    |cons z left=>exact f5 hl fun _ _ h=>absurd h.1.symm (List.cons_ne_nil _ _)
    |nil =>
     cases e.trans (List.append_nil done)
     show wpAny _ _ (retInt (Builtin.Tuple.tupleHashOf b.toList)) _ _ _
     refine hb▸wpAny_ret_mkInt ?_
     have h:Q (if (decide (-(2:Int)^63≤Builtin.Tuple.tupleHashOf (keyHash.keyHashes w vs))&&decide (Builtin.Tuple.tupleHashOf (keyHash.keyHashes w vs)<2^63))=true then _ else _) _:=h
     show wpAny _ _ (if (decide (-(2:Int)^63≤Builtin.Tuple.tupleHashOf (keyHash.keyHashes w vs))&&decide (Builtin.Tuple.tupleHashOf (keyHash.keyHashes w vs)<2^63))=true then _ else _) Q E _
     by_cases hr:(decide (-(2:Int)^63≤Builtin.Tuple.tupleHashOf (keyHash.keyHashes w vs))&&decide (Builtin.Tuple.tupleHashOf (keyHash.keyHashes w vs)<2^63))=true
     ·rw [if_pos hr] at h;exact wy hr (wpAny_pure h)
     ·rw [if_neg hr] at h;exact wn hr (wpAny_bind (wpAny_rule (wpAny_pure h)))
theorem tY(n:Nat):∀(m:Nat) (x:V) {A:Around} {E:Value→Shared→Prop} {s:Shared} {v:Value} {Q:Bool→Shared→Prop},cT n x=true→n≤m→Rep (hob s.heap) v x →
  Q true s→wpAny (model prog w) A (eqIsQuiet m v) Q E s:=by
 induction n with
 |zero=>exact fun m x _ _ _ _ _ h=>xf h
 |succ n ih =>
  intro m x A E s v Q hx hm r h
  cases m with
  |zero=>exact absurd hm (Nat.not_lt_zero _)
  |succ m =>
  cases cJ hx with
  |int=>exact aL r fun t e=>e▸wpAny_pure h
  |str=>exact aL r.1 fun t e=>e▸wpAny_pure h
  |tup g =>
   refine bP r fun a k items e h1 h2=>?_
   subst e
   rw [eqIsQuiet]
   refine wpAny_bind (wpAny_specialOf ⟨_,h1,rfl⟩ F.slot_tuple_eq.lookup (wpAny_bind (wpAny_isInstance ⟨_,h1,rfl⟩ isSubtype_tuple_tuple (wpAny_bind (wpAny_seqItems h1 rfl (wpAny_bind ?_))))))
   rw [←Array.forIn_toList]
   refine wpAny_forIn_list _ (fun rest r s'=>r.1=none∧s'=s∧TL n s.heap rest) _ ?_ ?_ _ _ ⟨rfl,rfl,.of g h2⟩
   ·rintro y rest r s' ⟨hr,rfl,t⟩
    cases t with | cons hx r t =>
    exact wpAny_bind (ih m _ hx (Nat.le_of_succ_le_succ hm) r (wpAny_pure ⟨rfl,rfl,t⟩))
   ·rintro ⟨r1,r2⟩ s' ⟨hr,rfl,_⟩
    cases hr
    exact wpAny_pure h
noncomputable def aG(prog:Program)(w:World):HeapKind prog w V where
 is:=fun h k a=>isT k=true∧Rep (hob h) (.ref a) k
 hash:=keyHash w
 draws:=drw
 room:=fun A=>A.units+10<cLine
 inj:=fun {h a x y} hx hy=>BK 7 x y _ (cP 7 x (jE hx.1)) (cP 7 y (jE hy.1)) hx.2 hy.2
 keeps:=fun {h h' k a d o es ep} x ho hd hs=>⟨x.1,(mH ho (fun _ _ e=>Data.noConfusion (hd.symm.trans e)) 7 k _ (jE x.1) x.2).mono fun b ob hb=>by
  by_cases e:b=d
  ·exact x2 (if_pos e) hb
  ·exact (hs.2 b e).trans ((if_neg e).symm.trans hb)⟩
 pyHash:=fun {A E s k a Q} hu hk h=>xg 7 k (jE hk.1) (N.l4 hu (of_decide_eq_true rfl)) hk.2 h
 eqBool:=fun {A E s x y a b Q} hu hx hy h=>by
  have X:=cV (fun _ _ e=>e) 7 x _ (cP 7 x (jE hx.1)) hx.2
  have Y:=cV (fun _ _ e=>e) 7 y _ (cP 7 y (jE hy.1)) hy.2
  exact aL X.r fun as h1=>aL Y.r fun bs h4=>SeqAt.eqAt_reads _ _ A s _ _ as bs h1 h4 X.l Y.l (N.l4 hu (Nat.le_trans (Nat.min_le_left ..) (Nat.le_trans X.d (of_decide_eq_true rfl)))) prog w E Q (pH 7 x y (cP 7 x (jE hx.1)) (cP 7 y (jE hy.1))▸h)
 quiet:=fun {A E s k a Q} hk h=>tY 7 8 k (jE hk.1) (of_decide_eq_true rfl) hk.2 h
end
end Mine
end
section
namespace Mine
open PySem PyProof.Rows
open scoped Classical
theorem aI.length{α β:Type}{R:α→β→Prop}{as bs}(x:aI R as bs):as.length=bs.length:=by
 induction x with
 |nil=>rfl
 |cons _ _ ih=>simp [ih]
theorem aI.append{α β:Type}{R:α→β→Prop}{as bs as' bs'}(x:aI R as bs)(y:aI R as' bs'):aI R (as++as') (bs++bs'):=by
 induction x with
 |nil=>exact y
 |cons h _ ih=>exact .cons h ih
theorem aI.Gm{α β α' β':Type}{R:α→β→Prop}{R':α'→β'→Prop}{f:α→α'}{g:β→β'}(h:∀a b,R a b→R' (f a) (g b)){as bs}(x:aI R as bs):aI R' (as.map f) (bs.map g):=by
 induction x with
 |nil=>exact .nil
 |cons h1 _ ih=>exact .cons (h _ _ h1) ih
theorem aI.I8{α β:Type}{R:α→β→Prop}{as bs}(x:aI R as bs){a:α}(h:a∈as):∃b,b∈bs∧R a b:=by
 induction x with
 |nil=>exact absurd h List.not_mem_nil
 |cons h1 _ ih =>
  rcases List.mem_cons.mp h with rfl | h
  ·exact ⟨_,List.mem_cons_self,h1⟩
  ·refine ao (ih h) fun b hb r=>?_;exact ⟨b,List.mem_cons_of_mem _ hb,r⟩
theorem jy{k:V}(h:isAtoms k=true):isT k=true:=by
 cases k<;>simp only [isAtoms,Bool.false_eq_true,List.all_eq_true] at h
 simp only [isT,List.all_eq_true]
 intro x hx
 have:=h x hx
 cases x<;>injection this<;>rfl
section
variable{prog:Program}{w:World}{ι:Obs}{h:Heap}
def vV(ι:Obs)(x:V×Addr×Value)(p:V×V):Prop:=x.1=p.1∧Rep ι (.ref x.2.1) p.1∧Rep ι x.2.2 p.2
def vS(ι:Obs)(x:Str×Value)(p:V×V):Prop:=p.1=.str x.1.cps.toList∧(∀c∈x.1.cps.toList,c<0x110000)∧Rep ι x.2 p.2
theorem qT(hi:∀a o,ι a=some o→h.get? a=some o){a:Addr}{o:Obj}{es:List (V×V)}{ep:Nat}(ho:h.get? a=some o)(r:iy w ι o (.dict es ep))(hk:∀e∈es,isAtoms e.1=true) :
  ∃xs,h.DictOfH (aG prog w) a xs∧aI (vV ι) xs es:=by
 obtain ⟨h1,en,h2,h3,h4,_⟩:=r
 have:∀(l:List DictEntry) (es:List (V×V)),aI (gy w ι) l es→(∀e∈es,isAtoms e.1=true)→∃xs:List (V×Addr×Value),l=xs.map (entryOfKey (aG prog w))∧(∀x∈xs,(aG prog w).is h x.1 x.2.1) ∧
   xs.map (·.1)=es.map (·.1)∧aI (vV ι) xs es:=by
  intro l es a2
  induction a2 with
  |nil=>intro _;exact ⟨[],rfl,by simp,rfl,.nil⟩
  |@cons e p l es h1 _ ih =>
   intro hk
   refine jF (ih fun e he=>hk e (List.mem_cons_of_mem _ he)) fun xs q1 q2 q3 q4=>?_
   obtain ⟨eh,ek,ev⟩:=e
   obtain ⟨pk,pv⟩:=p
   refine bG h1 ?_;clear h1;rintro g1 g2 g3
   have hat:=hk (pk,pv) List.mem_cons_self
   simp only at g1 g2 g3 hat
   cases pk<;>simp only [isAtoms,Bool.false_eq_true] at hat
   rename_i vs
   have g2':=g2
   refine bP g2 ?_;clear g2;rintro b n items rfl _ _
   refine ⟨(.tup vs,b,ev)::xs,?_,?_,?_,.cons ⟨rfl,g2',g3⟩ q4⟩
   ·simp only [List.map_cons,←q1,entryOfKey,and_true,g1];rfl
   ·intro x hx
    rcases List.mem_cons.mp hx with rfl | hx
    ·exact ⟨(jy hat),iW hi g2'⟩
    ·exact q2 x hx
   ·simp [q3]
 refine jF (this en.toList es h3 hk) fun xs q1 q2 q3 q4=>?_
 exact ⟨xs,⟨o,en,ep,ho,h1,h2,q1,q2,by simpa only [q3] using h4⟩,q4⟩
theorem mW{a:Addr}{xs:List (V×Addr×Value)}{es:List (V×V)}(d:h.DictOfH (aG prog w) a xs)(r:aI (vV ι) xs es)(hk:∀e∈es,isAtoms e.1=true) :
  ∃o ep,h.get? a=some o∧iy w ι o (.dict es ep):=by
 refine Gz d ?_;clear d;rintro o en ep h1 h2 h3 h4 h5 h6
 have q:xs.map (·.1)=es.map (·.1):=by
  clear h4 h5 h6 hk
  induction r with
  |nil=>rfl
  |cons g _ ih=>simp only [List.map_cons,ih,g.1]
 refine ⟨o,ep,h1,h2,en,h3,?_,(q)▸h6,.inr hk⟩
 rw [h4]
 clear h4 h5 h6 hk q
 induction r with
 |nil=>exact .nil
 |cons g _ ih=>exact .cons ⟨by simp only [←g.1];rfl,g.2.1,g.2.2⟩ ih
theorem jr{xs:List (V×Addr×Value)}{es:List (V×V)}(r:aI (vV ι) xs es)(k:V) :
  (aE es k=none∧atKey xs k=none)∨∃y a v,aE es k=some y∧atKey xs k=some (a,v)∧Rep ι v y:=by
 induction r with
 |nil=>exact .inl ⟨rfl,rfl⟩
 |@cons x p xs es g _ ih =>
  skip
  obtain ⟨p1,p2⟩:=p
  refine bG g ?_;clear g;rintro g1 g2 g3
  simp only at g1 g2 g3
  subst g1
  by_cases e:x.1=k
  ·subst e;exact .inr ⟨p2,x.2.1,x.2.2,by simp [aE],by simp [atKey],g3⟩
  ·rcases ih with ⟨i1,i2⟩ | ⟨y,a,v,i1,i2,i3⟩
   ·refine .inl ⟨?_,?_⟩
    ·simp only [aE,List.find?_cons,decide_eq_false e];exact i1
    ·simp only [atKey,List.find?_cons,decide_eq_false e];exact i2
   ·refine .inr ⟨y,a,v,?_,?_,i3⟩
    ·simp only [aE,List.find?_cons,decide_eq_false e];exact i1
    ·simp only [atKey,List.find?_cons,decide_eq_false e];exact i2
theorem kj{xs:List (V×Addr×Value)}{es:List (V×V)}(r:aI (vV ι) xs es){k y:V}{a:Addr}{v:Value}(hk:Rep ι (.ref a) k)(hv:Rep ι v y) :
  aI (vV ι) (storedH xs k a v) (dput es k y):=by
 have he:(aE es k).isSome=(atKey xs k).isSome:=by
  rcases jr r k with ⟨h1,h2⟩ | ⟨_,_,_,h1,h2,_⟩<;>simp [h1,h2]
 delta storedH dput
 refine (he)▸?_
 split
 ·refine r.Gm fun x p g=>?_
  skip
  obtain ⟨p1,p2⟩:=p
  refine bG g ?_;clear g;rintro g1 g2 g3
  simp only at g1 g2 g3
  subst g1
  dsimp only [putAt]
  by_cases e:x.1=k
  ·subst e;simp only [if_true];exact ⟨rfl,g2,hv⟩
  ·simp only [if_neg e];exact ⟨rfl,g2,g3⟩
 ·exact r.append (.cons ⟨rfl,hk,hv⟩ .nil)
theorem bF{es:List (V×V)}{k y:V}{P:V→Prop}(h:∀e∈es,P e.1)(hk:P k):∀e∈dput es k y,P e.1:=by
 intro e he
 delta dput at he
 split at he
 ·refine ao (List.mem_map.mp he) ?_;rintro x hx rfl
  split<;>exact h x hx
 ·refine (List.mem_append.mp he).elim (fun h1=>?_) fun h1=>?_
  ·exact h e h1
  ·rw [List.mem_singleton] at h1;subst h1;exact hk
theorem uJ{a:Addr}{o:Obj}{es:List (V×V)}{ep:Nat}(ho:h.get? a=some o)(r:iy w ι o (.dict es ep))(hk:∀e∈es,isStr e.1=true) :
  ∃kvs,h.DictOf (strKind prog w) a kvs∧aI (vS ι) kvs es:=by
 obtain ⟨h1,en,h2,h3,h4,_⟩:=r
 have:∀(l:List DictEntry) (es:List (V×V)),aI (gy w ι) l es→(∀e∈es,isStr e.1=true)→∃kvs:List (Str×Value),(∀e∈l,∃k,(strKind prog w).is k e.key=true∧e.hash=(strKind prog w).hash k) ∧
   Pairs (strKind prog w) l kvs∧kvs.map (fun x=>V.str x.1.cps.toList)=es.map (·.1)∧aI (vS ι) kvs es:=by
  intro l es a2
  induction a2 with
  |nil=>intro _;exact ⟨[],by simp,.nil,rfl,.nil⟩
  |@cons e p l es h1 _ ih =>
   intro hk
   refine jF (ih fun e he=>hk e (List.mem_cons_of_mem _ he)) fun kvs q1 q2 q3 q4=>?_
   obtain ⟨eh,ek,ev⟩:=e
   obtain ⟨pk,pv⟩:=p
   refine bG h1 ?_;clear h1;rintro g1 g2 g3
   have hat:=hk (pk,pv) List.mem_cons_self
   simp only at g1 g2 g3 hat
   cases pk<;>simp only [isStr,Bool.false_eq_true] at hat
   rename_i l'
   obtain ⟨⟨t,rfl⟩,hc⟩:=g2
   refine ⟨(⟨l'.toArray⟩,ev)::kvs,?_,.cons (by exact if_pos rfl) rfl q2,by simp [q3],.cons ⟨by rfl,by exact hc,g3⟩ q4⟩
   intro x hx
   rcases List.mem_cons.mp hx with rfl | hx
   ·exact ⟨_,(by exact if_pos rfl),g1⟩
   ·exact q1 x hx
 refine jF (this en.toList es h3 hk) fun kvs q1 q2 q3 q4=>?_
 refine ⟨kvs,⟨o,en,ep,ho,h1,h2,fun e he=>q1 e (Array.mem_toList_iff.mpr he),q2,?_⟩,q4⟩
 have:((kvs.map (·.1)).map fun k=>V.str k.cps.toList).Nodup:=by rw [List.map_map];simp only [show ((fun k:Str=>V.str k.cps.toList)∘fun x:Str×Value=>x.1)=fun x=>V.str x.1.cps.toList from rfl,q3];exact h4
 exact (List.pairwise_map.mp this).imp fun h e=>h (by rw [e])
theorem mV{a:Addr}{kvs:List (Str×Value)}{es:List (V×V)}(d:h.DictOf (strKind prog w) a kvs)(r:aI (vS ι) kvs es)(hk:∀e∈es,isStr e.1=true) :
  ∃o ep,h.get? a=some o∧iy w ι o (.dict es ep):=by
 refine Gz d ?_;clear d;rintro o en ep h1 h2 h3 h4 h5 h6
 have q:kvs.map (fun x=>V.str x.1.cps.toList)=es.map (·.1):=by
  clear h5 h6 hk
  induction r with
  |nil=>rfl
  |cons g _ ih=>simp only [List.map_cons,ih,g.1]
 refine ⟨o,ep,h1,h2,en,h3,?_,?_,.inl hk⟩
 ·have h4':∀e∈en.toList,∃k,(strKind prog w).is k e.key=true∧e.hash=(strKind prog w).hash k:=fun e he=>h4 e (Array.mem_toList_iff.mp he)
  clear h4 h3 h6 q hk
  generalize en.toList=l at *
  induction r generalizing l with
  |nil=>cases h5;exact .nil
  |@cons x p kvs es g _ ih =>
   cases h5 with
   |@cons e _ l' _ i1 i2 i3 =>
    refine .cons ?_ (ih _ i3 fun e he=>h4' e (List.mem_cons_of_mem _ he))
    refine ao (h4' e List.mem_cons_self) fun k j1 j2=>?_
    have ek:=(strKind prog w).inj _ _ _ j1 i1
    subst ek
    obtain ⟨p1,p2⟩:=p
    skip
    refine bG g ?_;clear g;rintro g1 g2 g3
    simp only at *
    subst g1
    refine aL (Value.isStrOf_shape (show Value.isStrOf x.1 e.key=true from i1)) fun t ht=>?_
    refine ⟨by rw [j2];rfl,?_,by rw [i2];exact g3⟩
    exact ht▸⟨⟨t,rfl⟩,g2⟩
 ·refine (q)▸?_
  have:(fun x:Str×Value=>V.str x.1.cps.toList)=(fun k:Str=>V.str k.cps.toList)∘(·.1):=rfl
  rw [this,←List.map_map]
  refine List.pairwise_map.mpr (h6.imp fun {a b} hne e=>hne ?_)
  injection e with e
  obtain ⟨⟨a⟩⟩:=a;subst e;rfl
theorem ir{kvs:List (Str×Value)}{es:List (V×V)}(r:aI (vS ι) kvs es)(l:List Nat) :
  (aE es (.str l)=none∧valueAt kvs ⟨l.toArray⟩=none)∨∃y v,aE es (.str l)=some y∧valueAt kvs ⟨l.toArray⟩=some v∧Rep ι v y:=by
 induction r with
 |nil=>exact .inl ⟨rfl,rfl⟩
 |@cons x p xs es g _ ih =>
  obtain ⟨x1,x3⟩:=x
  obtain ⟨p1,p2⟩:=p
  refine bG g ?_;clear g;rintro g1 g2 g3
  simp only at g1 g2 g3
  subst g1
  by_cases e:x1=⟨l.toArray⟩
  ·subst e;exact .inr ⟨p2,x3,by simp [aE],by simp [valueAt],g3⟩
  ·have e':¬(V.str x1.cps.toList=V.str l):=fun h=>e (by injection h with h;obtain ⟨⟨x⟩⟩:=x1;simp only at h;subst h;rfl)
   rcases ih with ⟨i1,i2⟩ | ⟨y,v,i1,i2,i3⟩
   ·refine .inl ⟨?_,?_⟩
    ·simp only [aE,List.find?_cons,decide_eq_false e'];exact i1
    ·simp only [valueAt,List.find?_cons,decide_eq_false e];exact i2
   ·refine .inr ⟨y,v,?_,?_,i3⟩
    ·simp only [aE,List.find?_cons,decide_eq_false e'];exact i1
    ·simp only [valueAt,List.find?_cons,decide_eq_false e];exact i2
theorem jv{kvs:List (Str×Value)}{es:List (V×V)}(r:aI (vS ι) kvs es){l:List Nat}{y:V}{v:Value}(hl:∀c∈l,c<0x110000)(hv:Rep ι v y) :
  aI (vS ι) (stored kvs ⟨l.toArray⟩ v) (dput es (.str l) y):=by
 have he:(aE es (.str l)).isSome=kvs.any fun kv=>decide (kv.1=(⟨l.toArray⟩:Str)):=by
  rcases ir r l with ⟨h1,h2⟩ | ⟨_,_,h1,h2,_⟩
  ·rw [h1];rw [valueAt] at h2
   symm;simpa using h2
  ·refine (h1)▸?_;rw [valueAt,Option.map_eq_some_iff] at h2
   refine ao h2 fun x h2 _=>?_
   symm
   rw [Option.isSome_some,List.any_eq_true]
   exact ⟨x,List.mem_of_find?_eq_some h2,by simpa only using List.find?_some h2⟩
 delta stored dput
 refine (he)▸?_
 split
 ·refine r.Gm fun x p g=>?_
  obtain ⟨x1,x3⟩:=x
  obtain ⟨p1,p2⟩:=p
  refine bG g ?_;clear g;rintro g1 g2 g3
  simp only at g1 g2 g3
  subst g1
  by_cases e:x1=⟨l.toArray⟩
  ·subst e;simp only [if_true];exact ⟨rfl,by exact hl,hv⟩
  ·have e':¬(V.str x1.cps.toList=V.str l):=fun h=>e (by injection h with h;obtain ⟨⟨x⟩⟩:=x1;simp only at h;subst h;rfl)
   rw [if_neg e,if_neg e'];exact ⟨rfl,g2,g3⟩
 ·exact r.append (.cons ⟨rfl,by exact hl,hv⟩ .nil)
end
end Mine
end
section
namespace Mine
open PySem PyProof.Rows
open scoped Classical
theorem wg(x y:Str):(!(Builtin.Str.occurrences x y 0 x.length 1).isEmpty)=decide (y.cps.toList <:+: x.cps.toList):=by
 have key:(∃i,i+y.length≤x.length∧Builtin.Str.subAt x y i=true)↔y.cps.toList <:+: x.cps.toList:=by
  constructor
  ·refine fun h_=>ao h_ fun i h1 h2=>?_
   rw [StrLaws.subAt_eq,beq_iff_eq] at h2
   exact (h2)▸⟨x.cps.toList.take i,(x.cps.toList.drop i).drop y.length,by rw [List.append_assoc,List.take_append_drop,List.take_append_drop]⟩
  ·refine fun h_=>f5 h_ fun a b e=>?_
   refine ⟨a.length,?_,?_⟩
   ·have:=congrArg List.length e
    simp only [List.length_append,Array.length_toList] at this
    simp only [Str.length];lia
   ·rw [StrLaws.subAt_eq,beq_iff_eq,←e]
    simp only [Str.length]
    simp only [List.append_assoc,List.drop_left,←Array.length_toList,List.take_left]
 by_cases e:y.cps.toList <:+: x.cps.toList
 ·rw [decide_eq_true e];exact (StrLaws.found_iff x y).mpr (key.mpr e)
 ·rw [decide_eq_false e]
  cases hb:(!(Builtin.Str.occurrences x y 0 x.length 1).isEmpty) with
  |false=>rfl
  |true=>exact absurd (key.mp ((StrLaws.found_iff x y).mp hb)) e
section
variable{B:Base}{γ:Array GenState}{φ ι:Obs}{H:Hp}{s:Shared}{prog:Program}{A:Around}
theorem contains_of{key c:Value}{w:World}{Q:Value→Shared→Prop}(h:wpAny (model prog w) A (compareOp .In key c) Q aA s) :
  wpAny (model prog w) A (contains c key) (fun b s'=>Q (Value.bool b) s') aA s:=by
 have:wpAny (model prog w) A (do return Value.bool (←contains c key)) Q aA s:=h
 intro Γ p hΓ
 have h2:=this Γ p hΓ
 simp only [Sem.wp_bind'] at h2
 exact h2
theorem zR{ι:Obs}{b:Bool}{x:V}{k:Bool}(r:Rep ι (.bool b) x)(e:x=.bool k):k=b:=by subst e;exact (Value.bool.inj r).symm
theorem tn(neg:Bool){key c:Value}{Q:Bool→Hp→Prop}(h:wpAny (model prog B.w) A (compareOp .In key c) (PE B γ φ ι fun v H'=>∃b,v=.bool b∧Q b H') aA s) :
  wpAny (model prog B.w) A (compareOp (if neg then .NotIn else .In) key c) (PE B γ φ ι fun v H'=>∃b,v=.bool (cond neg (!b) b)∧Q b H') aA s:=by
 cases neg
 ·refine wpAny_mono h (fun v s' hv=>hv.mono (.refl _) fun x H' ⟨b,e,q⟩=>⟨b,e,q⟩) fun _ _ e=>e
 ·refine wpAny_bind (wpAny_mono (contains_of h) (fun b s' hb=>wpAny_pure ?_) fun _ _ e=>e)
  obtain ⟨ι',H',x,h1,h2,h3,k,e,q⟩:=hb
  have:=zR h3 e;subst this
  exact ⟨ι',H',.bool (!k),h1,h2,bq,k,rfl,q⟩
theorem bA{ι:Obs}{v:Value}{l:List Nat}(r:Rep ι v (.str l)):∃t,v=.str ⟨l.toArray⟩ t∧∀c∈l,c<0x110000:=by
 exact aL r.1 fun t e=>⟨t,e,r.2⟩
theorem bJ{ι:Obs}{v:Value}{l:List V}(r:Rep ι v (.tup l)):∃a n items,v=.ref a∧ι a=some { cls:=.type "tuple",data:=.seq items n }∧az ι items.toList l:=by
 exact r
theorem yc(I:Inv B γ φ ι H s){v:Value}{k:V}(r:Rep ι v k)(h:isAtoms k=true):∃a,v=.ref a∧(aG prog B.w).is s.heap k a:=by
 cases k<;>simp only [isAtoms,Bool.false_eq_true] at h
 refine bP (bJ r) ?_;rintro a n items rfl _ _
 exact ⟨a,rfl,(jy h),iW I.data r⟩
theorem dQ{v:Value}{k:V}(r:Rep ι v k)(h:isStr k=true):∃l t,k=.str l∧v=.str ⟨l.toArray⟩ t∧(∀c∈l,c<0x110000)∧(strKind prog B.w).is ⟨l.toArray⟩ v=true:=by
 cases k<;>simp only [isStr,Bool.false_eq_true] at h
 refine ao (bA r) ?_;rintro t rfl hl
 exact ⟨_,t,rfl,rfl,hl,by exact if_pos rfl⟩
theorem in_dict(I:Inv B γ φ ι H s)(R:bx A 0){va:Value}{k:V}{d:Addr}{es:List (V×V)}{ep:Nat}{Q:Bool→Hp→Prop}(r:Rep ι va k)(hd:H d=some (.dict es ep))(hk:vU es k)
  (q:Q (aE es k).isSome H):wpAny (model prog B.w) A (compareOp .In va (.ref d)) (PE B γ φ ι fun v H'=>∃b,v=.bool b∧Q b H') aA s:=by
 refine I.dictAt hd fun o ho hr _ _=>hk.elim (fun hk=>?_) fun hk=>?_
 ·refine fm (dQ (prog:=prog) (B:=B) r hk.1) fun l t e1 e2 hl his=>ao (uJ (prog:=prog) ho hr hk.2) fun kvs h1 h2=>?_
  subst e1 e2
  refine wpAny_in_of his (I.nJ hd) h1.mapOf ?_
  have e:(valueAt kvs (⟨l.toArray⟩:Str)).isSome=(aE es (.str l)).isSome:=(ir h2 l).elim (fun h=>by rw [h.1,h.2];rfl) fun h=>aP h fun _ _ e1 e2 _=>by rw [e1,e2];rfl
  exact e▸.toks I bq ⟨_,rfl,q⟩
 ·refine ao (yc (prog:=prog) I r hk.1) fun a e his=>ao (qT (prog:=prog) I.data ho hr hk.2) fun xs h1 h2=>?_
  subst e
  refine wpAny_in_heap (N.l2 (N.l4 R.u0 (of_decide_eq_true rfl)):A.in1.units+10<cLine) his (I.nJ hd) h1 ?_
  have e:(atKey xs k).isSome=(aE es k).isSome:=(jr h2 k).elim (fun h=>by rw [h.1,h.2];rfl) fun h=>bP h fun _ _ _ e1 e2 _=>by rw [e1,e2];rfl
  exact e▸.toks I bq ⟨_,rfl,q⟩
theorem in_text(I:Inv B γ φ ι H s){va vb:Value}{l h:List Nat}{Q:Bool→Hp→Prop}(ra:Rep ι va (.str l))(rb:Rep ι vb (.str h))(q:Q (decide (l <:+: h)) H) :
  wpAny (model prog B.w) A (compareOp .In va vb) (PE B γ φ ι fun v H'=>∃b,v=.bool b∧Q b H') aA s:=by
 refine ao (bA ra) ?_;rintro t rfl _
 refine ao (bA rb) ?_;rintro u rfl _
 refine P.in_str ?_
 rw [wg]
 exact .here I bq ⟨_,rfl,by exact q⟩
theorem seqIndex_at{k:Int}{n:Nat}(h0:0≤k)(h:k.toNat<n):seqIndex? k n=some k.toNat:=by
 have e:(if k<0 then k+n else k)=k:=if_neg (Int.not_lt.mpr h0)
 have g:k<(n:Int):=Int.toNat_of_nonneg h0▸Int.ofNat_lt.mpr h
 delta seqIndex?
 dsimp only
 rw [e]
 exact if_pos (Bool.and_eq_true_iff.mpr ⟨decide_eq_true h0,decide_eq_true g⟩)
theorem tE{k:Int}(h:k≤big):k<2^63:=Int.lt_of_le_of_lt h (by decide)
theorem Ek(I:Inv B γ φ ι H s)(R:bx A 0){a i:V}{va vi:Value}{Q:PV}(ra:Rep ι va a)(ri:Rep ι vi i)(h:kG H Q a i) :
  wpAny (model prog B.w) A (getItem va vi) (PE B γ φ ι Q) aA s:=by
 cases h with
 |seq hl h0 h1 hx q=>exact bP (isList I ra hl) fun b n items e hb hi=>aL ri fun t e'=>e▸e'▸ao (hi.get hx) fun v hv rv=>wpAny_getItem_list ⟨_,hb,rfl,_,rfl⟩ h0 (tE h1) (Array.getElem?_toList▸hv) (.here I rv q)
 |tup h0 h1 hx q=>exact bP (bJ ra) fun b n items e hb hi=>aL ri fun t e'=>e▸e'▸ao (hi.get hx) fun v hv rv=>getItem_tuple ⟨_,I.data _ _ hb,rfl,_,rfl⟩ (Int.le_trans (of_decide_eq_true rfl) h0) (tE h1) (seqIndex_at h0 (List.getElem?_eq_some_iff.mp hv).1) (Array.getElem?_toList▸hv) (.here I rv q)
 |@str l k x h0 h1 hx q =>
  refine ao (bA ra) fun u e hl=>aL ri fun t e'=>e▸e'▸P.getItem_str (c:=x) (Bool.or_eq_false_iff.mpr ⟨decide_eq_false (Int.not_lt.mpr (Int.le_trans (of_decide_eq_true rfl) h0)),decide_eq_false (Int.not_le.mpr (tE h1))⟩) ?_ (.toks I (pB (l:=[x]) fun c hc=>by cases List.mem_singleton.mp hc;exact hl _ (List.mem_of_getElem? hx)) q)
  exact (show seqIndex? k (⟨l.toArray⟩:Str).length=some k.toNat from seqIndex_at h0 (List.getElem?_eq_some_iff.mp hx).1)▸(List.getElem?_toArray ..).trans hx
 |dict hd hk hx q =>
  refine (show va=.ref _ from ra)▸I.dictAt hd fun o ho hr _ _=>hk.elim (fun hk=>?_) fun hk=>?_
  ·refine fm (dQ (prog:=prog) (B:=B) ri hk.1) fun l t e1 e2 hl his=>ao (uJ (prog:=prog) ho hr hk.2) fun kvs h1 h2=>?_
   subst e1 e2
   exact (ir h2 l).elim (fun h=>x2 h.1 hx) fun h=>aP h fun y v e1 e2 rv=>wpAny_getItem_of his h1.mapOf e2 (.toks I rv (Option.some.inj (e1.symm.trans hx)▸q))
  ·refine ao (yc (prog:=prog) I ri hk.1) fun a' e his=>ao (qT (prog:=prog) I.data ho hr hk.2) fun xs h1 h2=>?_
   subst e
   exact (jr h2 i).elim (fun h=>x2 h.1 hx) fun h=>bP h fun y b' v e1 e2 rv=>wpAny_getItem_heap (N.l2 (N.l4 R.u0 (of_decide_eq_true rfl)):A.in1.units+10<cLine) his h1 e2 (.toks I rv (Option.some.inj (e1.symm.trans hx)▸q))
end
end Mine
end
section
namespace Mine
open PySem PyProof.Rows
open scoped Classical
open SetTable
noncomputable def hashAt(es:Array (Int×Value))(i:Nat):Int:=(es[i]?.map (·.1)).getD 0
noncomputable def sT2(t:SetTable)(a:Addr)(x:Value)(h:Int)(adding:Bool)(fuel j:Nat)(next:SetTable.Probe)(y:Value)(equal:Bool):Sem SetFound:=do
 let (es',_,t') ←setState a
 if adding&&equal then return .there none
 let some same:=t'.sameMemory t.moves t.mask | unsupported "set.changed-during-lookup:is-the-new-block-at-the-old-address"
 let still ←match (if same then t'.slot j else .empty) with
  |.live i'=>match es'[i']? with
   |some (_,y')=>do pure (if ←isSame y' y then some i' else none)
   |none=>pure none
  |_=>pure none
 match still with
 |none=>rule "set.search.anew";setSearchFrom a x h adding fuel none
 |some i'=>if equal then return .there (some i') else setSearchFrom a x h adding fuel (some next)
noncomputable def sT1(t:SetTable)(a:Addr)(x:Value)(h:Int)(adding:Bool)(fuel j i:Nat)(next:SetTable.Probe)(es:Array (Int×Value)):Sem SetFound:=do
 let some (_,y):=es[i]? | unsupported "internal:set-entry"
 let equal ←holding [y] (eqBool y x)
 sT2 t a x h adding fuel j next y equal
theorem r8(a:Addr)(x:Value)(h:Int)(adding:Bool)(fuel:Nat)(stand:Option SetTable.Probe):setSearchFrom a x h adding (fuel+1) stand=(do
  let (es,_,t) ←setState a
  if t.gaveWay then unsupported "set:on-a-table-that-gave-way"
  let some met:=t.probe (hashAt es) h (stand.getD (t.probeStart h)) | unsupported "internal:set-table-without-an-empty-slot"
  match met with
  |.empty j dummy =>
   match dummy with
   |none=>return .free j false
   |some d =>
    if adding&&t.slot d !=.dummy then rule "set.search.the-dummy-was-taken";return ←setSearchFrom a x h adding fuel none
    return .free d true
  |.candidate j i next =>
   if !t.led then
    if ←searchCouldBeSeen x ((es.filter (·.1==h)).toList.map (·.2)) then unsupported "set:the-search-would-show-the-table"
   sT1 t a x h adding fuel j i next es):=by kernel_rfl
theorem tM(n:Nat):∀x:V,uE n x=true→cT n x=true:=by
 induction n with
 |zero=>exact fun _ h=>xf h
 |succ n ih =>
  intro x h
  cases x with
  |str _=>rfl
  |int _=>rfl
  |tup vs=>exact List.all_eq_true.mpr fun y hy=>ih y (List.all_eq_true.mp h y hy)
  |_=>injection h
theorem tN(n:Nat):∀(m:Nat) (x:V),n≤m→cT n x=true→cT m x=true:=by
 induction n with
 |zero=>exact fun _ _ _ h=>xf h
 |succ n ih =>
  intro m x hm h
  cases m with
  |zero=>exact absurd hm (Nat.not_lt_zero _)
  |succ m =>
   cases cJ h with
   |str=>rfl
   |int=>rfl
   |tup g=>exact List.all_eq_true.mpr fun y hy=>ih m y (Nat.le_of_succ_le_succ hm) (g y hy)
theorem iK{x:V}(h:isTup x=true):isT x=true:=by
 cases x with
 |tup vs=>exact List.all_eq_true.mpr fun y hy=>tN 4 6 y (Nat.le_add_left _ _) (tM 4 y (List.all_eq_true.mp h y hy))
 |_=>injection h
section
variable{prog:Program}{w:World}
theorem qx(d:Nat)(a:Addr):ofAClassStatement (d+1) (.ref a)=(do
  match ←typeOf (.ref a) with
  |.type t =>
   let underTuple ←if t=="tuple" then pure true else isSubtype (.type t) (.type "tuple")
   if !underTuple then return false
   let some items ←seqItems? (.ref a) | return true
   for y in items do
    if ←ofAClassStatement d y then return true
   return false
  |_=>return true):=by kernel_rfl
theorem jx(n:Nat):∀(depth:Nat) (x:V) {A:Around} {E:Value→Shared→Prop} {s:Shared} {v:Value} {Q:Bool→Shared→Prop},cT n x=true→n≤depth→Rep (hob s.heap) v x→Q false s →
  wpAny (model prog w) A (ofAClassStatement depth v) Q E s:=by
 induction n with
 |zero=>exact fun _ x _ _ _ _ _ h=>xf h
 |succ n ih =>
  intro depth x A E s v Q hx hd r h
  cases depth with
  |zero=>exact absurd hd (Nat.not_lt_zero _)
  |succ depth =>
  cases cJ hx with
  |int=>exact aL r fun t e=>e▸wpAny_pure h
  |str=>exact aL r.1 fun t e=>e▸wpAny_pure h
  |tup g =>
   refine bP r fun a k items e h1 h2=>?_
   subst e
   rw [qx]
   refine wpAny_bind (wpAny_typeOf ⟨_,h1,rfl⟩ (wbp (wpAny_bind (wpAny_seqItems h1 rfl (wpAny_bind ?_)))))
   rw [←Array.forIn_toList]
   refine wpAny_forIn_list _ (fun rest r s'=>r.1=none∧s'=s∧TL n s.heap rest) _ ?_ ?_ _ _ ⟨rfl,rfl,.of g h2⟩
   ·rintro y rest r s' ⟨hr,rfl,t⟩
    cases t with | cons hx r t =>
    exact wpAny_bind (ih depth _ hx (Nat.le_of_succ_le_succ hd) r (wpAny_pure ⟨rfl,rfl,t⟩))
   ·rintro ⟨r1,r2⟩ s' ⟨hr,rfl,_⟩
    cases hr
    exact wpAny_pure h
inductive RL(prog:Program)(w:World)(h:Heap):Value→Prop
 |mk (b:Addr) (k:V) (hk:(aG prog w).is h k b):RL prog w h (.ref b)
theorem DO{A:Around}{E:Value→Shared→Prop}{s:Shared}{x:Addr}{k:V}{Q:Bool→Shared→Prop}(hk:(aG prog w).is s.heap k x)(l:List Value)(hl:∀y∈l,RL prog w s.heap y)(h:Q false s) :
  wpAny (model prog w) A (searchCouldBeSeen (.ref x) l) Q E s:=by
 refine wpAny_bind (wpAny_forIn_list _ (fun rest r s'=>r.1=none∧s'=s∧∀y∈rest,RL prog w s.heap y) _ ?_ ?_ _ _ ⟨rfl,rfl,hl⟩)
 ·rintro y rest r s' ⟨hr,rfl,hall⟩
  have fin:∀y∈rest,RL prog w _ y:=fun y hy=>hall y (List.mem_cons_of_mem _ hy)
  cases hall y List.mem_cons_self with | mk b k' hk' =>
  exact if hb:((x==b)||(carriedByValue (.ref x)&&carriedByValue (.ref b)))=true then wy hb (wpAny_pure ⟨rfl,rfl,fin⟩) else wn hb (wpAny_bind ((aG prog w).quiet hk (wpAny_bind ((aG prog w).quiet hk'
   (wpAny_bind (jx 7 8 k (jE hk.1) (of_decide_eq_true rfl) hk.2 (wpAny_bind (jx 7 8 k' (jE hk'.1) (of_decide_eq_true rfl) hk'.2 (wpAny_pure ⟨rfl,rfl,fin⟩)))))))))
 ·rintro ⟨r1,r2⟩ s' ⟨hr,rfl,_⟩
  cases hr
  exact wpAny_pure h
structure cg(prog:Program)(w:World)(h:Heap)(a:Addr)(o:Obj)(en:Array (Int×Value))(ep:Nat)(t:SetTable)(ks:List V):Prop where
 ho:h.get? a=some o
 hd:o.data=.set en ep t
 tab:ST.Tab t (en.toList.map (·.1))
 hl:en.size≤t.mask
 el:∀(i:Nat) (k:V),ks[i]?=some k→∃b,en[i]?=some (keyHash w k,Value.ref b)∧(aG prog w).is h k b
 kl:ks.length=en.size
 nd:ks.Nodup
theorem cg.fits{h:Heap}{a:Addr}{o:Obj}{en:Array (Int×Value)}{ep:Nat}{t:SetTable}{ks:List V}(S:cg prog w h a o en ep t ks):t.fits en.size=true:=by
 have h1:=S.tab.sz
 simp only [List.length_map,Array.length_toList] at h1
 delta SetTable.fits SetTable.fill
 simp only [S.tab.dm,h1]
 simpa using S.hl
theorem BE(t:SetTable):t.sameMemory t.moves t.mask=some true:=by delta SetTable.sameMemory;simp
theorem cg.at{h:Heap}{a:Addr}{o:Obj}{en:Array (Int×Value)}{ep:Nat}{t:SetTable}{ks:List V}(S:cg prog w h a o en ep t ks){i:Nat}(hi:i<en.size):∃k b,ks[i]?=some k∧en[i]?=some (keyHash w k,Value.ref b)∧(aG prog w).is h k b:=by
 refine ao (S.el i _ (show ks[i]?=some (ks[i]'((S.kl)▸hi)) from List.getElem?_eq_getElem _)) fun b h1 h2=>?_
 exact ⟨_,b,(show ks[i]?=some (ks[i]'((S.kl)▸hi)) from List.getElem?_eq_getElem _),h1,h2⟩
theorem cg.lt{h:Heap}{a:Addr}{o:Obj}{en:Array (Int×Value)}{ep:Nat}{t:SetTable}{ks:List V}(S:cg prog w h a o en ep t ks){i j:Nat}(g:t.place[i]?=some j):i<en.size:=by
 have h2:=S.tab.sz
 rw [List.length_map,Array.length_toList] at h2
 exact Nat.lt_of_lt_of_le (Array.getElem?_eq_some_iff.mp g).1 (Nat.le_of_eq h2)
theorem cg.hash{h:Heap}{a:Addr}{o:Obj}{en:Array (Int×Value)}{ep:Nat}{t:SetTable}{ks:List V}(S:cg prog w h a o en ep t ks){i:Nat}{k:V}(g:ks[i]?=some k):hashAt en i=keyHash w k :=
 ao (S.el i k g) fun b h1 _=>by delta hashAt;rw [h1];rfl
theorem cg.stays{h:Heap}{a:Addr}{o:Obj}{en:Array (Int×Value)}{ep:Nat}{t:SetTable}{ks:List V}(S:cg prog w h a o en ep t ks):t.gaveWay=false:=by
 delta SetTable.gaveWay
 rcases S.tab.mok with h | h | h | h<;>rw [h]<;>rfl
theorem zK{M:Model}{A:Around}{E:Value→Shared→Prop}{s:Shared}{b:Addr}{Q:Bool→Shared→Prop}(q:Q true s):wpAny M A (isSame (.ref b) (.ref b)) Q E s:=by
 dsimp only [isSame];exact wy (beq_self_eq_true b) (wpAny_pure q)
theorem Ec{A:Around}{E:Value→Shared→Prop}{s:Shared}{a b:Addr}{o:Obj}{en:Array (Int×Value)}{ep:Nat}{t:SetTable}{ks:List V}{adding equal:Bool}{Q:SetFound→Shared→Prop}(S:cg prog w s.heap a o en ep t ks){x:Value}{h hh:Int}{fuel i j:Nat}{next:SetTable.Probe}(hi:en[i]?=some (hh,.ref b))(hp:t.place[i]?=some j)
  (q1:(adding&&equal)=true→Q (.there none) s) (q2:(adding&&equal)=false→wpAny (model prog w) A (if equal=true then pure (.there (some i)) else setSearchFrom a x h adding fuel (some next)) Q E s):wpAny (model prog w) A (sT2 t a x h adding fuel j next (.ref b) equal) Q E s:=by
 refine wpAny_bind (wpAny_setState_of S.ho S.hd S.fits (if hq:(adding&&equal)=true then wy hq (wpAny_pure (q1 hq)) else wn hq ?_))
 rw [BE]
 dsimp only
 rw [if_pos rfl,ST.nV S.tab.ri hp]
 dsimp only
 rw [hi]
 exact wpAny_bind (zK (wbp (q2 (Bool.eq_false_iff.mpr hq))))
theorem nW{A:Around}{E:Value→Shared→Prop}{s:Shared}{a x:Addr}{k:V}{o:Obj}{en:Array (Int×Value)}{ep:Nat}{t:SetTable}{ks:List V}{adding:Bool}{Q:SetFound→Shared→Prop}{n0:Nat}(hu:A.units+10<cLine)(hk:(aG prog w).is s.heap k x)(S:cg prog w s.heap a o en ep t ks)
  (e0:n0<10*turns t.mask) (e1:(ST.path t.mask (keyHash w k) n0).j∉t.place) (e2:∀m,m<n0→(ST.path t.mask (keyHash w k) m).j∈t.place)
  (q1:∀i:Nat,ks[i]?=some k→Q (.there (if adding then none else some i)) s) (q2:k∉ks→Q (.free (ST.path t.mask (keyHash w k) n0).j false) s) (fuel:Nat) :
  ∀(n:Nat) (stand:Option SetTable.Probe),(stand=some (ST.path t.mask (keyHash w k) n)∨(n=0∧stand=none))→n≤n0→n0-n<fuel→(∀i:Nat,ks[i]?=some k→∃m,n≤m∧m<n0∧t.place[i]?=some (ST.path t.mask (keyHash w k) m).j) →
   wpAny (model prog w) A (setSearchFrom a (.ref x) (keyHash w k) adding fuel stand) Q E s:=by
 induction fuel with
 |zero=>exact fun n stand _ _ h=>absurd h (Nat.not_lt_zero _)
 |succ fuel ih =>
  intro n stand hst hn hf hat
  rw [r8]
  refine wpAny_bind (wpAny_setState_of S.ho S.hd S.fits (wn (fun h=>Bool.false_ne_true (S.stays.symm.trans h)) ?_))
  have hsd:stand.getD (t.probeStart (keyHash w k))=ST.path t.mask (keyHash w k) n:=hst.elim (fun h=>h▸rfl) fun h=>h.1▸h.2▸rfl
  dsimp only
  rw [hsd]
  delta SetTable.probe
  refine ST.q9 S.tab e1 e2 (hashAt en) (10*turns t.mask) n hn (N.i4 e0) (fun g1 g2=>?_) fun m i g1 g2 g3 g4 g5 g6=>?_
  ·refine g1▸wpAny_pure (q2 fun hm=>aL (List.mem_iff_getElem?.mp hm) fun i hi=>br (hat i hi) fun m h1 h2 h3=>g2 m h1 h2 i h3 (S.hash hi))
  ·refine g5▸aP (S.at (S.lt g3)) fun k' b hk1 hk2 hk3=>?_
   have rest:wpAny (model prog w) A (sT1 t a (.ref x) (keyHash w k) adding fuel (ST.path t.mask (keyHash w k) m).j i (ST.path t.mask (keyHash w k) (m+1)) en) Q E s:=by
    delta sT1
    rw [hk2]
    refine wpAny_bind (wpAny_holding ((aG prog w).eqBool hu hk3 hk (Ec S hk2 g3 (fun h=>?_) fun h=>?_)))
    ·have e:=Bool.and_eq_true_iff.mp h
     cases of_decide_eq_true e.2
     exact (if_pos e.1:(if adding=true then none else some i)=none)▸q1 i hk1
    ·by_cases e:k'=k
     ·subst e
      rw [decide_eq_true rfl,Bool.and_true] at h
      refine wy (decide_eq_true rfl) (wpAny_pure ?_)
      exact (if_neg (fun e=>Bool.false_ne_true (h.symm.trans e)):(if adding=true then none else some i)=some i)▸q1 i hk1
     ·refine wn (fun h=>e (of_decide_eq_true h)) (ih (m+1) _ (.inl rfl) g2 (N.a6 g1 g2 hf) fun i' hi'=>br (hat i' hi') fun m' h1 h2 h3=>⟨m',?_,h2,h3⟩)
      refine (Nat.lt_trichotomy m' m).elim (fun h=>absurd (S.hash hi') (g6 m' h1 h i' h3)) fun h=>h.elim (fun h=>?_) id
      subst h
      cases (ST.below_at S.tab.ri h3).symm.trans (ST.below_at S.tab.ri g3)
      exact absurd (Option.some.inj (hk1.symm.trans hi')) e
   cases t.led
   ·refine wpAny_bind (DO hk _ (fun y hy=>?_) rest)
    refine ao (List.mem_map.mp hy) fun e he ey=>?_
    refine aL (Array.mem_iff_getElem?.mp (Array.mem_filter.mp (Array.mem_toList_iff.mp he)).1) fun i' hi'=>aP (S.at (Array.getElem?_eq_some_iff.mp hi').1) fun k2 b2 _ h2 h3=>?_
    exact ey▸Option.some.inj (h2.symm.trans hi')▸.mk b2 k2 h3
   ·exact rest
end
end Mine
end
section
namespace Mine
open PySem PyProof.Rows
open scoped Classical
open SetTable
section
variable{prog:Program}{w:World}
theorem tL{h h':Heap}{k:V}{a d:Addr}{o:Obj}(x:(aG prog w).is h k a)(ho:h.get? d=some o)(hd:∀items n,o.data≠.seq items n)(hs:Heap.SameBut d h h'):(aG prog w).is h' k a:=by
 refine ⟨x.1,(mH ho hd 7 k _ (jE x.1) x.2).mono fun b ob hb=>?_⟩
 by_cases e:b=d
 ·simp [e] at hb
 ·simp only [e] at hb;exact (hs.2 b e).trans hb
theorem qF(n:Nat):∀(m:Nat) (x:V) {A:Around} {E:Value→Shared→Prop} {s:Shared} {v:Value} {Q:Bool→Shared→Prop},cT n x=true→n≤m→Rep (hob s.heap) v x →
  (∀b,Q b s)→wpAny (model prog w) A (hashByValue m v) Q E s:=by
 induction n with
 |zero=>exact fun m x _ _ _ _ _ h=>xf h
 |succ n ih =>
  intro m x A E s v Q hx hm r h
  cases m with
  |zero=>exact absurd hm (Nat.not_lt_zero _)
  |succ m =>
  cases cJ hx with
  |int=>exact aL r fun t e=>e▸wpAny_pure (h _)
  |str=>exact aL r.1 fun t e=>e▸wpAny_pure (h _)
  |tup g =>
   refine bP r fun a k items e h1 h2=>?_
   subst e
   refine wpAny_bind (wpAny_specialOf ⟨_,h1,rfl⟩ F.slot_tuple_hash.lookup (wpAny_bind (wpAny_seqItems h1 rfl (wpAny_bind ?_))))
   rw [←Array.forIn_toList]
   refine wpAny_forIn_list _ (fun rest r s'=>r.1=none∧s'=s∧TL n s.heap rest) _ ?_ ?_ _ _ ⟨rfl,rfl,.of g h2⟩
   ·rintro y rest r s' ⟨hr,rfl,t⟩
    cases t with | cons hx r t =>
    refine wpAny_bind (ih m _ hx (Nat.le_of_succ_le_succ hm) r fun b=>?_)
    cases b
    ·exact wpAny_pure (wpAny_pure (h _))
    ·exact wpAny_pure ⟨rfl,rfl,t⟩
   ·rintro ⟨r1,r2⟩ s' ⟨hr,rfl,_⟩
    cases hr
    exact wpAny_pure (h _)
theorem zT(a:Addr)(wanted:Nat):setRelay a wanted=(do
  let (es,_,t) ←setState a
  if SetTable.sizeAbove wanted>sizeLine then unsupported "set:memory"
  let (es,t) ←(do
   let some (t,order):=(t.relaid (es.map (·.1)) wanted) | unsupported "internal:set-table-without-room"
   let es':=order.filterMap (es[·]?)
   if es'.size !=es.size then unsupported "internal:set-table-lost-an-element"
   pure (es',t):Sem (Array (Int×Value)×SetTable))
  storeSet a es t):=rfl
theorem kI{α:Type}(en:Array α)(order:Array Nat)(d:α)(h:∀i∈order.toList,i<en.size):(order.filterMap (en[·]?)).toList=order.toList.map fun i=>en.getD i d:=by
 simp only [Array.toList_filterMap]
 generalize order.toList=l at h
 induction l with
 |nil=>rfl
 |cons i l ih =>
  rw [List.filterMap_cons_some (b:=en.getD i d) (by simp [(h i List.mem_cons_self)]),List.map_cons,ih fun j hj=>h j (List.mem_cons_of_mem _ hj)]
theorem cF{α:Type}(l:List α)(d:α):(List.range l.length).map (fun i=>l.getD i d)=l:=by
 apply List.ext_getElem?
 intro i
 refine (List.getElem?_map)▸?_
 by_cases h:i<l.length
 ·rw [List.getElem?_range h];simp [h]
 ·rw [List.getElem?_eq_none (by simpa using h),List.getElem?_eq_none (Nat.le_of_not_lt ‹_›)];rfl
theorem cg.keep{h h':Heap}{a:Addr}{o:Obj}{en:Array (Int×Value)}{ep:Nat}{t:SetTable}{ks:List V}(S:cg prog w h a o en ep t ks){o':Obj}{en':Array (Int×Value)}{ep':Nat}{t':SetTable}{ks':List V}
  (hs:Heap.SameBut a h h') (ho':h'.get? a=some o') (hd':o'.data=.set en' ep' t') (tab:ST.Tab t' (en'.toList.map (·.1))) (hl:en'.size≤t'.mask) (kl:ks'.length=en'.size) (nd:ks'.Nodup)
  (el:∀(i:Nat) (k:V),ks'[i]?=some k→∃b,en'[i]?=some (keyHash w k,Value.ref b)∧(aG prog w).is h k b):cg prog w h' a o' en' ep' t' ks' :=
 ⟨ho',hd',tab,hl,fun i k hk=>by
  refine ao (el i k hk) fun b h1 h2=>?_
  exact ⟨b,h1,tL h2 S.ho (fun items n e=>by replace e:=(S.hd).symm.trans e;injection e) hs⟩,kl,nd⟩
theorem cg.put{A:Around}{E:Value→Shared→Prop}{s:Shared}{a:Addr}{o:Obj}{en:Array (Int×Value)}{ep:Nat}{t:SetTable}{ks:List V}(S:cg prog w s.heap a o en ep t ks){en':Array (Int×Value)}{t':SetTable}{ks':List V}(tab:ST.Tab t' (en'.toList.map (·.1)))(hl:en'.size≤t'.mask)(kl:ks'.length=en'.size)(nd:ks'.Nodup)
  (el:∀(i:Nat) (k:V),ks'[i]?=some k→∃b,en'[i]?=some (keyHash w k,Value.ref b)∧(aG prog w).is s.heap k b) (hz:en'.size≤sizeLine) {Q:Unit→Shared→Prop} (q:∀h',Heap.SameBut a s.heap h'→cg prog w h' a { o with data:=.set en' (ep+1) t' } en' (ep+1) t' ks'→Q () { s with heap:=h' }):wpAny (model prog w) A (storeSet a en' t') Q E s :=
 wpAny_storeSet_of S.ho S.hd (q _ (Heap.SameBut.update ..) (S.keep (Heap.SameBut.update ..) ((Heap.get?_update_self (Obj.putSet en' t') S.ho (putSet_of en' t' S.hd▸rfl)).trans (congrArg some (putSet_of en' t' S.hd))) rfl tab hl kl nd el)) hz
theorem zS{A:Around}{E:Value→Shared→Prop}{s:Shared}{a:Addr}{o:Obj}{en:Array (Int×Value)}{ep:Nat}{t:SetTable}{ks:List V}{Q:Unit→Shared→Prop}{wanted:Nat}(S:cg prog w s.heap a o en ep t ks)
  (hm:ST.cH (SetTable.sizeAbove wanted-1)) (hle:en.size≤SetTable.sizeAbove wanted-1) (hw:SetTable.sizeAbove wanted≤sizeLine) (hz:en.size≤sizeLine)
  (q:∀h' o' en' ep' t' ks',Heap.SameBut a s.heap h'→o'={ o with data:=.set en' ep' t' }→cg prog w h' a o' en' ep' t' ks'→(en'.toList.zip ks').Perm (en.toList.zip ks)→ks'.Perm ks→en'.size=en.size→t'.led=t.led→t'.mask=SetTable.sizeAbove wanted-1→Q () { s with heap:=h' }) :
  wpAny (model prog w) A (setRelay a wanted) Q E s:=by
 rw [zT]
 refine wpAny_bind (wpAny_setState_of S.ho S.hd S.fits ?_)
 dsimp only
 refine (if_neg (Nat.not_lt.mpr hw))▸?_
 refine o5 (ST.BY hm t.finger (t.movedTo (sizeAbove wanted-1)) t.led t.plain (en.map (·.1)) (by simpa using hle)) fun t' order e1 e2 e3 e4 e5 e6=>?_
 have hlt:∀i∈order.toList,i<en.size:=fun i hi=>by
  have:=e5.mem_iff.mp hi
  simpa using this
 have hen:(order.filterMap (en[·]?)).toList=order.toList.map fun i=>en.getD i (0,.none):=kI en order _ hlt
 have hsz:(order.filterMap (en[·]?)).size=en.size:=by
  rw [←Array.length_toList,hen,List.length_map,e5.length_eq];simp
 refine wpAny_bind ?_
 rw [(show t.relaid (en.map (·.1)) wanted=some (t',order) from e1)]
 dsimp only
 refine wn ((by simp [hsz])) ?_
 refine wpAny_pure ?_
 have hperm:(order.toList.map fun i=>ks.getD i .none).Perm ks:=by
  have h1:=e5.map fun i=>ks.getD i V.none
  replace h1:=(Array.size_map)▸h1
  rw [←S.kl,cF] at h1
  exact h1
 refine S.put (ks':=order.toList.map fun i=>ks.getD i .none) ?_ ?_ ?_ (hperm.nodup_iff.mpr S.nd) ?_ (N.b4 hsz hz) fun h' hs S'=>q h' _ _ _ _ _ hs rfl S' ?_ hperm hsz e3 e2
 ·simp only [hen,List.map_map]
  have:(order.toList.map ((fun x:Int×Value=>x.1)∘fun i=>en.getD i (0,Value.none)))=order.toList.map fun i=>(en.map (·.1)).getD i 0:=by
   refine List.map_congr_left fun i hi=>?_
   have:=hlt i hi
   simp [this]
  exact (this)▸e6
 ·simp only [hsz,e2];exact hle
 ·simp only [hsz,List.length_map,e5.length_eq];simp
 ·intro i k hk
  rw [List.getElem?_map,Option.map_eq_some_iff] at hk
  refine ao hk ?_;clear hk;rintro i0 h0 rfl
  have hk0:ks[i0]?=some (ks.getD i0 .none):=by
   simp only [List.getD_eq_getElem?_getD]
   rw [List.getElem?_eq_getElem (by simpa only [S.kl] using (hlt i0 (List.mem_of_getElem? h0)))];rfl
  refine ao (S.el i0 _ hk0) fun b h1 h2=>?_
  refine ⟨b,?_,h2⟩
  rw [←Array.getElem?_toList,hen,List.getElem?_map,h0]
  dsimp only [Option.map_some]
  rw [Array.getD_eq_getD_getElem?,h1];rfl
 ·simp only [hen,List.zip_map']
  have h1:=e5.map fun i=>(en.getD i (0,Value.none),ks.getD i V.none)
  rw [Array.size_map] at h1
  refine h1.trans (List.Perm.of_eq ?_)
  rw [←List.zip_map',←S.kl,cF,S.kl]
  congr 1
  have:=cF en.toList (0,Value.none)
  simp only [Array.length_toList] at this
  refine (this)▸?_
  refine List.map_congr_left fun i hi=>?_
  simp only [Array.getD_eq_getD_getElem?,List.getD_eq_getElem?_getD,Array.getElem?_toList]
theorem insI_perm{α:Type}(l:List α)(p:Nat)(x:α):(ST.insI l p x).Perm (x::l):=by
 calc (l.take p++x::l.drop p).Perm (x::(l.take p++l.drop p)):=List.perm_middle
  _=x::l:=by exact (((List.take_append_drop p l).symm))▸rfl
theorem AB{α:Type}{xs:Array α}{p:Nat}{x:α}(hp:p≤xs.size)(i:Nat):(insertAt xs p x)[i]?=if i<p then xs[i]? else if i=p then some x else xs[i-1]?:=by
 simp only [(show (insertAt xs p x)[i]?=(ST.insI xs.toList p x)[i]? from by rw [←Array.getElem?_toList,ST.sM];rfl),(ST.jl (l:=xs.toList) (x:=x) hp i)]
 simp only [Array.getElem?_toList]
theorem oY{t:SetTable}{hs:List Int}(T:ST.Tab t hs)(b:Bool):ST.Tab (if b=true then t else { t with plain:=false }) hs:=by
 cases b
 ·exact ⟨T.sz,T.dm,T.mok,T.ri,T.le,T.re⟩
 ·exact T
theorem jw{t:SetTable}{hs:List Int}(T:ST.Tab t hs){h:Int}{n0 i:Nat}(e1:(ST.path t.mask h n0).j∉t.place)(hi:hs[i]?=some h):∃m,0≤m∧m<n0∧t.place[i]?=some (ST.path t.mask h m).j:=by
 refine ao (T.re i h hi) fun n h1 h2=>?_
 have hlt:i<t.place.size:=by simpa only [T.sz] using (List.getElem?_eq_some_iff.mp hi).1
 refine ⟨n,Nat.zero_le _,?_,by rw [ST.eX hlt,h1]⟩
 rcases Nat.lt_trichotomy n n0 with h | h | h
 ·exact h
 ·subst h;exact absurd (ST.mem_getD.mpr ⟨i,hlt,h1.symm⟩) e1
 ·exact absurd (h2 n0 h) e1
theorem qZ{m:Nat}(h:ST.cH m):10*turns m≤6000:=by
 delta turns;rcases h with rfl | rfl | rfl | rfl<;>exact Nat.le_add_left _ _
theorem cg.hs{h:Heap}{a:Addr}{o:Obj}{en:Array (Int×Value)}{ep:Nat}{t:SetTable}{ks:List V}(S:cg prog w h a o en ep t ks){i:Nat}{k:V}(hk:ks[i]?=some k):(en.toList.map (·.1))[i]?=some (keyHash w k):=by
 refine ao (S.el i k hk) fun b h1 _=>?_
 simp only [List.getElem?_map,Array.getElem?_toList,h1];rfl
theorem ins_map(en:Array (Int×Value))(p:Nat)(x:Int×Value):(insertAt en p x).toList.map (·.1)=ST.insI (en.toList.map (·.1)) p x.1:=by
 rw [ST.sM];delta ST.insI;simp
theorem yZ{α β:Type}{l:List α}{m:List β}(h:l.length=m.length)(p:Nat)(x:α)(y:β):(ST.insI l p x).zip (ST.insI m p y)=ST.insI (l.zip m) p (x,y):=by
 delta ST.insI
 rw [List.zip_append (by simp [h]),List.zip_cons_cons]
 delta List.zip;rw [List.take_zipWith,List.drop_zipWith]
theorem AE{n m:Nat}(ok:ST.cH m)(hlt:n*5<m*3)(hf:(n+1)*5≥m*3)(hb:n≤cG):∃mk,SetTable.sizeAbove (SetTable.grown (n+1))=mk+1∧ST.cH mk∧(n+1)*5<mk*3∧mk≤511:=by
 rcases ok with rfl | rfl | rfl | rfl
 ·have:n=4:=by omega
  subst this;exact ⟨31,rfl,.inr (.inl rfl),of_decide_eq_true rfl,of_decide_eq_true rfl⟩
 ·have:n=18:=by omega
  subst this;exact ⟨127,by rfl,.inr (.inr (.inl rfl)),of_decide_eq_true rfl,of_decide_eq_true rfl⟩
 ·have:n=76:=by omega
  subst this;exact ⟨511,by rfl,.inr (.inr (.inr rfl)),of_decide_eq_true rfl,of_decide_eq_true rfl⟩
 ·delta cG at hb;omega
theorem pT{n m:Nat}(ok:ST.cH m)(h:n*5<m*3):n+1≤m:=by
 rcases ok with rfl | rfl | rfl | rfl<;>exact N.f3 h
theorem cg.ins{h:Heap}{a x:Addr}{k:V}{o:Obj}{en:Array (Int×Value)}{ep:Nat}{t:SetTable}{ks:List V}(S:cg prog w h a o en ep t ks)(hk:(aG prog w).is h k x){p:Nat}(hp:p≤en.size)(i:Nat)(k':V)(hk':(ST.insI ks p k)[i]?=some k'):∃b,(insertAt en p (keyHash w k,Value.ref x))[i]?=some (keyHash w k',Value.ref b)∧(aG prog w).is h k' b:=by
 rw [ST.jl (S.kl▸hp)] at hk'
 rw [AB hp]
 by_cases c1:i<p
 ·rw [if_pos c1] at hk' ⊢;exact S.el i k' hk'
 ·rw [if_neg c1] at hk' ⊢
  by_cases c2:i=p
  ·rw [if_pos c2] at hk' ⊢;cases hk';exact ⟨x,rfl,hk⟩
  ·rw [if_neg c2] at hk' ⊢;exact S.el (i-1) k' hk'
structure GL(prog:Program)(w:World)(h:Heap)(a x:Addr)(k:V)(o:Obj)(en:Array (Int×Value))(t:SetTable)(ks:List V)(h':Heap)(en':Array (Int×Value))(ep':Nat)(t':SetTable)(ks':List V):Prop where
 sb:Heap.SameBut a h h'
 S:cg prog w h' a { o with data:=.set en' ep' t' } en' ep' t' ks'
 zp:(en'.toList.zip ks').Perm (((keyHash w k,Value.ref x),k)::en.toList.zip ks)
 pm:ks'.Perm (k::ks)
 led:t'.led=t.led
 sz:en'.size=en.size+1
 lt:en'.size*5<t'.mask*3
theorem iG{A:Around}{E:Value→Shared→Prop}{s:Shared}{a x:Addr}{k:V}{o:Obj}{en:Array (Int×Value)}{ep:Nat}{t t2:SetTable}{ks:List V}{p:Nat}{Q:Bool→Shared→Prop}(hk:(aG prog w).is s.heap k x)(S:cg prog w s.heap a o en ep t ks)(hb:en.size≤cG)(hlt:en.size*5<t.mask*3)(hno:k∉ks)(hp:p≤en.size)(m2:t2.mask=t.mask)(l2:t2.led=t.led)(T2:ST.Tab t2 (ST.insI (en.toList.map (·.1)) p (keyHash w k)))
  (q2:∀h' en' ep' t' ks',GL prog w s.heap a x k o en t ks h' en' ep' t' ks'→Q true { s with heap:=h' }) :
  wpAny (model prog w) A (do
   storeSet a (insertAt en p (keyHash w k,.ref x)) t2
   if (!false&&t2.tooFull)=true then do
    setRelay a (SetTable.grown (en.size+1))
    return true
   else return true) Q E s:=by
 have hsz:(insertAt en p (keyHash w k,Value.ref x)).size=en.size+1:=ST.eN hp
 have hln:(insertAt en p (keyHash w k,Value.ref x)).size≤sizeLine:=hsz▸N.b2 hb (of_decide_eq_true rfl)
 have hperm:=insI_perm ks p k
 refine wpAny_bind (S.put (ks':=ST.insI ks p k) ((ins_map ..).symm▸T2) (hsz▸m2▸pT S.tab.mok hlt) (by rw [hsz,hperm.length_eq,List.length_cons,S.kl]) (hperm.nodup_iff.mpr (List.nodup_cons.mpr ⟨hno,S.nd⟩)) (S.ins hk hp) hln fun h' sb S2=>?_)
 have hzip:((insertAt en p (keyHash w k,Value.ref x)).toList.zip (ST.insI ks p k)).Perm (((keyHash w k,Value.ref x),k)::en.toList.zip ks):=by
  rw [ST.sM]
  exact (List.Perm.of_eq (yZ (S.kl.symm▸Array.length_toList) p _ k)).trans (insI_perm ..)
 have htf:(!false&&t2.tooFull)=decide ((en.size+1)*5≥t.mask*3):=by
  have h1:=S2.tab.sz
  rw [List.length_map,Array.length_toList,hsz] at h1
  delta SetTable.tooFull SetTable.fill;rw [S2.tab.dm,h1,m2];rfl
 by_cases hfull:(en.size+1)*5≥t.mask*3
 ·refine wy (htf.trans (decide_eq_true hfull)) (jF (AE S.tab.mok hlt hfull hb) fun mk hm1 hm2 hm3 hmk=>wpAny_bind (zS S2 (by rw [hm1];exact hm2) (by rw [hm1,hsz];exact N.f1 hm3) (by rw [hm1];exact N.b2 hmk (of_decide_eq_true rfl)) hln fun h2 o' en' ep' t' ks' hsb ho' S' hzp hpm hz' hl' hmk'=>wpAny_pure ?_))
  subst ho'
  exact q2 h2 en' ep' t' ks' ⟨sb.trans hsb,S',hzp.trans hzip,hpm.trans hperm,hl'.trans l2,hz'.trans hsz,by rw [hz',hsz,hmk',hm1];exact hm3⟩
 ·exact wn (fun h=>hfull (of_decide_eq_true (htf.symm.trans h))) (wpAny_pure (q2 _ _ _ _ _ ⟨sb,S2,hzip,hperm,l2,hsz,by rw [hsz,m2];exact Nat.lt_of_not_le hfull⟩))
theorem FP{A:Around}{E:Value→Shared→Prop}{s:Shared}{a x:Addr}{k:V}{o:Obj}{en:Array (Int×Value)}{ep:Nat}{t:SetTable}{ks:List V}{Q:Bool→Shared→Prop}(hu:A.units+10<cLine)(hk:(aG prog w).is s.heap k x)(S:cg prog w s.heap a o en ep t ks)
  (hb:en.size≤cG) (hlt:en.size*5<t.mask*3) (q1:k∈ks→Q false s)
  (q2:k∉ks→∀h' en' ep' t' ks',GL prog w s.heap a x k o en t ks h' en' ep' t' ks'→Q true { s with heap:=h' }) :
  wpAny (model prog w) A (setAddHashed a (.ref x) (keyHash w k)) Q E s:=by
 have hs:(en.toList.map (·.1)).length=en.size:=by simp
 refine br (ST.gH S.tab (hs▸S.hl) (keyHash w k)) fun n0 e0 e1 e2=>?_
 refine wpAny_holding (wpAny_bind (wpAny_setState_of S.ho S.hd S.fits (wn (fun h=>Bool.false_ne_true h) (wpAny_bind ?_))))
 refine nW hu hk S e0 e1 e2 (fun i hi=>wpAny_pure (q1 (List.mem_of_getElem? hi))) (fun hno=>wpAny_bind (wpAny_setState_of S.ho S.hd S.fits ?_)) 100000 0 none (.inr ⟨rfl,rfl⟩) (Nat.zero_le _) (Nat.lt_of_lt_of_le e0 (Nat.le_trans (qZ S.tab.mok) (of_decide_eq_true rfl))) fun i hi=>jw S.tab e1 (S.hs hi)
 refine GF (S.tab.put (ST.sY _ _ n0) e1 e2) fun p1 p2 p3 p4 p5 p6 T1=>?_
 dsimp only
 generalize t.put (ST.path t.mask (keyHash w k) n0).j=tp at p1 p2 p3 p4 p5 p6 T1 ⊢
 have hp:=hs▸p2
 cases tp.1.plain
 ·exact wbp (iG hk S hb hlt hno hp p3 p4 T1 (q2 hno))
 ·refine wpAny_bind (qF 7 8 k (jE hk.1) (Nat.le_add_left _ _) hk.2 fun b=>?_)
  cases b
  ·exact iG hk S hb hlt hno hp p3 p4 (oY T1 false) (q2 hno)
  ·exact iG hk S hb hlt hno hp p3 p4 T1 (q2 hno)
end
end Mine
end
section
namespace Mine
open PySem PyProof.Rows
open scoped Classical
section
variable{B:Base}{γ:Array GenState}{φ ι:Obs}{H:Hp}{s:Shared}{prog:Program}{A:Around}
theorem aI.kU{α β:Type}{R:α→β→Prop}{as:List α}{bs:List β}(x:aI R as bs){i:Nat}{b:β}(h:bs[i]?=some b):∃a,as[i]?=some a∧R a b:=by
 induction x generalizing i with
 |nil=>injection h
 |cons h1 _ ih =>
  cases i with
  |zero=>simp at h;subst h;exact ⟨_,rfl,h1⟩
  |succ i=>simp only [List.getElem?_cons_succ] at h ⊢;exact ih h
theorem sP{k:V}(h:isTup k=true):∃vs,k=.tup vs:=by
 cases k<;>first | exact ⟨_,rfl⟩ | injection h
theorem q7(I:Inv B γ φ ι H s){d:Addr}{es:List V}{k:aK}(hd:H d=some (.set es k))(hes:∀e∈es,isTup e=true){G:Prop}
  (q:∀o en,cg prog B.w s.heap d o en k.1 k.2 es→o.ExactSet→aI (iS B.w ι) en.toList es→fX B.w k.2 (en.toList.map (·.1)) es→en.size*5<k.2.mask*3→G):G :=
 ao (I.objs _ _ hd) fun o ho h=>br h.2 fun en h1 h3 h4=>by
  have hl:(en.toList.map (·.1)).length=en.size:=by simp
  have hsm:en.size*5<k.2.mask*3:=h4.kinds.elim (fun g=>by rw [g.2.1];exact Nat.lt_of_le_of_lt (Nat.mul_le_mul_right 5 (hl▸g.2.2)) (of_decide_eq_true rfl)) fun g=>hl▸g.2.2
  refine q o en ⟨ho,h1,h4.tab,Nat.le_of_succ_le (pT h4.tab.mok hsm),fun i k hk=>?_,h3.length.symm.trans Array.length_toList,h4.nd⟩ h.1 h3 h4 hsm
  refine ao (h3.kU hk) fun e he g=>?_
  have ht:=hes k (List.mem_of_getElem? hk)
  refine aL (sP ht) fun vs hv=>?_
  subst hv
  refine kX (bJ g.2) fun b n items e2 _=>⟨b,?_,iK ht,iW I.data (e2▸g.2)⟩
  rw [←Array.getElem?_toList,he]
  exact congrArg some (Prod.ext g.1 e2)
theorem xw{w:World}{E:Value→Shared→Prop}{a x:Addr}{k:V}{o:Obj}{en:Array (Int×Value)}{ep:Nat}{t:SetTable}{ks:List V}{Q:Option Nat→Shared→Prop}(hu:A.units+10<cLine)(hk:(aG prog w).is s.heap k x)(S:cg prog w s.heap a o en ep t ks)
  (h:∀r:Option Nat,r.isSome=decide (k∈ks)→Q r s):wpAny (model prog w) A (setFind a (.ref x) (keyHash w k)) Q E s:=by
 have hs:(en.toList.map (·.1)).length=en.size:=by simp
 refine br (ST.gH S.tab (hs▸S.hl) (keyHash w k)) fun n0 e0 e1 e2=>?_
 refine wpAny_bind (wpAny_setState_of S.ho S.hd S.fits (wn (fun h=>Bool.false_ne_true h) (wpAny_bind ?_)))
 exact nW hu hk S e0 e1 e2 (fun i hi=>wpAny_pure (h (some i) (decide_eq_true (List.mem_of_getElem? hi)).symm)) (fun hno=>wpAny_pure (h none (decide_eq_false hno).symm)) 100000 0 none (.inr ⟨rfl,rfl⟩) (Nat.zero_le _) (Nat.lt_of_lt_of_le e0 (Nat.le_trans (qZ S.tab.mok) (of_decide_eq_true rfl))) fun i hi=>jw S.tab e1 (S.hs hi)
theorem EP(I:Inv B γ φ ι H s)(R:bx A 0){va:Value}{k:V}{d:Addr}{es:List V}{k0:aK}{Q:Bool→Hp→Prop}(r:Rep ι va k)(hd:H d=some (.set es k0))(hk:isTup k=true)(hes:∀e∈es,isTup e=true)
  (q:Q (decide (k∈es)) H):wpAny (model prog B.w) A (compareOp .In va (.ref d)) (PE B γ φ ι fun v H'=>∃b,v=.bool b∧Q b H') aA s:=by
 refine q7 (prog:=prog) I hd hes fun o en S hex h3 h4 hsm=>?_
 refine aL (sP hk) fun vs hv=>?_
 subst hv
 refine kX (bJ r) fun x n items e _=>?_
 subst e
 have his:(aG prog B.w).is s.heap (.tup vs) x:=⟨iK hk,iW I.data r⟩
 have hu:=R.u0
 refine wpAny_bind ?_
 delta contains
 try with_reducible refine wpAny_holding ?_
 refine wpAny_bind (wpAny_specialOf (⟨o,S.ho,hex.1⟩) F.slot_set_contains.lookup ?_)
 refine wpAny_bind (wpAny_callSpecialUnlessNone?_slot (name:=Str.ofString "__contains__") (⟨o,S.ho,hex.1⟩) F.slot_set_contains
  (wpAny_call_entry F.slot_set_contains (⟨o,S.ho,hex.1⟩) PySem.entry_set_contains ?_ (F.args_set_contains_2 _ _)))
 have hu1:A.in1.units+10<cLine:=N.l2 (N.l4 hu (of_decide_eq_true rfl))
 unfold Builtin.«frozenset.__contains__» Builtin.Frozenset.oneOther
 simp only [List.isEmpty_nil,bind_assoc]
 refine wbp (wbp ?_)
 refine wpAny_bind (wpAny_tryCatch (wpAny_holding (wpAny_bind ((aG prog B.w).pyHash hu1 his ?_))))
 have S':cg prog B.w ({ s with toks:=s.toks+(aG prog B.w).draws (.tup vs) }:Shared).heap d o en k0.1 k0.2 es:=S
 refine wpAny_bind (xw (s:={ s with toks:=s.toks+(aG prog B.w).draws (.tup vs) }) hu1 his S' fun r hr=>wpAny_pure (hr▸wpAny_pure ⟨_,rfl,wpAny_truthy_bool (wpAny_pure (.toks I bq ⟨_,rfl,q⟩))⟩))
theorem aI.s9{α β:Type}{R:α→β→Prop}:∀{as:List α} {bs:List β},as.length=bs.length→(∀p∈as.zip bs,R p.1 p.2)→aI R as bs
 |[],[],_,_=>.nil
 |a::as,[],h,_=>by injection h
 |[],b::bs,h,_=>by injection h
 |a::as,b::bs,h,hp=>.cons (hp (a,b) List.mem_cons_self) (aI.s9 (by simpa using h) fun p hm=>hp p (List.mem_cons_of_mem _ ‹_›))
theorem aI.zip{α β:Type}{R:α→β→Prop}{as:List α}{bs:List β}(x:aI R as bs):∀p∈as.zip bs,R p.1 p.2:=by
 induction x with
 |nil=>intro p h;exact absurd h List.not_mem_nil
 |cons h1 _ ih =>
  intro p h
  rw [List.zip_cons_cons,List.mem_cons] at h
  rcases h with rfl | h
  ·exact h1
  ·exact ih p h
theorem je{H:Hp}{a:Addr}{x:bL}(h:H a=some x):upd H a x=H:=by
 funext b;simp only [upd];split
 ·rename_i e;subst e;exact h.symm
 ·rfl
theorem r6{E:Value→Shared→Prop}(hu:A.units+10<cLine)(I:Inv B γ φ ι H s){vx:Value}{x:V}{d:Addr}{es:List V}{k0:aK}{P:Bool→Shared→Prop}(rx:Rep ι vx x)(hd:H d=some (.set es k0))(hx:isTup x=true)(hes:∀e∈es,isTup e=true)(hz:es.length≤cG)
  (q:∀b s' es' k',es'.Perm (dg es x)→(∀a,a≠d→s'.heap.get? a=s.heap.get? a)→Inv B γ φ ι (upd H d (.set es' k')) s'→P b s'):wpAny (model prog B.w) A (setAdd d vx) P E s:=by
 refine q7 (prog:=prog) I hd hes fun o en S hex h3 h4 hsm=>?_
 refine aL (sP hx) fun vs hv=>?_
 subst hv
 refine kX (bJ rx) fun b n items e _=>?_
 subst e
 have his:(aG prog B.w).is s.heap (.tup vs) b:=⟨iK hx,iW I.data rx⟩
 refine wpAny_holding ?_
 refine wpAny_bind ((aG prog B.w).pyHash hu his ?_)
 have S':cg prog B.w ({ s with toks:=s.toks+(aG prog B.w).draws (.tup vs) }:Shared).heap d o en k0.1 k0.2 es:=S
 have I':Inv B γ φ ι H { s with toks:=s.toks+(aG prog B.w).draws (.tup vs) }:=I.same rfl rfl rfl
 refine FP (s:={ s with toks:=s.toks+(aG prog B.w).draws (.tup vs) }) hu his S' (Nat.le_trans (Nat.le_of_eq S.kl.symm) hz) hsm (fun hin=>?_) fun hno h' en' ep' t' ks' X=>?_
 ·exact q _ _ es k0 (.of_eq (if_pos hin:dg es (.tup vs)=es).symm) (fun _ _=>rfl) ((je hd).symm▸I')
 ·have hperm:ks'.Perm (es++[V.tup vs]):=X.pm.trans (List.perm_append_singleton _ _).symm
  refine q _ _ ks' (ep',t') (hperm.trans (.of_eq (if_neg hno:dg es (.tup vs)=es++[.tup vs]).symm)) (fun _ hn=>X.sb.2 _ hn) (I'.change (x:=.set ks' (ep',t')) hd X.sb X.S.ho ⟨hex,en',rfl,?_,?_⟩ rfl rfl)
  ·exact .s9 (Array.length_toList.trans X.S.kl.symm) fun p hm=>(List.mem_cons.mp (X.zp.mem_iff.mp hm)).elim (fun e=>e▸⟨rfl,rx⟩) fun hm=>h3.zip p hm
  ·have hl:(en'.toList.map (·.1)).length=en'.size:=by simp
   refine ⟨X.S.nd,X.S.tab,X.led.trans h4.led,.inr ⟨fun e he=>?_,hl▸X.sz▸Nat.succ_le_succ (Nat.le_trans (Nat.le_of_eq S.kl.symm) hz),hl▸X.lt⟩,fun e=>?_⟩
   ·exact (List.mem_append.mp (hperm.mem_iff.mp he)).elim (hes e) fun he=>List.mem_singleton.mp he▸hx
   ·exact absurd (hl.symm.trans (congrArg List.length e)) (X.sz▸Nat.succ_ne_zero _)
end
end Mine
end
section
namespace Mine
open PySem PyProof.Rows
open scoped Classical
open SetTable
section
variable{B:Base}{γ:Array GenState}{φ ι:Obs}{H:Hp}{s:Shared}{prog:Program}{A:Around}
inductive lu(w:World)(ι:Obs)(es:List V):Int×Value→Prop
 |mk (l:List Nat) (tk:Tok) (h:V.str l∈es) (r:Rep ι (.str ⟨l.toArray⟩ tk) (.str l)):lu w ι es (hashStr w ⟨l.toArray⟩,.str ⟨l.toArray⟩ tk)
@[elab_as_elim] theorem lu.go{w:World}{ι:Obs}{es:List V}{e:Int×Value}{G:Int×Value→Prop}(h:lu w ι es e)(q:∀l tk,V.str l∈es→Rep ι (.str ⟨l.toArray⟩ tk) (.str l)→G (hashStr w ⟨l.toArray⟩,.str ⟨l.toArray⟩ tk)):G e:=by
 cases h with | mk l tk h r=>exact q l tk h r
structure SSet(B:Base)(ι:Obs)(h:Heap)(d:Addr)(es:List V)(k:aK)(o:Obj)(en:Array (Int×Value)):Prop where
 ho:h.get? d=some o
 dt:o.data=.set en k.1 k.2
 ex:o.ExactSet
 al:aI (iS B.w ι) en.toList es
 ok:fX B.w k.2 (en.toList.map (·.1)) es
 m7:k.2.mask=7
 n4:en.size≤4
 len:en.size=es.length
 el:∀e∈en.toList,lu B.w ι es e
theorem sU{k:V}(h:isStr k=true):∃l,k=.str l:=by
 cases k<;>first | exact ⟨_,rfl⟩ | injection h
theorem EU{w:World}{ι:Obs}{es:List V}{en:List (Int×Value)}(hes:∀e∈es,isStr e=true)(h3:aI (iS w ι) en es):∀e∈en,lu w ι es e:=fun e he=>ao (h3.I8 he) fun k hk g=>aL (sU (hes k hk)) fun l hl=>by
 subst hl
 refine ao (bA g.2) fun tk e2 _=>?_
 have:e=(hashStr w ⟨l.toArray⟩,.str ⟨l.toArray⟩ tk):=Prod.ext g.1 e2
 subst this
 exact .mk l tk hk g.2
theorem BS{es:List V}(h:∀e∈es,isStr e=true)(g:∀e∈es,isTup e=true):es=[]:=List.eq_nil_iff_forall_not_mem.mpr fun e he=>aL (sU (h e he)) fun l hl=>Bool.false_ne_true (hl▸g e he :)
theorem set_str(I:Inv B γ φ ι H s){d:Addr}{es:List V}{k:aK}(hd:H d=some (.set es k))(hes:∀e∈es,isStr e=true){G:Prop}(q:∀o en,SSet B ι s.heap d es k o en→G):G :=
 ao (I.objs _ _ hd) fun o ho h=>br h.2 fun en h1 h3 h4 =>
  have len:en.size=es.length:=(Array.length_toList▸h3.length :)
  have g:=h4.kinds.elim (fun g=>⟨g.2.1,by simpa using g.2.2⟩) fun g =>
   have e:=BS hes g.1
   have z:en.size=0:=len.trans (e▸rfl)
   (⟨h4.fresh (by cases Array.size_eq_zero_iff.mp z;rfl),N.b4 z (Nat.zero_le 4)⟩:k.2.mask=7∧en.size≤4)
  q o en ⟨ho,h1,h.1,h3,h4,g.1,g.2,len,EU hes h3⟩
theorem fits_of{t:SetTable}{en:Array (Int×Value)}(T:ST.Tab t (en.toList.map (·.1)))(h:en.size≤t.mask):t.fits en.size=true:=by
 have h1:=T.sz
 simp only [List.length_map,Array.length_toList] at h1
 delta SetTable.fits SetTable.fill
 simp only [T.dm,h1]
 simpa using h
theorem sq{t:SetTable}{hs:List Int}(T:ST.Tab t hs){h:Int}{n0:Nat}(e0:n0<10*turns t.mask)(e1:(ST.path t.mask h n0).j∉t.place)(e2:∀m,m<n0→(ST.path t.mask h m).j∈t.place):t.freeSlot h=some ((ST.path t.mask h n0).j,false):=by
 delta SetTable.freeSlot SetTable.probe
 have:t.probeStart h=ST.path t.mask h 0:=rfl
 refine ST.q9 T e1 e2 (fun _=>h+1) (10*turns t.mask) 0 (Nat.zero_le _) (N.i4 e0) (fun g _=>g▸rfl) fun m i _ _ _ g _=>absurd g ?_
 exact fun g=>Int.ne_of_gt (Int.lt_succ h) g
section
variable{d:Addr}{es:List V}{k:aK}{o:Obj}{en:Array (Int×Value)}{E:Value→Shared→Prop}
theorem SSet.fit(S:SSet B ι s.heap d es k o en):k.2.fits en.size=true:=fits_of S.ok.tab (S.m7.symm▸N.f6 S.n4 (of_decide_eq_true rfl))
theorem SSet.state(S:SSet B ι s.heap d es k o en){Q:(Array (Int×Value)×Nat×SetTable)→Shared→Prop}(q:Q (en,k.1,k.2) s):wpAny (model prog B.w) A (setState d) Q E s:=wpAny_setState_of S.ho S.dt S.fit q
theorem SSet.put(S:SSet B ι s.heap d es k o en)(I:Inv B γ φ ι H s)(hd:H d=some (.set es k)){en':Array (Int×Value)}{t':SetTable}{es':List V}(hz:en'.size≤4)(al:aI (iS B.w ι) en'.toList es')(ok:fX B.w t' (en'.toList.map (·.1)) es'){Q:Unit→Shared→Prop}
  (q:∀s',(∀a,a≠d→s'.heap.get? a=s.heap.get? a)→Inv B γ φ ι (upd H d (.set es' (k.1+1,t'))) s'→Q () s'):wpAny (model prog B.w) A (storeSet d en' t') Q E s :=
 wpAny_storeSet_of S.ho S.dt (q _ (fun _ hn=>(Heap.SameBut.update s.heap d _).2 _ hn) (I.change (x:=.set es' (k.1+1,t')) hd (Heap.SameBut.update ..) ((Heap.get?_update_self (Obj.putSet en' t') S.ho (putSet_of en' t' S.dt▸rfl)).trans (congrArg some (putSet_of en' t' S.dt))) ⟨S.ex,en',rfl,al,ok⟩ rfl rfl)) (Nat.le_trans hz (of_decide_eq_true rfl))
end
theorem BX{t:SetTable}{en:Array (Int×Value)}(T:ST.Tab t (en.toList.map (·.1)))(m7:t.mask=7)(n4:en.size≤4)(hf:en.size+1≤4)(h:Int)(v:Value){G:Prop}(q:∀tp:SetTable×Nat,tp.2≤en.size→tp.1.mask=7→tp.1.led=t.led→ST.Tab tp.1 (ST.insI (en.toList.map (·.1)) tp.2 h)→layNew t en h v=(insertAt en tp.2 (h,v),tp.1,false,false)→G):G:=by
 have hs:(en.toList.map (·.1)).length=en.size:=by simp
 refine br (ST.gH T (hs▸m7▸N.f6 n4 (of_decide_eq_true rfl)) h) fun n0 e0 e1 e2=>?_
 refine GF (T.put (ST.sY _ _ n0) e1 e2) fun p1 p2 p3 p4 p5 p6 T1=>?_
 have p2:=hs▸p2
 refine q (t.put (ST.path t.mask h n0).j) p2 (p3.trans m7) p4 T1 ?_
 have hf1:(t.put (ST.path t.mask h n0).j).1.fits (insertAt en (t.put (ST.path t.mask h n0).j).2 (h,v)).size=true:=by
  refine fits_of (en:=insertAt en (t.put (ST.path t.mask h n0).j).2 (h,v)) ?_ ?_
  ·exact (ins_map en _ _).symm▸T1
  ·rw [ST.eN p2,p3,m7];exact Nat.le_trans hf (of_decide_eq_true rfl)
 dsimp only [layNew]
 rw [sq T e0 e1 e2]
 dsimp only
 delta SetTable.orStandIn
 rw [hf1];rfl
theorem EM{R:Int×Value→V→Prop}{en:List (Int×Value)}{es:List V}(h:aI R en es)(p:Nat){x:Int×Value}{y:V}(r:R x y):aI R (ST.insI en p x) (ST.insI es p y) :=
 .s9 (by rw [(insI_perm en p x).length_eq,(insI_perm es p y).length_eq];exact congrArg Nat.succ h.length) fun pr hm=>by
  rw [yZ h.length] at hm
  exact (List.mem_cons.mp ((insI_perm _ _ _).mem_iff.mp hm)).elim (fun e=>e▸r) fun hm=>h.zip pr hm
theorem wh{E:Value→Shared→Prop}{d:Addr}{es:List V}{k:aK}{o:Obj}{en:Array (Int×Value)}(I:Inv B γ φ ι H s)(S:SSet B ι s.heap d es k o en)(hd:H d=some (.set es k))(hes:∀e∈es,isStr e=true){l:List Nat}{v:Value}(rx:Rep ι v (.str l))(hno:V.str l∉es)(hf:en.size+1≤4){t2:SetTable}{p:Nat}(hp:p≤en.size)(m2:t2.mask=7)(l2:t2.led=k.2.led)(T:ST.Tab t2 (ST.insI (en.toList.map (·.1)) p (hashStr B.w ⟨l.toArray⟩))){c:Sem (Option Bool)}{Q:Option Bool→Shared→Prop}
  (q:∀s',(∀a,a≠d→s'.heap.get? a=s.heap.get? a)→Inv B γ φ ι (upd H d (.set (ST.insI es p (.str l)) (k.1+1,t2))) s'→Q (some true) s'):wpAny (model prog B.w) A (do storeSet d (insertAt en p (hashStr B.w ⟨l.toArray⟩,v)) t2;if (!false&&t2.tooFull)=true then c else return some true) Q E s:=by
 have hz:(insertAt en p (hashStr B.w ⟨l.toArray⟩,v)).size≤4:=ST.eN hp▸hf
 have T':ST.Tab t2 ((insertAt en p (hashStr B.w ⟨l.toArray⟩,v)).toList.map (·.1)):=(ins_map en p _).symm▸T
 refine wpAny_bind (S.put I hd (es':=ST.insI es p (.str l)) hz (ST.sM _ _ _▸EM S.al p ⟨rfl,rx⟩) ⟨(insI_perm es p _).nodup_iff.mpr (List.nodup_cons.mpr ⟨hno,S.ok.nd⟩),T',l2.trans S.ok.led,.inl ⟨fun e he=>?_,m2,by rw [List.length_map];exact hz⟩,fun _=>m2⟩ fun s' g I'=>wn ?_ (wpAny_pure (q s' g I')))
 ·exact (List.mem_cons.mp ((insI_perm es p _).mem_iff.mp he)).elim (fun e=>e▸rfl) (hes e)
 ·have e1:=T'.sz
  have e2:=T'.dm
  rw [List.length_map] at e1
  have:t2.fill≤4:=by delta SetTable.fill;rw [e2,e1];exact hz
  delta SetTable.tooFull;rw [m2];simp;omega
theorem fj{E:Value→Shared→Prop}(I:Inv B γ φ ι H s){l:List Nat}{tk:Tok}{d:Addr}{es:List V}{k0:aK}{P:Bool→Shared→Prop}(rx:Rep ι (.str ⟨l.toArray⟩ tk) (.str l))(hd:H d=some (.set es k0))(hes:∀e∈es,isStr e=true)(hz:(dg es (.str l)).length≤4)
  (q:∀b s' es' k',es'.Perm (dg es (.str l))→(∀a,a≠d→s'.heap.get? a=s.heap.get? a)→Inv B γ φ ι (upd H d (.set es' k')) s'→P b s'):wpAny (model prog B.w) A (setAddHashed d (.str ⟨l.toArray⟩ tk) (hashStr B.w ⟨l.toArray⟩)) P E s:=by
 refine set_str I hd hes fun o en S=>?_
 have hE:ElemsOf (strKind prog B.w) en.toList:=fun e he=>by cases S.el e he with | mk l' tk' h r=>exact ⟨⟨⟨l'.toArray⟩,if_pos rfl,rfl⟩,rfl⟩
 refine wpAny_holding (wpAny_bind (S.state (wy (byScan_of (knd:=strKind prog B.w) rfl (Nat.lt_of_le_of_lt S.n4 (of_decide_eq_true rfl)) hE) ?_)))
 refine wpAny_bind (wpAny_bind (wpAny_rule (wpAny_bind (wpAny_setScan_of (knd:=strKind prog B.w) (k:=⟨l.toArray⟩) (x:=.str ⟨l.toArray⟩ tk) (if_pos rfl) S.ho S.dt S.fit hE ?_))))
 cases hr:List.findIdx? (fun e=>(strKind prog B.w).is ⟨l.toArray⟩ e.2) en.toList with
 |some j =>
  refine ao (List.findIdx?_eq_some_iff_getElem.mp hr) fun hj hpj _=>wpAny_pure (wpAny_pure (q _ _ es k0 ?_ (fun _ _=>rfl) ((je hd).symm▸I)))
  refine lu.go (G:=fun e=>(strKind prog B.w).is ⟨l.toArray⟩ e.2=true→_) (S.el _ (List.getElem_mem hj)) (fun l' tk' hin _ hp=>?_) hpj
  have e:=(strKind prog B.w).inj (.str ⟨l'.toArray⟩ tk') ⟨l'.toArray⟩ ⟨l.toArray⟩ (if_pos rfl) hp
  have:l'=l:=by simpa using e
  cases this
  exact .of_eq (if_pos hin:dg es (.str l)=es).symm
 |none =>
  have hno:V.str l∉es:=fun hin=>aL (List.mem_iff_getElem?.mp hin) fun i hi=>ao (S.al.kU hi) fun e he g=>ao (bA g.2) fun tk' e2 _=>by
   have:=List.findIdx?_eq_none_iff.mp hr e (List.mem_of_getElem? he)
   rw [e2] at this;simp [PySem.strKind,Value.isStrOf] at this
  have hsa:dg es (.str l)=es++[.str l]:=if_neg hno
  have hz4:en.size+1≤4:=by rw [hsa,List.length_append,←S.len] at hz;exact hz
  refine BX S.ok.tab S.m7 S.n4 hz4 (hashStr B.w ⟨l.toArray⟩) (.str ⟨l.toArray⟩ tk) fun tp h1 h2 h3 h4 h5=>?_
  refine h5▸wbp ?_
  have fin:∀{t2 c},t2.mask=7→t2.led=k0.2.led→ST.Tab t2 _→wpAny _ _ _ _ _ _:=fun {t2 c} m2 l2 T=>wh (prog:=prog) (A:=A) (E:=E) (c:=c) I S hd hes rx hno hz4 h1 m2 l2 T (Q:=fun r s'=>wpAny (model prog B.w) A (match r with | some added=>pure added | none=>setAddHashedIn d (.str ⟨l.toArray⟩ tk) (hashStr B.w ⟨l.toArray⟩) 99999) P E s') fun s' g I'=>wpAny_pure (q _ _ _ _ (((insI_perm es tp.2 _).trans (List.perm_append_singleton _ _).symm).trans (.of_eq hsa.symm)) g I')
  cases tp.1.plain
  ·exact wpAny_bind (wpAny_pure (fin h2 h3 h4))
  ·exact wpAny_bind (wpAny_pure (fin h2 h3 (oY h4 false)))
end
end Mine
end
section
namespace Mine
open PySem PyProof.Rows
open scoped Classical
open SetTable
section
variable{B:Base}{γ:Array GenState}{φ ι:Obs}{H:Hp}{s:Shared}{prog:Program}{A:Around}
theorem mK{E:Value→Shared→Prop}(hu:A.units+10<cLine)(I:Inv B γ φ ι H s){vx:Value}{x:V}{d:Addr}{es:List V}{k0:aK}{P:Bool→Shared→Prop}(rx:Rep ι vx x)(hd:H d=some (.set es k0))(hx:uP es x)(hz:es.length≤cG)(hz4:isStr x=true→(dg es x).length≤4)
  (q:∀b s' es' k',es'.Perm (dg es x)→Inv B γ φ ι (upd H d (.set es' k')) s'→P b s'):wpAny (model prog B.w) A (setAdd d vx) P E s:=by
 rcases hx with ⟨h1,h2⟩ | ⟨h1,h2⟩
 ·cases x<;>simp only [isStr,Bool.false_eq_true] at h1
  rename_i l
  refine ao (bA rx) ?_;rintro tk rfl _
  refine wpAny_holding (wpAny_bind ((PySem.strKind prog B.w).pyHash (k:=⟨l.toArray⟩) (if_pos rfl) ?_))
  exact fj (s:={ s with toks:=s.toks+1 }) (I.same rfl rfl rfl) rx hd h2 (hz4 rfl) fun b s' es' k' hp _ I'=>q b s' es' k' hp I'
 ·exact r6 hu I rx hd h1 h2 hz fun b s' es' k' hp _ I'=>q b s' es' k' hp I'
theorem dN(I:Inv B γ φ ι H s){d:Addr}{es:List V}{k:aK}(hd:H d=some (.set es k)):s.TypeIs (.ref d) "set" :=
 let ⟨o,ho,hex,_⟩:=I.objs _ _ hd;⟨o,ho,hex.1⟩
theorem AV{E:Value→Shared→Prop}(hu:A.in1.units+10<cLine)(I:Inv B γ φ ι H s){vx:Value}{x:V}{d:Addr}{es:List V}{k0:aK}{P:Value→Shared→Prop}(rx:Rep ι vx x)(hd:H d=some (.set es k0))(hx:uP es x)(hz:es.length≤cG)(hz4:isStr x=true→(dg es x).length≤4)
  (q:∀s' es' k',es'.Perm (dg es x)→Inv B γ φ ι (upd H d (.set es' k')) s'→P .none s'):wpAny (model prog B.w) A (call (.builtin "set.add") [.ref d,vx]) P E s:=by
 refine wpAny_call_entry F.slot_set_add (dN I hd) PySem.F.entry_set_add ?_ (F.args_set_add_2 _ _)
 unfold Builtin.«set.add» Builtin.Frozenset.oneOther
 refine wbp ?_
 refine wpAny_bind (mK hu I rx hd hx hz hz4 fun b s' es' k' hp I'=>?_)
 exact wpAny_pure ⟨_,rfl,q s' es' k' hp I'⟩
theorem AJ(led:Bool)(f m:Nat):ST.Tab (.fresh f m led) []:=by
 refine ⟨rfl,rfl,.inl rfl,?_,?_,?_⟩
 ·delta ST.kH;simp [SetTable.fresh]
 all_goals nofun
theorem oz{ι:Obs}{w:World}(f m:Nat):iy w ι { cls:=.type "set",dict:=none,data:=.set #[] 0 (.fresh f m (!(w.params.followText "set-order"))) } (.set [] (0,.fresh f m (!(w.params.followText "set-order")))) :=
 ⟨⟨rfl,rfl,rfl⟩,#[],rfl,.nil,List.nodup_nil,AJ _ _ _,rfl,.inl ⟨(of_decide_eq_true rfl),rfl,(of_decide_eq_true rfl)⟩,fun _=>rfl⟩
theorem qD{E:Value→Shared→Prop}{Q₁:Value→Shared→Prop}
  (h:Q₁ (.ref s.heap.objs.size) { s with heap:=s.heap.push { cls:=.type "set",dict:=none,data:=.set #[] 0 (.fresh 0 0 (!(B.w.params.followText "set-order"))) } }) :
  codeAny (model prog B.w) A (.call (.builtin "set.__new__") ⟨[.type "set"],[]⟩) (wants Q₁ E) s:=by
 refine codeAny_of_tree ?_
 refine wpAny_bind (wpAny_of_eq PySem.F.newCall_set_0 (wpAny_pure ⟨plainId_quiet PySem.F.plain_set_new _,codeAny_builtin PySem.F.entry_set_new ?_⟩))
 unfold Builtin.«set.__new__» Builtin.Frozenset.newClass
 have hsub:=sub_set_self
 dsimp only
 wp_walk
 refine wpAny_askSetting (wpAny_pure ?_)
 refine wpAny_bind (wpAny_alloc (wpAny_pure ?_))
 exact wpAny_pure h
set_option maxHeartbeats 1000000 in
set_option maxRecDepth 100000 in
theorem qE{E:Value→Shared→Prop}{Q:Value→Shared→Prop}
  (h:Q (.ref s.heap.objs.size) { s with heap:=s.heap.push { cls:=.type "set",dict:=none,data:=.set #[] 0 (.fresh 0 0 (!(B.w.params.followText "set-order"))) } }) :
  wpAny (model prog B.w) A (call (.type "set") []) Q E s:=by
 obtain ⟨c,tl,hmro⟩:=PySem.F.called_set.mro
 have hmade:=PySem.F.called_set.made
 have hsub:=PySem.F.called_set.sub
 refine wpAny_call (codeAny_of_tree ?_)
 show wpAny _ _ (callAny (.type "set") _) _ _ _
 refine wpAny_pure ⟨Code.quiet_builtin _ (by decide +kernel),codeAny_builtin F.entry_type_call ?_⟩
 rw [Around.under_plain (weight_type_call_type "set" [] []) rfl]
 have h1:=PySem.F.called_set.notType
 have h2:=PySem.F.called_set.canCreate
 have hct:=PySem.F.typeCall_set_0
 repeat (any_goals (first | assumption | wp_step))
 refine codeAny_mono (qD (B:=B) (E:=E) (Q₁:=fun obj s₁=>obj=.ref s.heap.objs.size∧s₁={ s with heap:=s.heap.push { cls:=.type "set",dict:=none,data:=.set #[] 0 (.fresh 0 0 (!(B.w.params.followText "set-order"))) } }) ⟨rfl,rfl⟩) fun r s₁ hr=>?_
 cases r with
 |error e=>exact hr
 |ok fl =>
  cases fl with
  |ret obj =>
   obtain ⟨rfl,rfl⟩:=hr
   generalize hled:(!(B.w.params.followText "set-order"))=led at h ⊢
   have hS:(s.heap.push { cls:=.type "set",dict:=none,data:=.set #[] 0 (.fresh 0 0 led) }).get? s.heap.objs.size=some { cls:=.type "set",dict:=none,data:=.set #[] 0 (.fresh 0 0 led) }:=Heap.get?_push_size _ rfl
   have hT:Shared.TypeIs { s with heap:=s.heap.push { cls:=.type "set",dict:=none,data:=.set #[] 0 (.fresh 0 0 led) } } (.ref s.heap.objs.size) "set":=⟨_,hS,rfl⟩
   have hli:=PySem.F.called_set.init.lookup
   have hbi:=PySem.F.called_set.init.bind (.ref s.heap.objs.size)
   repeat (any_goals (first | assumption | wp_step))
   refine codeAny_mono (codeAny_call_builtin (R:=wants (fun r s₂=>r=.none∧Q (.ref s.heap.objs.size) s₂) E) PySem.F.called_set.init.plain F.entry_set_init (check_set_init hT ?_)) fun r₂ s₂ hr₂=>?_
   ·unfold Builtin.«set.__init__» noKeywords
    wp_walk
    exact ⟨rfl,h⟩
   ·cases r₂ with
    |error e=>exact hr₂
    |ok fl₂ =>
     cases fl₂ with
     |ret r =>
      obtain ⟨rfl,hq⟩:=hr₂
      repeat (any_goals (first | assumption | wp_step))
     |_=>exact hr₂.elim
  |_=>exact hr.elim
end
end Mine
end
section
namespace Mine
open PySem PyProof.Rows
open scoped Classical
open SetTable
theorem qm{M:Model}{A:Around}{E:Value→Shared→Prop}{s:Shared}{src:Source}{n:Nat}{Q:Nat→Shared→Prop}(hn:n≠0)(h:∀i d,i<n→Q i { s with drawn:=d }):wpAny M A (choose src n) Q E s:=by
 intro Γ p hΓ
 exact ⟨hn,h _ _ (Nat.mod_lt _ (Nat.pos_of_ne_zero hn))⟩
theorem mU{α:Type}{l:List α}{i:Nat}(h:i<l.length):(l[i]::l.eraseIdx i).Perm l:=by
 simp only [List.eraseIdx_eq_take_drop_succ]
 refine List.perm_middle.symm.trans (List.Perm.of_eq ?_)
 simp only [List.getElem_cons_drop,List.take_append_drop]
theorem jB{M:Model}{A:Around}{E:Value→Shared→Prop}{α:Type}:∀(n:Nat) (xs:List α) {s:Shared} {Q:List α→Shared→Prop},xs.length≤n→(∀l d,l.Perm xs→Q l { s with drawn:=d })→wpAny M A (drawOrder n xs) Q E s:=by
 intro n
 induction n with
 |zero =>
  intro xs s Q hn q
  have:xs=[]:=List.length_eq_zero_iff.mp (N.d1 hn)
  subst this
  exact wpAny_pure (q [] s.drawn (.refl _))
 |succ n ih =>
  intro xs s Q hn q
  cases xs with
  |nil=>exact wpAny_pure (q [] s.drawn (.refl _))
  |cons x xs =>
   refine wpAny_bind (qm (by simp) fun i d hi=>?_)
   refine (List.getElem?_eq_getElem hi)▸?_
   refine wpAny_bind (ih _ (by refine (List.length_eraseIdx_of_lt hi)▸?_;simp at hn ⊢;omega) fun l d' hp=>wpAny_pure ?_)
   refine q _ d' ?_
   exact (List.Perm.cons _ hp).trans (mU hi)
section
variable{α:Type}{next:Nat→Nat}{n k:Nat}{left:List α}{out:Array α}
theorem go_eq:pickOrder.go next (n+1) k left out=left[next k%left.length]?.elim out fun x=>pickOrder.go next n (k+1) (left.eraseIdx (next k%left.length)) (out.push x):=by kernel_rfl
theorem pX{x:α}(h:left[next k%left.length]?=some x):pickOrder.go next (n+1) k left out=pickOrder.go next n (k+1) (left.eraseIdx (next k%left.length)) (out.push x):=go_eq.trans (h▸rfl)
theorem pY(h:left[next k%left.length]?=none):pickOrder.go next (n+1) k left out=out:=go_eq.trans (h▸rfl)
end
theorem wI{α:Type}(next:Nat→Nat):∀(n k:Nat) (left:List α) (out:Array α),left.length≤n→(pickOrder.go next n k left out).toList.Perm (out.toList++left):=by
 intro n
 induction n with
 |zero =>
  intro k left out hn
  have:left=[]:=List.length_eq_zero_iff.mp (N.d1 hn)
  subst this
  exact (List.append_nil _).symm▸.refl _
 |succ n ih =>
  intro k left out hn
  cases hx:left[next k%left.length]? with
  |some x =>
   rw [pX hx]
   refine (ih _ _ _ (by refine (List.length_eraseIdx_of_lt ((List.getElem?_eq_some_iff.mp hx).1))▸?_;exact N.h9 hn)).trans ?_
   rw [Array.toList_push,List.append_assoc]
   refine List.Perm.append_left _ ?_
   rw [←((List.getElem?_eq_some_iff.mp hx).2)];exact mU ((List.getElem?_eq_some_iff.mp hx).1)
  |none =>
   rw [pY hx]
   cases left with
   |nil=>simp
   |cons y ys =>
    exfalso
    rw [List.getElem?_eq_none_iff] at hx
    have:=Nat.mod_lt (next k) (show 0<(y::ys).length by simp)
    exact N.d5 hx this
theorem gJ{α:Type}(next:Nat→Nat)(xs:Array α):(pickOrder next xs).toList.Perm xs.toList:=by
 have:=wI next xs.size 0 xs.toList #[] (by simp)
 exact this
theorem tV(a:Addr):setWalk a=(do
  let (es,epoch,t) ←setState a
  if ←setsByText then return pickOrder ((←ask).params.setOrder a epoch) es
  if (!t.plain&&es.size>1) then return (←drawOrder es.size es.toList).toArray
  ((if (!t.led&&decide (es.size>1))=true then unsupported "set:maker-not-led" else pure ()):Sem Unit)>>=fun _=>pure es):=rfl
section
variable{prog:Program}{w:World}{A:Around}{E:Value→Shared→Prop}{s:Shared}
theorem bT{Q:Bool→Shared→Prop}(h:Q (w.params.followText "set-order") s):wpAny (model prog w) A setsByText Q E s:=by
 exact wpAny_bind (wpAny_askSetting (wpAny_pure h))
theorem Bj{a:Addr}{o:Obj}{en:Array (Int×Value)}{ep:Nat}{t:SetTable}{Q:Array (Int×Value)→Shared→Prop}(ho:s.heap.get? a=some o)(hd:o.data=.set en ep t)(hf:t.fits en.size=true)(hl:t.led = !(w.params.followText "set-order"))
  (q:∀xs d,xs.toList.Perm en.toList→Q xs { s with drawn:=d }):wpAny (model prog w) A (setWalk a) Q E s:=by
 rw [tV]
 refine wpAny_bind (wpAny_setState_of ho hd hf (wpAny_bind (bT ?_)))
 cases hb:w.params.followText "set-order" with
 |true =>
  exact wpAny_bind (wpAny_askSetting (wpAny_pure (q _ s.drawn (gJ _ _))))
 |false =>
  refine wn Bool.false_ne_true ?_
  split
  ·exact wpAny_bind (jB _ _ (by simp) fun l d hp=>wpAny_pure (q _ d hp))
  ·rw [hl,hb]
   exact wbp (wpAny_pure (q _ s.drawn (.refl _)))
end
end Mine
end
section
namespace Mine
open PySem PyProof.Rows
open scoped Classical
open SetTable
section
variable{B:Base}{γ:Array GenState}{φ ι:Obs}{H:Hp}{s:Shared}{prog:Program}{A:Around}{E:Value→Shared→Prop}
theorem zV:∀(sets:List Addr) {Q:Bool→Shared→Prop},(∀a∈sets,∃es k o en,SSet B ι s.heap a es k o en)→Q true s→wpAny (model prog B.w) A (setsQuiet sets) Q E s:=by
 intro sets Q hs q
 refine wpAny_bind (wpAny_forIn_list _ (fun rest b s'=>(∀a∈rest,a∈sets)∧b=(none,())∧s'=s) _ ?_ ?_ sets _ ⟨fun a h=>h,rfl,rfl⟩)
 ·rintro a rest b s';refine fun h_=>bG h_ ?_;clear h_;rintro hin rfl rfl
  refine Jg (hs a (hin a List.mem_cons_self)) fun es k o en S=>?_
  refine wpAny_bind (wpAny_setEntries_of S.ho S.dt S.fit ?_)
  refine wpAny_bind (MeetsSeq2.wpAny_forIn_array _ (fun rest b s2=>(∀e∈rest,e∈en.toList)∧b=(none,())∧s2=s') _ ?_ ?_ en _ ⟨fun e h=>h,rfl,rfl⟩)
  ·rintro e rest b s2;refine fun h_=>bG h_ ?_;clear h_;rintro he rfl rfl
   refine (S.el e (he e List.mem_cons_self)).go fun l tk _ _=>wpAny_pure ⟨fun e h=>he e (List.mem_cons_of_mem _ h),rfl,rfl⟩
  ·rintro b s';refine fun h_=>bG h_ ?_;clear h_;rintro _ rfl rfl
   exact wpAny_pure ⟨fun c h=>hin c (List.mem_cons_of_mem _ h),rfl,rfl⟩
 ·rintro b s';refine fun h_=>bG h_ ?_;clear h_;rintro _ rfl rfl
  exact wpAny_pure q
theorem fX.with{w:World}{t t':SetTable}{hs:List Int}{es:List V}(h:fX w t hs es){f m:Nat}{p:Bool}(h':t'.led = !(w.params.followText "set-order")):fX w { t with finger:=f,led:=t.led&&t'.led,moves:=m,plain:=p } hs es :=
 ⟨h.nd,⟨h.tab.sz,h.tab.dm,h.tab.mok,h.tab.ri,h.tab.le,h.tab.re⟩,(by rw [h.led,h'];exact Bool.and_self _),h.kinds,h.fresh⟩
theorem fX.I9{w:World}{t t':SetTable}{hs:List Int}{es:List V}(h:fX w t hs es){f m:Nat}{p:Bool}(h':t'.led = !(w.params.followText "set-order")):fX w { t with finger:=f,led:=t'.led&&t.led,moves:=m,plain:=p } hs es :=
 ⟨h.nd,⟨h.tab.sz,h.tab.dm,h.tab.mok,h.tab.ri,h.tab.le,h.tab.re⟩,(by rw [h.led,h'];exact Bool.and_self _),h.kinds,h.fresh⟩
theorem nu(I:Inv B γ φ ι H s){a b:Addr}{es fs:List V}{k0 k1:aK}{P:Array (Int×Value)→Shared→Prop}(ha:H a=some (.set es k0))(hes:∀x∈es,isStr x=true){o:Obj}{en:Array (Int×Value)}(S:SSet B ι s.heap b fs k1 o en)
  (q:∀xs s' k',xs.toList.Perm en.toList→Inv B γ φ ι (upd H a (.set es k')) s'→P xs s'):wpAny (model prog B.w) A (setWalkUnseen b [a] (some a)) P E s:=by
 have I0:∀d,Inv B γ φ ι (upd H a (.set es k0)) { s with drawn:=d }:=fun d=>(je ha).symm▸I.same rfl rfl rfl
 refine set_str I ha hes fun o2 en2 T=>?_
 refine wpAny_bind (S.state (wpAny_bind (bT ?_)))
 split
 ·exact Bj S.ho S.dt S.fit S.ok.led fun xs d hp=>q xs _ k0 hp (I0 d)
 ·refine wpAny_bind (zV (B:=B) (ι:=ι) _ (fun c hc=>?_) ?_)
  ·exact (List.mem_cons.mp hc).elim (fun e=>⟨_,_,_,_,e▸S⟩) fun hc=>⟨_,_,_,_,List.mem_singleton.mp hc▸T⟩
  ·refine wpAny_bind (wpAny_rule (wpAny_bind (T.state ?_)))
   exact if h:(k0.2.led && !k1.2.led||k0.2.plain && !k1.2.plain)=true then wy h (wpAny_bind (T.put I ha T.n4 T.al (T.ok.with S.ok.led) fun s' _ I'=>wpAny_pure (q en s' _ (.refl _) I')))
    else wn h (wbp (wpAny_pure (q en s k0 (.refl _) (I0 s.drawn))))
end
end Mine
end
section
namespace Mine
open PySem PyProof.Rows
open scoped Classical
open SetTable
section
variable{B:Base}{γ:Array GenState}{φ ι:Obs}{H:Hp}{s:Shared}{prog:Program}{A:Around}{E:Value→Shared→Prop}
theorem zL(es:List V)(x:V):(dg es x).length≤es.length+1:=by delta dg;split<;>simp
theorem jk{es:List V}{x y:V}:y∈dg es x↔y∈es∨y=x:=by
 delta dg;split
 ·rename_i h
  exact ⟨.inl,fun h'=>by rcases h' with h' | rfl;exact h';exact h⟩
 ·simp
theorem tX{es:List V}{x:V}(h:es.Nodup):(dg es x).Nodup:=by
 delta dg;split
 ·exact h
 ·rename_i hn
  exact (List.perm_append_singleton x es).nodup_iff.mpr (List.nodup_cons.mpr ⟨hn,h⟩)
def FU(es fs gs:List V):Prop:=gs.Nodup∧∀x,x∈gs↔x∈es∨x∈fs
theorem qY(H:Hp)(a:Addr)(x y:bL):upd (upd H a x) a y=upd H a y:=by
 funext b;simp only [upd];split<;>rfl
inductive ML(B:Base)(γ:Array GenState)(φ ι:Obs)(H:Hp)(a:Addr)(es fs:List V)(rest:List (Int×Value))(s:Shared):Prop
 |mk (gs:List V) (k:aK) (hin:∀e∈rest,lu B.w ι fs e) (nd:gs.Nodup) (len:gs.length+rest.length≤4) (I:Inv B γ φ ι (upd H a (.set gs k)) s) (e3:∀x∈gs,x∈es∨x∈fs) (e4:∀x∈es,x∈gs) (e5:∀l,V.str l∈fs→V.str l∈gs∨∃h tk,(h,.str ⟨l.toArray⟩ tk)∈rest)
theorem Ad(I:Inv B γ φ ι H s){a b:Addr}{es fs:List V}{k0 k1:aK}{P:Unit→Shared→Prop}(ha:H a=some (.set es k0))(hb:H b=some (.set fs k1))(hne:b≠a)(hes:∀x∈es,isStr x=true)(hfs:∀x∈fs,isStr x=true)(hz:es.length+fs.length≤4){nm:String}
  (q:∀s' gs k',FU es fs gs→Inv B γ φ ι (upd H a (.set gs k')) s'→P () s'):wpAny (model prog B.w) A (setMerge a b (Builtin.Frozenset.unchanged nm b k1.1)) P E s:=by
 refine set_str I hb hfs fun o1 en1 S=>set_str I ha hes fun o2 en2 T=>?_
 have hfill:k0.2.fill=en2.size:=by
  have e1:=T.ok.tab.sz
  rw [List.length_map] at e1
  delta SetTable.fill;rw [T.ok.tab.dm,e1];rfl
 dsimp only [setMerge]
 refine wn (fun e=>hne (eq_of_beq e).symm) (wpAny_bind (S.state ?_))
 refine if hemp:en1.isEmpty=true then wy hemp (wpAny_pure (q s es k0 ⟨T.ok.nd,fun x=>?_⟩ ((je ha).symm▸I))) else wn hemp (wpAny_bind (wpAny_bind (T.state ?_)))
 ·have:fs=[]:=List.length_eq_zero_iff.mp (S.len▸Array.isEmpty_iff_size_eq_zero.mp hemp)
  subst this
  exact ⟨.inl,fun h=>h.elim id fun h=>xm h⟩
 have hroom:k0.2.roomFor en1.size=none:=by
  delta SetTable.roomFor;rw [T.m7,hfill,T.len,S.len,if_neg (fun h=>by omega)]
 refine hroom▸wpAny_pure (wpAny_bind (T.state ?_))
 by_cases hz0:en2.size=0
 ·have hroad:k0.2.road k1.2=.slotForSlot:=by
   delta SetTable.road
   simp only [hfill,hz0,T.m7,S.m7,S.ok.tab.dm];rfl
  have hes0:es=[]:=List.length_eq_zero_iff.mp (T.len▸hz0)
  subst hes0
  refine hroad.symm▸T.put I ha S.n4 S.al (S.ok.I9 T.ok.led) fun s' _ I'=>q s' fs _ ⟨S.ok.nd,fun x=>⟨.inr,fun h=>h.elim (fun h=>xm h) id⟩⟩ I'
 ·have hroad:k0.2.road k1.2=.oneByOne:=by
   delta SetTable.road
   rw [hfill,if_pos (by simpa using hz0)]
  refine hroad.symm▸wpAny_bind (nu I ha hes S fun xs s1 k' hp I1=>?_)
  refine wpAny_bind (MeetsSeq2.wpAny_forIn_array _ (fun rest _ s'=>ML B γ φ ι H a es fs rest s') _ (fun e rest _ s' m=>?_) (fun _ s' m=>?_) xs _ ⟨es,k',fun e h=>S.el e (hp.mem_iff.mp h),T.ok.nd,(Nat.le_trans (Nat.le_of_eq (congrArg (es.length+·) (hp.length_eq.trans S.len))) hz),I1,fun x=>.inl,fun x h=>h,fun l hl=>.inr ?_⟩)
  ·cases m with | mk gs k hin nd len I2 e3 e4 e5 =>
   cases hin e List.mem_cons_self with | mk l tk hfl rx =>
   have hb2:upd H a (.set gs k) b=some (.set fs k1):=(if_neg hne).trans hb
   have hl:=Nat.le_trans (Nat.add_le_add_right (zL gs (.str l)) rest.length) (Nat.le_trans (Nat.le_of_eq (Nat.succ_add_eq_add_succ ..)) len)
   refine wpAny_bind (wpAny_holding (fj I2 rx (if_pos rfl) (fun x hx=>(e3 x hx).elim (hes x) (hfs x)) (Nat.le_trans (Nat.le_add_right ..) hl) fun r s2 gs' k2 hperm _ I3=>?_))
   have I3:=qY H a _ _▸I3
   refine set_str I3 ((if_neg hne).trans hb) hfs fun o3 en3 U=>?_
   refine wpAny_bind (wpAny_bind (wpAny_bind (U.state (wpAny_pure (wn (by simp) (wpAny_pure (wpAny_bind (U.state (wn (by simp) (wpAny_pure ?_))))))))))
   refine ⟨gs',k2,fun e he=>hin e (List.mem_cons_of_mem _ he),hperm.nodup_iff.mpr (tX nd),hperm.length_eq▸hl,I3,fun x hx=>?_,fun x hx=>hperm.mem_iff.mpr (jk.mpr (.inl (e4 x hx))),fun l' hl'=>?_⟩
   ·exact (jk.mp (hperm.mem_iff.mp hx)).elim (e3 x) fun e=>.inr (e▸hfl)
   ·refine (e5 l' hl').elim (fun h=>.inl (hperm.mem_iff.mpr (jk.mpr (.inl h)))) fun h=>f5 h fun h tk' h=>(List.mem_cons.mp h).elim (fun e=>.inl ?_) fun h=>.inr ⟨_,_,h⟩
    exact hperm.mem_iff.mpr (jk.mpr (.inr (congrArg V.str (Array.mk.inj (congrArg Str.cps (Value.str.inj (Prod.mk.inj e).2).1)))))
  ·cases m with | mk gs k hin nd len I2 e3 e4 e5 =>
   exact wpAny_pure (q s' gs k ⟨nd,fun x=>⟨e3 x,fun h=>h.elim (e4 x) fun h=>aL (sU (hfs x h)) fun l e=>by subst e;exact (e5 l h).elim id fun g=>f5 g fun _ _ g=>xm g⟩⟩ I2)
  ·refine aL (List.mem_iff_getElem?.mp hl) fun i hi=>ao (S.al.kU hi) fun e he g=>ao (bA g.2) fun tk e2 _=>?_
   exact ⟨e.1,tk,hp.mem_iff.mpr (e2▸List.mem_of_getElem? he)⟩
theorem AU(I:Inv B γ φ ι H s){a b:Addr}{es fs:List V}{k0 k1:aK}{P:Value→Shared→Prop}(ha:H a=some (.set es k0))(hb:H b=some (.set fs k1))(hne:b≠a)(hstr:∀x∈es++fs,isStr x=true)(hz:es.length+fs.length≤4)
  (q:∀s' gs k',gs.Nodup→(∀x,x∈gs↔x∈es∨x∈fs)→Inv B γ φ ι (upd H a (.set gs k')) s'→P .none s'):wpAny (model prog B.w) A (call (.builtin "set.update") [.ref a,.ref b]) P E s:=by
 have hes:∀x∈es,isStr x=true:=fun x h=>hstr x (List.mem_append.mpr (.inl h))
 have hfs:∀x∈fs,isStr x=true:=fun x h=>hstr x (List.mem_append.mpr (.inr h))
 refine set_str I hb hfs fun o1 en1 S=>?_
 refine wpAny_call_entry F.slot_set_update (dN I ha) F.entry_set_update ?_ (F.args_set_update_2 _ _)
 unfold Builtin.«set.update» Builtin.Frozenset.manyOthers
 refine wbn Bool.false_ne_true ?_
 dsimp only [Builtin.Frozenset.addrOf]
 simp only [pure_bind]
 refine wpAny_bind (wpAny_forIn_list _ (fun rest _ s'=>(rest=[.ref b]∧s'=s)∨(rest=[]∧P .none s')) _ ?_ ?_ _ _ (.inl ⟨rfl,rfl⟩))
 ·rintro x rest _ s' (⟨e,rfl⟩ | ⟨e,_⟩)
  ·cases e
   refine wpAny_bind (wpAny_bind (wpAny_bind (wpAny_isInstance (b:=true) (dN I hb) sub_set_self ?_)))
   refine wpAny_pure ?_
   simp only [if_true]
   refine wbp ?_
   exact wpAny_bind (wpAny_bind (S.state (wpAny_pure (Ad I ha hb hne hes hfs hz fun s2 gs k' hg I2=>wpAny_pure (.inr ⟨trivial,q s2 gs k' hg.1 hg.2 I2⟩)))))
  ·injection e
 ·rintro _ s' (⟨e,_⟩ | ⟨_,h⟩)
  ·injection e
  ·exact wpAny_pure ⟨_,rfl,h⟩
end
end Mine
end
section
/- sorting where the answers of<are not looked at: what comes out is a permutation -/
namespace SP
open PySem PyProof.Rows
structure PB(a₀:Array Keyed)(kd:SortKind)(st:SortSt):Prop where
 perm:(arrOf st).Perm a₀
 kind:kindOf st=kd
 failed:failedOf st=none
 pend:pendingOf st=#[]
theorem PB.set{a₀:Array Keyed}{kd:SortKind}{st:SortSt}(h:PB a₀ kd st){xs:Array Keyed}(hp:xs.Perm (arrOf st)):PB a₀ kd (setArr st xs):=⟨hp.trans h.perm,h.kind,h.failed,h.pend⟩
def qM(M:Model)(A:Around)(E:Value→Shared→Prop)(s:Shared)(a₀:Array Keyed)(kd:SortKind):Prop :=
 ∀(st:SortSt) (i j:Nat) (Q:Option Bool→SortSt→Prop),PB a₀ kd st→i<a₀.size→j<a₀.size→(∀b,Q (some b) st)→wpS M A E s (ltAt' i j) Q st
section
variable{prog:Program}{w:World}{A:Around}{E:Value→Shared→Prop}{s:Shared}{a₀:Array Keyed}{kd:SortKind}
theorem zl(L:qM (model prog w) A E s a₀ kd){st:SortSt}{n ok:Nat}{Q:Bool→SortSt→Prop}(hn:n≤a₀.size)(hok:ok≤n)(hB:PB a₀ kd st)
  (h:∀st',PB a₀ kd st'→Q true st'):wpS (model prog w) A E s (binarySort' 0 n ok) Q st:=by
 rw [binarySort'_eq]
 simp only [Nat.zero_add]
 refine wpS_bind (wpS_mono (wpS_forRange (I:=fun k c st'=>c=(none,())∧PB a₀ kd st') (Q:=fun c st'=>c=(none,())∧PB a₀ kd st') ?step (fun c st' h=>h) ⟨rfl,hB⟩) ?post)
 case post =>
  rintro c st' ⟨rfl,hB'⟩
  exact wpS_pure (h st' hB')
 case step =>
  rintro k c st' hak hkn ⟨rfl,hB'⟩
  refine wpS_bind (wpS_mono (wpS_forRange (I:=fun x c st''=>st''=st'∧∃l r,c=(none,l,r)∧l≤r∧r≤k) (Q:=fun c st''=>st''=st'∧∃l r,c=(none,l,r)∧l≤r∧r≤k) ?istep (fun c st'' h=>h) ⟨rfl,0,k,rfl,by exact Nat.zero_le _,by exact Nat.le_refl _⟩) ?ipost)
  case istep =>
   rintro x c st'' _ hxk ⟨rfl,l,r,rfl,hlr,hrk⟩
   dsimp only
   by_cases hge:l≥r
   ·rw [if_pos hge];exact wpS_pure ⟨rfl,l,r,rfl,hlr,hrk⟩
   ·rw [if_neg hge]
    refine wpS_bind (L st'' k ((l+r)/2) _ hB' (Nat.lt_of_lt_of_le hkn hn) (by omega) fun b=>?_)
    cases b
    ·exact wpS_pure ⟨rfl,(l+r)/2+1,r,rfl,(Mine.N.k6 hge),by omega⟩
    ·exact wpS_pure ⟨rfl,l,(l+r)/2,rfl,(Mine.N.k7 hge),(Mine.N.k4 hge hrk)⟩
  case ipost =>
   rintro c st'' ⟨rfl,l,r,rfl,hlr,hrk⟩
   exact wpS_bind (wpS_modify (wpS_pure ⟨rfl,hB'.set (bubble_perm _ _ _)⟩))
theorem qW(L:qM (model prog w) A E s a₀ kd){st:SortSt}{a nrem:Nat}{Q:AscSt→SortSt→Prop}(hn:nrem≤a₀.size)(ha:1≤a)(han:a≤nrem)(hB:PB a₀ kd st)
  (h:∀n,a≤n→n≤nrem→Q (none,n) st):wpS (model prog w) A E s (ascLoop a nrem) Q st:=by
 refine wpS_forRange (I:=fun x c st'=>st'=st∧c=(none,x)) ?step ?fin ⟨rfl,rfl⟩
 case fin =>
  rintro c st' ⟨rfl,rfl⟩
  exact (show max a nrem=nrem by exact Nat.max_eq_right han).symm▸h nrem han (Nat.le_refl _)
 case step =>
  rintro x c st' hax hxn ⟨rfl,rfl⟩
  refine wpS_bind (L st' x (x-1) _ hB (Nat.lt_of_lt_of_le hxn hn) (Mine.N.k8 hn hxn) fun b=>?_)
  cases b
  ·dsimp only [if_false];exact wpS_pure ⟨rfl,rfl⟩
  ·dsimp only [if_true];exact wpS_pure (h x hax (Nat.le_of_lt ‹_›))
theorem nP(L:qM (model prog w) A E s a₀ kd){st:SortSt}{n nrem:Nat}{Q:Option Nat→SortSt→Prop}(hn:nrem≤a₀.size)(h1:1≤n)(hnn:n≤nrem)(hB:PB a₀ kd st)
  (h:∀m st',PB a₀ kd st'→1≤m→m≤nrem→Q (some m) st'):wpS (model prog w) A E s (tail3 n nrem) Q st:=by
 refine wpS_bind (wpS_reverse ?_)
 exact wpS_bind (qW L hn h1 hnn (hB.set (mirror_perm (arrOf st) 0 n ((n-0)/2))) fun m hm1 hm2=>wpS_pure (h m _ (hB.set (mirror_perm (arrOf st) 0 n ((n-0)/2))) (Nat.le_trans h1 hm1) hm2))
theorem v5(L:qM (model prog w) A E s a₀ kd){st:SortSt}{n nrem:Nat}{Q:DescSt→SortSt→Prop}(hn:nrem≤a₀.size)(h1:1≤n)(hnn:n≤nrem)(hB:PB a₀ kd st)
  (h:∀m neq st',PB a₀ kd st'→n≤m→m≤nrem→Q (none,m,neq) st'):wpS (model prog w) A E s (descLoop n nrem) Q st:=by
 refine wpS_forRange (I:=fun x c st'=>∃neq,c=(none,x,neq)∧PB a₀ kd st') ?step ?fin ⟨0,rfl,hB⟩
 case fin =>
  rintro c st' ⟨neq,rfl,hB'⟩
  exact (show max n nrem=nrem by exact Nat.max_eq_right hnn).symm▸h nrem neq st' hB' hnn (Nat.le_refl _)
 case step =>
  rintro x c st' hax hxn ⟨neq,rfl,hB'⟩
  refine wpS_bind (L st' x (x-1) _ hB' (Nat.lt_of_lt_of_le hxn hn) (Mine.N.k8 hn hxn) fun b=>?_)
  cases b
  ·refine wpS_bind (L st' (x-1) x _ hB' (Mine.N.k8 hn hxn) (Nat.lt_of_lt_of_le hxn hn) fun b=>?_)
   cases b
   ·dsimp only [if_false];exact wpS_pure ⟨neq+1,rfl,hB'⟩
   ·dsimp only [if_true];exact wpS_pure (h x neq st' hB' hax (Nat.le_of_lt ‹_›))
  ·by_cases hneq:neq>0
   ·rw [if_pos hneq]
    exact wpS_bind (wpS_reverse (wpS_pure ⟨0,rfl,hB'.set (mirror_perm _ _ _ _)⟩))
   ·rw [if_neg hneq];exact wpS_pure ⟨0,rfl,hB'⟩
theorem nQ(L:qM (model prog w) A E s a₀ kd){st:SortSt}{n nrem:Nat}{Q:Option Nat→SortSt→Prop}(hn:nrem≤a₀.size)(hnn:n+1≤nrem)(hB:PB a₀ kd st)
  (h:∀m st',PB a₀ kd st'→1≤m→m≤nrem→Q (some m) st'):wpS (model prog w) A E s (descPart n nrem) Q st:=by
 refine wpS_bind (wpS_lift (wpAny_rule ⟨rfl,?_⟩))
 refine wpS_bind (v5 L hn (Nat.succ_pos _) hnn hB fun m neq st' hB' hm1 hm2=>?_)
 dsimp only
 by_cases hneq:neq>0
 ·rw [if_pos hneq]
  exact wpS_bind (wpS_reverse (nP L hn (by omega) hm2 (hB'.set (mirror_perm _ _ _ _)) h))
 ·rw [if_neg hneq]
  exact nP L hn (by omega) hm2 hB' h
theorem tH(L:qM (model prog w) A E s a₀ kd){st:SortSt}{nrem:Nat}{Q:Option Nat→SortSt→Prop}(hn:nrem≤a₀.size)(h1:1≤nrem)(hB:PB a₀ kd st)
  (h:∀m st',PB a₀ kd st'→1≤m→m≤nrem→Q (some m) st'):wpS (model prog w) A E s (countRun' 0 nrem) Q st:=by
 rw [countRun0_eq]
 refine wpS_bind (qW L hn (Nat.le_refl 1) h1 hB fun n hn1 hn2=>?_)
 by_cases hnn:n=nrem
 ·rw [if_pos (by simpa using hnn)]
  exact wpS_pure (h n st hB hn1 hn2)
 ·rw [if_neg (by simpa using hnn)]
  by_cases hgt:n>1
  ·rw [if_pos hgt]
   refine wpS_bind (L st 0 (n-1) _ hB (by omega) (Mine.N.k9 hn hn2 (Mine.N.g1 hgt)) fun b=>?_)
   cases b
   ·exact wpS_bind (wpS_reverse (nQ L hn (Nat.succ_le_of_lt (Mine.N.d8 hn2 hnn)) (hB.set (mirror_perm _ _ _ _)) h))
   ·dsimp only [if_true];exact wpS_pure (h n st hB hn1 hn2)
  ·rw [if_neg hgt]
   exact nQ L hn (Nat.succ_le_of_lt (Mine.N.d8 hn2 hnn)) hB h
def yy(a₀:Array Keyed)(st:SortSt):Prop:=(arrOf st).Perm a₀∧failedOf st=none∧pendingOf st=#[(0,a₀.size,0)]
theorem PB.done{st:SortSt}(hB:PB a₀ kd st):yy a₀ (setPending st ((pendingOf st).push (0,a₀.size,0))):=⟨hB.perm,hB.failed,by show (pendingOf st).push _=_;refine (hB.pend)▸?_;rfl⟩
theorem vZ(L:qM (model prog w) A E s a₀ kd){st:SortSt}{Q:Unit→SortSt→Prop}(hB:PB a₀ kd st)(h2:2≤a₀.size)(h64:a₀.size<64)
  (h:∀st',(arrOf st').Perm a₀→failedOf st'=none→Q () st'):wpS (model prog w) A E s sortRuns' Q st:=by
 refine (sortRuns'_eq)▸?_
 refine wpS_bind (wpS_get ?_)
 dsimp only
 have hmr:minRun' a₀.size a₀.size 0=a₀.size:=by
  obtain ⟨f,hf⟩:∃f,a₀.size=f+1:=⟨a₀.size-1,(Mine.N.l1 h2)⟩
  have:minRun' (f+1) a₀.size 0=a₀.size:=by rw [minRun'_succ,if_pos h64];rfl
  rwa [←hf] at this
 rw [hB.perm.size_eq,hmr]
 refine wpS_bind (wpS_mono (wpS_forRange
  (I:=fun x c st'=>(x=0∧c=(none,0)∧PB a₀ kd st')∨(1≤x∧c=(none,a₀.size)∧yy a₀ st'))
  (Q:=fun c st'=>c=(none,a₀.size)∧yy a₀ st') ?step ?fin (.inl ⟨rfl,rfl,hB⟩)) ?post)
 case fin =>
  rintro c st' (⟨hx,_,_⟩ | ⟨_,hc,hD⟩)
  ·lia
  ·exact ⟨hc,hD⟩
 case step =>
  rintro x c st' _ hx (⟨rfl,rfl,hB'⟩ | ⟨hx1,rfl,hD⟩)
  ·rw [if_neg (by lia)]
   simp only [Nat.sub_zero,Nat.min_self,Nat.zero_add]
   refine wpS_bind (tH L (Nat.le_refl _) (by assumption) hB' fun m st2 hB2 hm1 hm2=>?_)
   dsimp only
   by_cases hlt:m<a₀.size
   ·rw [if_pos hlt]
    refine wpS_bind (wpS_lift (wpAny_rule ⟨rfl,?_⟩))
    refine wpS_bind (zl L (Nat.le_refl _) hm2 hB2 fun st3 hB3=>?_)
    refine wpS_bind (wpS_get ?_)
    have hb:(pendingOf st3).back?=none:=by rw [hB3.pend];rfl
    exact (hb).symm▸wpS_bind (wpS_modify (wpS_pure (.inr ⟨by exact Nat.le_refl _,rfl,hB3.done⟩)))
   ·rw [if_neg hlt]
    have hm:m=a₀.size:=(Nat.le_antisymm hm2 (Mine.N.b1 hlt))
    subst hm
    refine wpS_bind (wpS_get ?_)
    rw [(show (pendingOf st2).back?=none from by rw [hB2.pend];rfl)]
    exact wpS_bind (wpS_modify (wpS_pure (.inr ⟨by exact Nat.le_refl _,rfl,hB2.done⟩)))
  ·rw [if_pos (Nat.le_refl _)]
   exact wpS_pure ⟨rfl,hD⟩
 case post =>
  rintro c st' ⟨rfl,hD⟩
  refine wpS_bind (wpS_mono (wpS_forRange (I:=fun _ c st''=>st''=st'∧c=(none,())) (Q:=fun c st''=>st''=st'∧c=(none,())) ?_ (fun _ _ hh=>hh) ⟨rfl,rfl⟩) ?_)
  ·rintro x c st'' _ _ ⟨rfl,rfl⟩
   refine wpS_bind (wpS_get ?_)
   rw [if_pos (by rw [hD.2.2];exact Nat.le_refl 1)]
   exact wpS_pure ⟨rfl,rfl⟩
  ·rintro c st'' ⟨rfl,rfl⟩
   exact wpS_pure (h _ hD.1 hD.2.1)
end
end SP
end
section
namespace SP
open PySem PyProof.Rows
theorem CK(f:Bool)(x y:Value):keyLt' (tuples' f) x y=(do
  let xs ←Builtin.List.listItems x;let ys ←Builtin.List.listItems y
  for ((p,q),i) in (xs.toList.zip ys.toList).zipIdx do
   if !(←eqBool p q) then return ←oneLt' (f&&i==0) p q
  return xs.size<ys.size):=rfl
theorem ud(keys:Array Value):keyKind' keys=(do
  let firsts ←keys.mapM firstOfTuple'
  if firsts.all (·.isSome) then
   rule "list.sort.keys-are-tuples"
   return tuples' ((←oneTypeOnly' (firsts.filterMap id)).any (· !=.type "tuple"))
  if (firsts[0]?.bind id).isSome then return general'
  return if (←oneTypeOnly' keys).isSome then oneType' else general'):=rfl
theorem IA(v:Value):firstOfTuple' v=(do
  if (←typeOf v) !=.type "tuple" then return none
  return (←Builtin.List.listItems v)[0]?):=rfl
def ef(h:Heap)(v:Value):Prop:=∃a n x t y u,v=.ref a∧h.get? a=some { cls:=.type "tuple",data:=.seq #[.str x t,.str y u] n }
section
variable{prog:Program}{w:World}{A:Around}{E:Value→Shared→Prop}{s:Shared}{a₀:Array Keyed}
theorem nY{f:Bool}{a b:Str}{t u:Tok}{Q:Bool→Shared→Prop}(h:∀r,Q r s):wpAny (model prog w) A (oneLt' f (.str a t) (.str b u)) Q E s:=by
 cases f
 ·refine wpAny_bind ?_
  refine P.lt_str ?_
  exact wpAny_truthy_bool (h _)
 ·exact oneLt_str (h _)
theorem wW{f:Bool}{p q:Value}{Q:Bool→Shared→Prop}(hp:ef s.heap p)(hq:ef s.heap q)(h:∀r,Q r s):wpAny (model prog w) A (keyLt' (tuples' f) p q) Q E s:=by
 obtain ⟨a,n,x,t,y,u,rfl,ha⟩:=hp
 obtain ⟨b,m,x',t',y',u',rfl,hb⟩:=hq
 refine wpAny_bind (listItems_at ha rfl ?_)
 refine wpAny_bind (listItems_at hb rfl ?_)
 refine wpAny_bind (wpAny_bind (wpAny_bind (wpAny_eqBool_str ?_)))
 split
 ·exact wpAny_bind (nY fun r=>wpAny_pure (wpAny_pure (wpAny_pure (h r))))
 ·refine wpAny_pure ?_
  refine wpAny_bind (wpAny_bind (wpAny_eqBool_str ?_))
  split
  ·exact wpAny_bind (nY fun r=>wpAny_pure (wpAny_pure (wpAny_pure (h r))))
  ·refine wpAny_pure ?_
   exact wpAny_pure (wpAny_pure (h _))
theorem Ag(h0:∀p∈a₀.toList,ef s.heap p.1){f:Bool}:qM (model prog w) A E s a₀ (tuples' f):=by
 intro st i j Q hB hi hj h
 have hsz:=hB.perm.size_eq
 have at_:∀k,k<a₀.size→∃e,(arrOf st)[k]?=some e∧ef s.heap e.1:=fun k hk=>by
  refine ⟨(arrOf st)[k]'(Mine.N.b7 hsz hk),getElem?_pos _ _ _,h0 _ ?_⟩
  exact (Array.perm_iff_toList_perm.mp hB.perm).mem_iff.mp (by simp)
 obtain ⟨x,hx,tx⟩:=at_ i hi
 obtain ⟨y,hy,ty⟩:=at_ j hj
 show wpS _ _ _ _ (do let x ←elem' (arrOf st) i;let y ←elem' (arrOf st) j;lt' x y) Q st
 simp only [elem'_eq,hx,hy]
 refine wpS_bind (wpS_pure (wpS_bind (wpS_pure ?_)))
 rw [lt'_eq]
 refine wpS_bind (wpS_get ?_)
 refine (hB.kind)▸?_
 refine wpS_bind (wpS_lift (wpAny_attempt (wW tx ty fun r=>⟨rfl,?_⟩)))
 exact wpS_pure (h r)
theorem pU{α:Type}{f:Value→Sem α}:∀(l:List Value) {Q:List α→Shared→Prop} (P:Value→α→Prop),(∀v∈l,∀{R:α→Shared→Prop},(∀x,P v x→R x s)→wpAny (model prog w) A (f v) R E s) →
  (∀xs,Mine.aI P l xs→Q xs s)→wpAny (model prog w) A (l.mapM f) Q E s
 |[],Q,P,_,h=>by exact wpAny_pure (h [] .nil)
 |v::l,Q,P,hf,h=>by
  rw [List.mapM_cons]
  refine wpAny_bind (hf v List.mem_cons_self fun x hx=>?_)
  refine wpAny_bind (pU l P (fun u hu=>hf u (List.mem_cons_of_mem _ hu)) fun xs hxs=>wpAny_pure (h _ (.cons hx hxs)))
theorem xu{v:Value}{R:Option Value→Shared→Prop}(hv:ef s.heap v)(h:∀x,(∃y t,x=some (.str y t))→R x s):wpAny (model prog w) A (firstOfTuple' v) R E s:=by
 obtain ⟨a,n,x,t,y,u,rfl,ha⟩:=hv
 refine wpAny_bind (wpAny_typeOf (T:="tuple") ⟨_,ha,rfl⟩ ?_)
 refine wpAny_bind (listItems_at ha rfl ?_)
 exact wpAny_pure (h _ ⟨x,t,rfl⟩)
theorem sf{keys:List Value}{Q:SortKind→Shared→Prop}(h0:∀v∈keys,ef s.heap v)(h:∀f,Q (tuples' f) s):wpAny (model prog w) A (keyKind' keys.toArray) Q E s:=by
 rw [ud,List.mapM_toArray]
 refine wpAny_bind (wpAny_bind (pU keys (fun _ x=>∃y t,x=some (Value.str y t)) (fun v hv R hR=>xu (h0 v hv) hR) fun xs hxs=>wpAny_pure ?_))
 have hall:∀x∈xs,∃y t,x=some (Value.str y t):=fun x hx=>by
  obtain ⟨i,hi⟩:=List.mem_iff_getElem?.mp hx
  obtain ⟨_,_,g⟩:=hxs.kU hi
  exact g
 have ha:(xs.toArray.all fun x=>x.isSome)=true:=by
  rw [List.all_toArray,List.all_eq_true]
  intro x hx;obtain ⟨y,t,rfl⟩:=hall x hx;rfl
 refine (if_pos ha)▸?_
 refine wpAny_bind (wpAny_rule ?_)
 simp only [oneTypeOnly'_eq]
 have hf:∀v∈(xs.toArray.filterMap id).toList,∃y t,v=Value.str y t:=fun v hv=>by
  simp only [List.filterMap_toArray,List.mem_filterMap,id] at hv
  obtain ⟨x,hx,e⟩:=hv
  obtain ⟨y,t,rfl⟩:=hall x hx
  cases e;exact ⟨y,t,rfl⟩
 generalize xs.toArray.filterMap id=vs at hf
 obtain ⟨vs⟩:=vs
 rw [List.mapM_toArray]
 refine wpAny_bind (wpAny_bind (wpAny_bind (pU vs (fun _ _=>True) (fun v hv R hR=>?_) fun ts hts=>wpAny_pure ?_)))
 ·obtain ⟨y,t,rfl⟩:=hf v hv
  exact wpAny_pure (hR _ trivial)
 ·split
  ·exact wpAny_pure (wpAny_pure (h _))
  ·exact wpAny_pure (wpAny_pure (h _))
theorem nC{a:Addr}{vs:List Value}{n:Nat}{P:Fin→Shared→Prop}(ho:s.heap.get? a=some (seqObj "list" vs.toArray n))
  (h0:∀v∈vs,ef s.heap v) (h64:vs.length<64)
  (h:∀out:List Value,out.Perm vs→P (.done (.ret .none)) { s with heap:=sortedHeap s.heap a vs out.toArray }) :
  wpAny (model prog w) A (Builtin.«list.sort» ⟨[.ref a],[]⟩) P E s:=by
 rw [list_sort_plain]
 refine wpAny_bind (listItems_at ho rfl ?_)
 refine wpAny_bind (listUpdate_at ho rfl ?_)
 obtain ⟨e1,ho1⟩:∃e1,(s.heap.update a (Obj.mapSeq fun _=>#[])).get? a=some (seqObj "list" #[] e1):=⟨_,get?_update_seq ho (fun _=>#[])⟩
 refine wpAny_bind (seqEpoch_at ho1 rfl ?_)
 refine wpAny_bind (wpAny_newTuple ?_)
 refine wpAny_bind (wpAny_newList ?_)
 refine wpAny_holding ?_
 have ho6:(((s.heap.update a (Obj.mapSeq fun _=>#[])).push (seqObj "tuple" vs.toArray 0)).push (seqObj "list" #[] 0)).get? a=some (seqObj "list" #[] e1):=by
  rw [Heap.get?_push_ne _ _ _ (by rw [size_push',Heap.size_update];exact Nat.ne_of_lt (Nat.lt_succ_of_lt (Heap.lt_size ho))),Heap.get?_push_ne _ _ _ (by rw [Heap.size_update];exact Nat.ne_of_lt (Heap.lt_size ho))]
  exact ho1
 show wpAny (model prog w) A _ P E { s with heap:=((s.heap.update a (Obj.mapSeq fun _=>#[])).push (seqObj "tuple" vs.toArray 0)).push (seqObj "list" #[] 0) }
 have hsz:vs.toArray.size=vs.length:=rfl
 have h0':∀v∈vs,ef (((s.heap.update a (Obj.mapSeq fun _=>#[])).push (seqObj "tuple" vs.toArray 0)).push (seqObj "list" #[] 0)) v:=fun v hv=>by
  obtain ⟨b,m,x,t,y,u,e,hb⟩:=h0 v hv
  refine ⟨b,m,x,t,y,u,e,Heap.get?_push_of_some _ (Heap.get?_push_of_some _ ?_)⟩
  have hne:a≠b:=by
   rintro rfl;rw [ho] at hb;injection hb with h1;injection h1 with h1;exact absurd h1 (of_decide_eq_true rfl)
  exact (Heap.get?_update_other _ _ hne).trans hb
 have fin:∀st':SortSt,(arrOf st').Perm (pairsOf vs)→P (.done (.ret .none)) { s with heap:=sortedHeap s.heap a vs ((arrOf st').map (·.2)) }:=by
  intro st' hp
  have hp':((arrOf st').map (·.2)).toList.Perm vs:=by
   rw [Array.toList_map]
   refine ((Array.perm_iff_toList_perm.mp hp).map _).trans (List.Perm.of_eq ?_)
   rw [pairsOf_toList]
   clear h h0 h0' h64 ho ho6 hp hsz
   induction vs with
   |nil=>rfl
   |cons v vs ih=>simp only [List.zip_cons_cons,List.map_cons,ih]
  exact h _ hp'
 by_cases h2:vs.toArray.size<2
 ·rw [if_pos h2,if_pos h2]
  refine wpAny_bind (wpAny_pure ?_)
  refine wpAny_bind (wpAny_pure ?_)
  dsimp only
  refine wpAny_bind (seqEpoch_at ho6 rfl ?_)
  refine wpAny_bind (listUpdate_at ho6 rfl ?_ (hsz2:=by rw [Array.size_map];show (pairsOf vs).size≤_;simp only [pairsOf_size,sizeLine_eq];exact Mine.N.j9 h64 (of_decide_eq_true rfl)))
  simp only [bne_self_eq_false,Bool.false_eq_true]
  exact wpAny_pure (fin (SortSt.mk' general' (vs.toArray.zip vs.toArray) #[] 7 none) (Array.Perm.refl _))
 ·rw [if_neg h2,if_neg h2]
  refine wpAny_bind (sf h0' fun f=>?_)
  refine wpAny_bind (wpAny_mono (vZ (a₀:=pairsOf vs) (kd:=tuples' f) (st:=SortSt.mk' (tuples' f) (vs.toArray.zip vs.toArray) #[] 7 none)
   (Q:=fun _ st'=>(arrOf st').Perm (pairsOf vs)∧failedOf st'=none)
   (Ag fun p hp=>h0' _ (by rw [pairsOf_toList] at hp;exact (mem_zip_self hp).1▸(mem_zip_self hp).2)) ⟨Array.Perm.refl _,rfl,rfl,rfl⟩ (by simpa only [pairsOf_size] using Nat.le_of_not_lt ‹_›) (by rw [pairsOf_size];exact h64) fun st' a1 a2=>⟨a1,a2⟩) ?_ fun _ _ e=>e)
  rintro ⟨⟨⟩,st'⟩ s' ⟨rfl,hp,hf⟩
  refine wpAny_bind (seqEpoch_at ho6 rfl ?_)
  refine wpAny_bind (listUpdate_at ho6 rfl ?_ (hsz2:=by refine Nat.le_trans (Nat.le_of_eq ((Array.size_map ..).trans (hp.size_eq.trans (pairsOf_size _)))) ?_;simp only [sizeLine_eq];exact Mine.N.j9 h64 (of_decide_eq_true rfl)))
  refine (hf)▸?_
  simp only [bne_self_eq_false,Bool.false_eq_true]
  exact wpAny_pure (fin st' hp)
end
end SP
end
section
namespace Mine.Fz
open PySem PySem.F
open scoped Classical
set_option maxRecDepth 100000
theorem fk:Manifest.owners.lookup (String.ofList ['r','o','t','a','r','e','t','i','_','t','e','s'].reverse)=some Manifest.sig_set_iterator:=by kernel_rfl
theorem aX:Slot "set_iterator" "__next__" "set_iterator.__next__" :=
 .of (owner:="set_iterator") (n:="__next__") rfl rfl (of_decide_eq_true rfl) (by decide +kernel) (.inl (by kernel_rfl)) (by kernel_rfl)
theorem cW:Slot "set_iterator" "__iter__" "set_iterator.__iter__" :=
 .of (owner:="set_iterator") (n:="__iter__") (by kernel_rfl) rfl (by decide) rfl (.inl (by refine (find?_eq_fast)▸?_;kernel_rfl)) (by kernel_rfl)
theorem gc:entryFor table "set_iterator.__next__"=some Builtin.«set_iterator.__next__»:=entryFor_of_tree (by kernel_rfl)
theorem gM(a:Value):argsOk "set_iterator.__next__" ⟨[a],[]⟩:=by
 delta argsOk;rw [signature?_of (id:="set_iterator.__next__") (n:=['_','_','t','x','e','n','_','_']) (o:=['r','o','t','a','r','e','t','i','_','t','e','s']) (by rfl) fk];kernel_rfl
theorem iz:entryFor table "set.__iter__"=some Builtin.«frozenset.__iter__» :=
 entryFor_alias (id':="frozenset.__iter__") (by rfl) rfl (by decide +kernel) (by kernel_rfl)
end Mine.Fz
namespace Mine
open PySem PyProof.Rows
section
variable{prog:Program}{w:World}{A:Around}{E:Value→Shared→Prop}{s:Shared}
theorem sd{d:Addr}{o:Obj}{es:Array DictEntry}{ep:Nat}{Q:Value→Shared→Prop}(hd:(d==sysModules)=false)(ho:s.heap.get? d=some o)(hc:o.ExactDict)(hdat:o.data=.dict es ep)
  (hQ:Q (.ref s.heap.objs.size) { s with heap:=s.heap.push { cls:=.type "dict_keyiterator",data:=.fields #[.ref d,.int 0 0,.int es.size 0,.int ep 0] } }) :
  wpAny (model prog w) A (pyIter (.ref d)) Q E s:=by
 refine wpAny_pyIter_slot (⟨o,ho,hc.1⟩) F.slot_dict_iter (wpAny_call_entry F.slot_dict_iter (⟨o,ho,hc.1⟩) F.entry_dict_iter ?_ (F.args_dict_iter_1 _))
 refine wpAny_bind ?_
 refine wpAny_bind (wpAny_notOrdered_dict (⟨o,ho,hc.1⟩) ?_)
 show wpAny _ _ (pure (Value.ref d)) _ _ s
 refine wpAny_pure ?_
 show wpAny _ _ (Builtin.Dict.showsAll d>>=_) _ _ s
 delta Builtin.Dict.showsAll
 refine (if_neg ((hd)▸Bool.false_ne_true))▸?_
 refine wbp ?_
 refine wpAny_bind (wpAny_dictEntries ho hdat ?_)
 refine wpAny_bind (wpAny_dictEpoch ho hdat ?_)
 refine wpAny_bind (wpAny_newObj_type (wpAny_pure ⟨_,rfl,"dict_keyiterator",_,⟨_,Heap.get?_push_size _ rfl,rfl⟩,F.slot_dict_keyiterator_next.lookup,?_⟩))
 exact hQ
theorem ny{it d:Addr}{i n ep:Nat}{od:Obj}{es:Array DictEntry}{e:DictEntry}{Q:Option Value→Shared→Prop}(hit:s.heap.IsKeyIter it d i n ep)(hod:s.heap.get? d=some od)(hdd:od.data=.dict es ep)(hn:es.size=n)(hx:es[i]?=some e)
  (hQ:∀h',h'.IsKeyIter it d (i+1) n ep→Heap.SameBut it s.heap h'→Q (some e.key) { s with heap:=h' }) :
  wpAny (model prog w) A (pyNext (.ref it)) Q E s:=by
 refine br (id hit) fun o ho hc hd=>?_
 refine wpAny_bind (wpAny_attempt (wpAny_callSpecial?_slot (name:=Str.ofString "__next__") hit.typeIs F.slot_dict_keyiterator_next
  (wpAny_call_entry F.slot_dict_keyiterator_next hit.typeIs F.entry_dict_keyiterator_next ?_ (F.args_dict_keyiterator_next_1 _))))
 refine wbp ?_
 refine wpAny_bind ?_
 refine wpAny_bind ?_
 refine wpAny_bind (wpAny_typeNameOfWhole_keyiter hit.typeIs (wpAny_pure ?_))
 refine wpAny_bind (wpAny_fieldsOf ho hd ?_)
 refine wbp ?_
 refine wpAny_bind (wpAny_dictEntries hod hdd ?_)
 refine wn ((by rw [hn];simp)) ?_
 refine wbp ?_
 refine wpAny_bind (wpAny_dictEpoch hod hdd ?_)
 refine wn ((by simp)) ?_
 refine wpAny_pure ?_
 simp only [if_false,Int.toNat_natCast,hx]
 refine wpAny_bind ?_
 refine wpAny_bind (wpAny_typeNameOfWhole_keyiter hit.typeIs (wpAny_pure ?_))
 refine wpAny_bind (wpAny_isOneOf_keyiter hit.typeIs ?_)
 show wpAny _ _ (setField (.ref it) 1 (rawInt ((i:Int)+1))>>=_) _ _ s
 refine wpAny_bind (wpAny_setField ho hd (by simp) ?_)
 have hit':(s.heap.update it (Obj.mapFields (·.setIfInBounds 1 (rawInt ((i:Int)+1))))).IsKeyIter it d (i+1) n ep :=
  ⟨_,Heap.get?_update_self _ ho (Obj.isFreed_of_fields (Obj.data_mapFields hd _)),(Obj.cls_mapFields ..).trans hc,by rw [Obj.data_mapFields hd];rfl⟩
 refine wpAny_bind (wpAny_holding ?_)
 refine wpAny_bind (wpAny_isOneOf_keyiter (s:={ s with heap:=s.heap.update it (Obj.mapFields (·.setIfInBounds 1 (rawInt ((i:Int)+1)))) }) hit'.typeIs ?_)
 exact wpAny_pure (wpAny_pure ⟨_,rfl,wpAny_pure (hQ _ hit' (Heap.SameBut.update ..))⟩)
theorem qA{it d:Addr}{i n ep:Nat}{od:Obj}{es:Array DictEntry}{Q:Option Value→Shared→Prop}(hh:A.handled=none)(hit:s.heap.IsKeyIter it d i n ep)(hod:s.heap.get? d=some od)(hdd:od.data=.dict es ep)(hn:es.size=n)(hx:es[i]?=none)
  (hQ:∀h',Heap.ExtBut it s.heap h'→Q none { s with heap:=h' }):wpAny (model prog w) A (pyNext (.ref it)) Q E s:=by
 refine br (id hit) fun o ho hc hd=>?_
 refine wpAny_bind (wpAny_attempt (wpAny_callSpecial?_slot (name:=Str.ofString "__next__") hit.typeIs F.slot_dict_keyiterator_next
  (wpAny_call_entry F.slot_dict_keyiterator_next hit.typeIs F.entry_dict_keyiterator_next ?_ (F.args_dict_keyiterator_next_1 _))))
 refine wbp ?_
 refine wpAny_bind ?_
 refine wpAny_bind ?_
 refine wpAny_bind (wpAny_typeNameOfWhole_keyiter hit.typeIs (wpAny_pure ?_))
 refine wpAny_bind (wpAny_fieldsOf ho hd ?_)
 refine wbp ?_
 refine wpAny_bind (wpAny_dictEntries hod hdd ?_)
 refine wn ((by rw [hn];simp)) ?_
 refine wbp ?_
 refine wpAny_bind (wpAny_dictEpoch hod hdd ?_)
 refine wn ((by simp)) ?_
 refine wpAny_pure ?_
 simp only [if_false,Int.toNat_natCast,hx]
 refine wpAny_bind ?_
 refine wpAny_bind (wpAny_typeNameOfWhole_keyiter hit.typeIs (wpAny_pure ?_))
 show wpAny _ _ (setField (.ref it) 0 .none>>=_) _ _ s
 refine wpAny_bind (wpAny_setField ho hd (by simp) ?_)
 refine wpAny_bind ?_
 refine wpAny_bind (m:=firstArgMember _ _) (wpAny_of_eq (a:=Value.none) (by first | rfl | (rfl;rfl)) ?_)
 refine wpAny_newObj_type ?_ (by size_fits)
 refine wpAny_bind (wpAny_handled ?_)
 refine (show A.in1.handled=none from hh).symm▸?_
 refine wbp (wpAny_throw ?_)
 refine wpAny_bind (wpAny_isInstance (T:="StopIteration") (b:=true) ⟨_,Heap.get?_push_size _ rfl,rfl⟩ isSubtype_stop ?_)
 exact wpAny_pure (hQ _ (((Heap.SameBut.update ..).extBut.push _).push _))
end
end Mine
end
section
namespace Mine.Fz
open PySem PySem.F
open scoped Classical
set_option maxRecDepth 100000
theorem gf:entryFor table "set_iterator.__iter__"=some Builtin.«dict_keyiterator.__iter__» :=
 entryFor_alias (id':="dict_keyiterator.__iter__") (by kernel_rfl) rfl (by decide +kernel) (by rfl)
theorem gO(a:Value):argsOk "set_iterator.__iter__" ⟨[a],[]⟩:=by
 delta argsOk;rw [signature?_of (id:="set_iterator.__iter__") (n:=['_','_','r','e','t','i','_','_']) (o:=['r','o','t','a','r','e','t','i','_','t','e','s']) (by rfl) fk];kernel_rfl
end Mine.Fz
namespace Mine
open PySem PyProof.Rows
open SetTable
theorem r5(a:Addr):setDrawn a=(do
  let (es,_,t) ←setState a
  let byText ←setsByText
  return !byText&&(!t.plain&&es.size>1)):=rfl
theorem mJ(a:Addr)(slot given epochThen:Nat):setNext a slot given epochThen=(do
  let (es,epoch,t) ←setState a
  if ←setsByText then
   if epoch !=epochThen then unsupported "set_iterator.__next__:elements-changed"
   return ((←setWalk a)[given]?).map fun e=>(e.2,slot)
  if (!t.plain&&es.size>1) then unsupported "set_iterator.__next__:the-table-is-plain-no-more"
  ((if (!t.led && !es.isEmpty)=true then unsupported "set:maker-not-led" else pure ()):Sem Unit)>>=fun _ =>
  let i:=SetTable.below t.place slot
  return match es[i]?,t.place[i]? with
   |some (_,x),some j=>some (x,j+1)
   |_,_=>none):=rfl
def dF(first:Value)(a:Addr)(i n ep:Nat)(o:Obj):Prop:=o.cls=.type "set_iterator"∧o.data=.fields #[first,.int i 0,.ref a,.int n 0,.int ep 0]
section
variable{prog:Program}{w:World}{A:Around}{E:Value→Shared→Prop}{s:Shared}
theorem iU{J:Addr}{o:Obj}{first:Value}{a:Addr}{i n ep:Nat}(ho:s.heap.get? J=some o)(h:dF first a i n ep o):s.TypeIs (.ref J) "set_iterator":=⟨o,ho,h.1⟩
theorem fP{J:Addr}{o:Obj}{first:Value}{a:Addr}{i n ep:Nat}{Q:Value→Shared→Prop}(ho:s.heap.get? J=some o)(h:dF first a i n ep o)(q:Q (.ref J) s):wpAny (model prog w) A (pyIter (.ref J)) Q E s:=by
 refine wpAny_pyIter_slot (iU ho h) Fz.cW (wpAny_call_entry Fz.cW (iU ho h) Fz.gf ?_ (Fz.gO _))
 exact wpAny_pure ⟨_,rfl,"set_iterator",_,(iU ho h),Fz.aX.lookup,q⟩
theorem ua{a:Addr}{o:Obj}{en:Array (Int×Value)}{ep:Nat}{t:SetTable}{Q:Value→Shared→Prop}(ho:s.heap.get? a=some o)(hex:o.ExactSet)(hd:o.data=.set en ep t)(hf:t.fits en.size=true)(hz:en.size≤1000)
  (q1:(w.params.followText "set-order"||(t.plain||decide (en.size≤1)))=true→Q (.ref s.heap.objs.size) { s with heap:=s.heap.push { cls:=.type "set_iterator",data:=.fields #[.int 0 0,.int 0 0,.ref a,.int en.size 0,.int ep 0] } })
  (q2:∀l d,List.Perm l (List.range en.size)→Q (.ref (s.heap.objs.size+1)) { s with drawn:=d,heap:=(s.heap.push { cls:=.type "tuple",data:=.seq (l.map fun (i:Nat)=>Value.int i 0).toArray }).push { cls:=.type "set_iterator",data:=.fields #[.ref s.heap.objs.size,.int 0 0,.ref a,.int en.size 0,.int ep 0] } }) :
  wpAny (model prog w) A (pyIter (.ref a)) Q E s:=by
 refine wpAny_pyIter_slot (⟨o,ho,hex.1⟩) F.slot_set_iter (wpAny_call_entry F.slot_set_iter (⟨o,ho,hex.1⟩) Fz.iz ?_ (F.args_set_iter_1 _))
 unfold Builtin.«frozenset.__iter__» Builtin.Frozenset.slot0 slotArgs
 simp only [List.isEmpty_nil,Bool.not_true,Bool.false_eq_true,↓reduceIte,bind_assoc,List.length_nil,bne_self_eq_false]
 refine wbp ?_
 refine wbp ?_
 refine wpAny_bind (wpAny_bind (wpAny_setEntries_of ho hd hf (wpAny_pure ?_)))
 rw [r5]
 refine wpAny_bind (wpAny_bind (wpAny_setState_of ho hd hf (wpAny_bind (bT (wpAny_pure ?_)))))
 cases hb:(!(w.params.followText "set-order")&&(!t.plain&&decide (en.size>1))) with
 |false =>
  refine wbp ?_
  refine wpAny_bind (wpAny_bind (wpAny_setState_of ho hd hf (wpAny_pure ?_)))
  refine wpAny_bind (wpAny_newObj_type (wpAny_pure ⟨_,rfl,"set_iterator",_,⟨_,Heap.get?_push_size _ rfl,rfl⟩,Fz.aX.lookup,?_⟩))
  have h1:(w.params.followText "set-order"||(t.plain||decide (en.size≤1)))=true:=by
   cases hx:w.params.followText "set-order"<;>cases hy:t.plain<;>simp [hx,hy] at hb ⊢
   omega
  exact q1 h1
 |true =>
  refine wpAny_bind (jB en.size (List.range en.size) ((List.length_range)▸Nat.le_refl _) fun l d hp=>?_)
  have hlen:=hp.length_eq
  refine wpAny_bind (wpAny_newTuple ?_ (by simp at hlen ⊢;delta sizeLine;exact N.b4 hlen (Nat.le_trans hz (of_decide_eq_true rfl))))
  have ho2:(s.heap.push { cls:=.type "tuple",data:=.seq (l.map fun (i:Nat)=>rawInt i).toArray }).get? a=some o:=Heap.get?_push_of_some _ ho
  refine wpAny_bind (wpAny_bind (wpAny_setState_of ho2 hd hf (wpAny_pure ?_)))
  refine wpAny_bind (wpAny_newObj_type (wpAny_pure ⟨_,rfl,"set_iterator",_,⟨_,Heap.get?_push_size _ rfl,rfl⟩,Fz.aX.lookup,?_⟩))
  have:=q2 l d hp
  simpa [rawInt] using this
noncomputable def lE(first:Value)(J a:Addr)(i ep:Int):Sem Fin:=match first with
 |.int slot _=>do
  match ←setNext a slot.toNat i.toNat ep.toNat with
  |some (x,next)=>do
   setField (.ref J) 0 (rawInt next)
   setField (.ref J) 1 (rawInt (i+1))
   ret x
  |none=>do
   setField (.ref J) 2 .none
   raiseNew (←newExc (.type "StopIteration") [])
 |_=>do
  let some places ←seqItems? first | unsupported "internal:set_iterator"
  match places[i.toNat]? with
  |some (.int place _) =>
   let x ←setNextDrawn a place.toNat ep.toNat
   setField (.ref J) 1 (rawInt (i+1))
   ret x
  |some _=>unsupported "internal:set_iterator"
  |none=>setField (.ref J) 0 (rawInt 0);setField (.ref J) 2 .none;raiseNew (←newExc (.type "StopIteration") [])
noncomputable def yH(M:Model)(A:Around)(Q:Option Value→Shared→Prop)(E:Value→Shared→Prop):Fin→Shared→Prop:=fun fin s'=>∃v,fin=.done (.ret v)∧wpAny M A (pure (some v)) Q E s'
noncomputable def CQ(M:Model)(A:Around)(Q:Option Value→Shared→Prop)(E:Value→Shared→Prop):Value→Shared→Prop:=fun e s'=>wpAny M A (do if ←isInstance e (.type "StopIteration") then pure none else throw e) Q E s'
theorem gR{J a:Addr}{o:Obj}{first:Value}{i n ep:Nat}{od:Obj}{en:Array (Int×Value)}{t:SetTable}{Q:Option Value→Shared→Prop}(ho:s.heap.get? J=some o)(h:dF first a i n ep o)
  (hod:s.heap.get? a=some od) (hd:od.data=.set en ep t) (hf:t.fits en.size=true) (hn:en.size=n)
  (q:wpAny (model prog w) A.in1 (lE first J a i ep) (yH (model prog w) A Q E) (CQ (model prog w) A Q E) s) :
  wpAny (model prog w) A (pyNext (.ref J)) Q E s:=by
 refine wpAny_bind (wpAny_attempt (wpAny_callSpecial?_slot (name:=Str.ofString "__next__") (iU ho h) Fz.aX
  (wpAny_call_entry Fz.aX (iU ho h) Fz.gc ?_ (Fz.gM _))))
 refine wbp ?_
 refine wpAny_bind (wpAny_fieldsOf ho h.2 ?_)
 refine wpAny_bind (wpAny_setEntries_of hod hd hf ?_)
 refine wn ((by rw [hn];simp)) ?_
 cases first<;>exact q
theorem pO{J:Addr}{Q:Option Value→Shared→Prop}{h0:Heap}(hh:A.handled=none)(hsb:Heap.ExtBut J h0 s.heap)(hQ:∀h',Heap.ExtBut J h0 h'→Q none { s with heap:=h' }) :
  wpAny (model prog w) A.in1 (do raiseNew (←newExc (.type "StopIteration") [])) (yH (model prog w) A Q E) (CQ (model prog w) A Q E) s:=by
 refine wpAny_bind ?_
 refine wpAny_bind (m:=firstArgMember _ _) (wpAny_of_eq (a:=Value.none) (by first | rfl | (rfl;rfl)) ?_)
 refine wpAny_newObj_type ?_ (by size_fits)
 refine wpAny_bind (wpAny_handled ?_)
 refine (show A.in1.handled=none from hh)▸?_
 refine wbp (wpAny_throw ?_)
 refine wpAny_bind (wpAny_isInstance (T:="StopIteration") (b:=true) ⟨_,Heap.get?_push_size _ rfl,rfl⟩ isSubtype_stop ?_)
 exact wpAny_pure (hQ _ ((hsb.push _).push _))
end
end Mine
end
section
namespace Mine
open PySem PyProof.Rows
open scoped Classical
open SetTable
section
variable{prog:Program}{w:World}{A:Around}{E:Value→Shared→Prop}{s:Shared}{J a:Addr}{o od:Obj}{first:Value}{i n ep:Nat}{en:Array (Int×Value)}{t:SetTable}
theorem gr(ho:s.heap.get? J=some o){x:Value}{k:Nat}{vs:Array Value}(hd:o.data=.fields vs):(s.heap.update J (Obj.mapFields (·.setIfInBounds k x))).get? J=some (Obj.mapFields (·.setIfInBounds k x) o) :=
 Heap.get?_update_self _ ho (Obj.isFreed_of_fields (Obj.data_mapFields hd _))
theorem nv{T:Addr}{oT:Obj}{items:Array Value}{nT p:Nat}{tk:Tok}{e:Int×Value}{Q:Option Value→Shared→Prop}(ho:s.heap.get? J=some o)(h:dF (.ref T) a i n ep o)
  (hod:s.heap.get? a=some od) (hd:od.data=.set en ep t) (hf:t.fits en.size=true) (hn:en.size=n) (hT:s.heap.get? T=some oT) (hTd:oT.data=.seq items nT) (hi:items[i]?=some (.int p tk)) (he:en[p]?=some e)
  (q:∀h' o',h'.get? J=some o'→dF (.ref T) a (i+1) n ep o'→Heap.SameBut J s.heap h'→Q (some e.2) { s with heap:=h' }):wpAny (model prog w) A (pyNext (.ref J)) Q E s:=by
 refine gR ho h hod hd hf hn ?_
 refine wpAny_bind (wpAny_seqItems hT hTd ?_)
 simp only [Int.toNat_natCast,hi]
 refine wpAny_bind (wpAny_bind (wpAny_setState_of hod hd hf ?_))
 simp only [bne_self_eq_false,if_false,he]
 refine wpAny_pure ?_
 refine wpAny_bind (wpAny_setField ho h.2 (by simp) ?_)
 refine wpAny_pure ⟨_,rfl,wpAny_pure (q _ _ (gr ho h.2) ⟨(Obj.cls_mapFields ..).trans h.1,?_⟩ (Heap.SameBut.update ..))⟩
 rw [Obj.data_mapFields h.2];rfl
theorem qt{T:Addr}{oT:Obj}{items:Array Value}{nT:Nat}{Q:Option Value→Shared→Prop}(hh:A.handled=none)(ho:s.heap.get? J=some o)(h:dF (.ref T) a i n ep o)
  (hod:s.heap.get? a=some od) (hd:od.data=.set en ep t) (hf:t.fits en.size=true) (hn:en.size=n) (hT:s.heap.get? T=some oT) (hTd:oT.data=.seq items nT) (hi:items[i]?=none)
  (hQ:∀h',Heap.ExtBut J s.heap h'→Q none { s with heap:=h' }):wpAny (model prog w) A (pyNext (.ref J)) Q E s:=by
 refine gR ho h hod hd hf hn ?_
 refine wpAny_bind (wpAny_seqItems hT hTd ?_)
 simp only [Int.toNat_natCast,hi]
 refine wpAny_bind (wpAny_setField ho h.2 (by simp) ?_)
 refine wpAny_bind (wpAny_setField (gr ho h.2) (show (Obj.mapFields (·.setIfInBounds 0 (rawInt 0)) o).data=.fields #[rawInt 0,.int i 0,.ref a,.int n 0,.int ep 0] from by rw [Obj.data_mapFields h.2];rfl) (by simp) ?_)
 exact pO hh (((Heap.SameBut.update ..).trans (Heap.SameBut.update ..)).extBut) hQ
theorem qq{slot j:Nat}{e:Int×Value}{Q:Option Value→Shared→Prop}(ho:s.heap.get? J=some o)(h:dF (.int slot 0) a i n ep o)
  (hod:s.heap.get? a=some od) (hd:od.data=.set en ep t) (hf:t.fits en.size=true) (hn:en.size=n) (hb:w.params.followText "set-order"=false) (hp:(!t.plain&&decide (en.size>1))=false) (hl:t.led=true)
  (hbe:below t.place slot=i) (hj:t.place[i]?=some j) (he:en[i]?=some e)
  (q:∀h' o',h'.get? J=some o'→dF (.int ((j+1:Nat):Int) 0) a (i+1) n ep o'→Heap.SameBut J s.heap h'→Q (some e.2) { s with heap:=h' }):wpAny (model prog w) A (pyNext (.ref J)) Q E s:=by
 refine gR ho h hod hd hf hn ?_
 dsimp only [lE]
 simp only [Int.toNat_natCast]
 rw [mJ]
 refine wpAny_bind (wpAny_bind (wpAny_setState_of hod hd hf (wpAny_bind (bT ?_))))
 refine (hb)▸?_
 refine (hp).symm▸?_
 refine (hl).symm▸?_
 refine wbp (wpAny_pure ?_)
 simp only [hbe,hj,he]
 refine wpAny_bind (wpAny_setField ho h.2 (by simp) ?_)
 refine wpAny_bind (wpAny_setField (gr ho h.2) (show (Obj.mapFields (·.setIfInBounds 0 (rawInt ((j+1:Nat):Int))) o).data=.fields #[rawInt ((j+1:Nat):Int),.int i 0,.ref a,.int n 0,.int ep 0] from by rw [Obj.data_mapFields h.2];rfl) (by simp) ?_)
 refine wpAny_pure ⟨_,rfl,wpAny_pure (q _ _ (gr (s:={ s with heap:=s.heap.update J (Obj.mapFields (·.setIfInBounds 0 (rawInt ((j+1:Nat):Int)))) }) (gr ho h.2) (show (Obj.mapFields (·.setIfInBounds 0 (rawInt ((j+1:Nat):Int))) o).data=.fields #[rawInt ((j+1:Nat):Int),.int i 0,.ref a,.int n 0,.int ep 0] from by rw [Obj.data_mapFields h.2];rfl)) ⟨(Obj.cls_mapFields ..).trans ((Obj.cls_mapFields ..).trans h.1),?_⟩ ((Heap.SameBut.update ..).trans (Heap.SameBut.update ..)))⟩
 rw [Obj.data_mapFields (show (Obj.mapFields (·.setIfInBounds 0 (rawInt ((j+1:Nat):Int))) o).data=.fields #[rawInt ((j+1:Nat):Int),.int i 0,.ref a,.int n 0,.int ep 0] from by rw [Obj.data_mapFields h.2];rfl)];rfl
theorem rZ{slot:Nat}{Q:Option Value→Shared→Prop}(hh:A.handled=none)(ho:s.heap.get? J=some o)(h:dF (.int slot 0) a i n ep o)
  (hod:s.heap.get? a=some od) (hd:od.data=.set en ep t) (hf:t.fits en.size=true) (hn:en.size=n) (hb:w.params.followText "set-order"=false) (hp:(!t.plain&&decide (en.size>1))=false) (hl:t.led=true)
  (hbe:en.size≤below t.place slot)
  (hQ:∀h',Heap.ExtBut J s.heap h'→Q none { s with heap:=h' }):wpAny (model prog w) A (pyNext (.ref J)) Q E s:=by
 refine gR ho h hod hd hf hn ?_
 dsimp only [lE]
 simp only [Int.toNat_natCast]
 rw [mJ]
 refine wpAny_bind (wpAny_bind (wpAny_setState_of hod hd hf (wpAny_bind (bT ?_))))
 refine (hb)▸?_
 refine (hp).symm▸?_
 refine (hl).symm▸?_
 refine wbp (wpAny_pure ?_)
 refine (Array.getElem?_eq_none hbe)▸?_
 refine wpAny_bind (wpAny_setField ho h.2 (by simp) ?_)
 exact pO hh (Heap.SameBut.update ..).extBut hQ
theorem qp{slot:Nat}{e:Int×Value}{Q:Option Value→Shared→Prop}(ho:s.heap.get? J=some o)(h:dF (.int slot 0) a i n ep o)
  (hod:s.heap.get? a=some od) (hd:od.data=.set en ep t) (hf:t.fits en.size=true) (hn:en.size=n) (hb:w.params.followText "set-order"=true)
  (he:(pickOrder (w.params.setOrder a ep) en)[i]?=some e)
  (q:∀h' o',h'.get? J=some o'→dF (.int slot 0) a (i+1) n ep o'→Heap.SameBut J s.heap h'→Q (some e.2) { s with heap:=h' }):wpAny (model prog w) A (pyNext (.ref J)) Q E s:=by
 refine gR ho h hod hd hf hn ?_
 dsimp only [lE]
 simp only [Int.toNat_natCast]
 refine wpAny_bind (wpAny_bind (wpAny_setState_of hod hd hf (wpAny_bind (bT ?_))))
 refine (hb).symm▸?_
 simp only [if_true,bne_self_eq_false,if_false]
 refine wpAny_bind (wpAny_bind (wpAny_setState_of hod hd hf (wpAny_bind (bT ?_))))
 refine (hb).symm▸?_
 refine wpAny_bind (wpAny_askSetting (wpAny_pure (wpAny_pure ?_)))
 refine (he)▸?_
 refine wpAny_bind (wpAny_setField ho h.2 (by simp) ?_)
 refine wpAny_bind (wpAny_setField (gr ho h.2) (show (Obj.mapFields (·.setIfInBounds 0 (rawInt (slot:Int))) o).data=.fields #[rawInt (slot:Int),.int i 0,.ref a,.int n 0,.int ep 0] from by rw [Obj.data_mapFields h.2];rfl) (by simp) ?_)
 refine wpAny_pure ⟨_,rfl,wpAny_pure (q _ _ (gr (s:={ s with heap:=s.heap.update J (Obj.mapFields (·.setIfInBounds 0 (rawInt (slot:Int)))) }) (gr ho h.2) (show (Obj.mapFields (·.setIfInBounds 0 (rawInt (slot:Int))) o).data=.fields #[rawInt (slot:Int),.int i 0,.ref a,.int n 0,.int ep 0] from by rw [Obj.data_mapFields h.2];rfl)) ⟨(Obj.cls_mapFields ..).trans ((Obj.cls_mapFields ..).trans h.1),?_⟩ ((Heap.SameBut.update ..).trans (Heap.SameBut.update ..)))⟩
 rw [Obj.data_mapFields (show (Obj.mapFields (·.setIfInBounds 0 (rawInt (slot:Int))) o).data=.fields #[rawInt (slot:Int),.int i 0,.ref a,.int n 0,.int ep 0] from by rw [Obj.data_mapFields h.2];rfl)];rfl
theorem rY{slot:Nat}{Q:Option Value→Shared→Prop}(hh:A.handled=none)(ho:s.heap.get? J=some o)(h:dF (.int slot 0) a i n ep o)
  (hod:s.heap.get? a=some od) (hd:od.data=.set en ep t) (hf:t.fits en.size=true) (hn:en.size=n) (hb:w.params.followText "set-order"=true)
  (he:(pickOrder (w.params.setOrder a ep) en)[i]?=none)
  (hQ:∀h',Heap.ExtBut J s.heap h'→Q none { s with heap:=h' }):wpAny (model prog w) A (pyNext (.ref J)) Q E s:=by
 refine gR ho h hod hd hf hn ?_
 dsimp only [lE]
 simp only [Int.toNat_natCast]
 refine wpAny_bind (wpAny_bind (wpAny_setState_of hod hd hf (wpAny_bind (bT ?_))))
 refine (hb).symm▸?_
 simp only [if_true,bne_self_eq_false,if_false]
 refine wpAny_bind (wpAny_bind (wpAny_setState_of hod hd hf (wpAny_bind (bT ?_))))
 refine (hb).symm▸?_
 refine wpAny_bind (wpAny_askSetting (wpAny_pure (wpAny_pure ?_)))
 refine (he)▸?_
 refine wpAny_bind (wpAny_setField ho h.2 (by simp) ?_)
 exact pO hh (Heap.SameBut.update ..).extBut hQ
end
end Mine
end
section
namespace Mine
open PySem PyProof.Rows PySem.W
open scoped Classical
section
variable{B:Base}{γ:Array GenState}{φ ι:Obs}{H:Hp}{s:Shared}{prog:Program}{A:Around}
inductive PB(B:Base)(γ:Array GenState)(φ ι:Obs)(Q:Bool→Hp→Prop)(b:Bool)(s:Shared):Prop
 |mk (ι':Obs) (H':Hp) (l:Le ι ι') (I:Inv B γ φ ι' H' s) (q:Q b H')
theorem PB.here(I:Inv B γ φ ι H s){Q:Bool→Hp→Prop}{b:Bool}(q:Q b H):PB B γ φ ι Q b s:=⟨ι,H,.refl _,I,q⟩
theorem PB.toks(I:Inv B γ φ ι H s){Q:Bool→Hp→Prop}{b:Bool}{k:Nat}(q:Q b H):PB B γ φ ι Q b { s with toks:=k }:=⟨ι,H,.refl _,I.same rfl rfl rfl,q⟩
theorem PB.mono{ι₀:Obs}{Q Q':Bool→Hp→Prop}(h:Le ι₀ ι)(hq:∀x H,Q x H→Q' x H){b:Bool}(x:PB B γ φ ι Q b s):PB B γ φ ι₀ Q' b s :=
 match x with | .mk ι' H' a b c=>⟨ι',H',h.trans a,b,hq _ _ c⟩
structure vJ(K:Frag):Prop where
 nb:findIn K (.ref aD) "__bool__"=some none
 nl:findIn K (.ref aD) "__len__"=some none
theorem emp{α:Type}(a:Array α)(l:List V)(h:a.toList.length=l.length):(!a.isEmpty)=(!l.isEmpty):=by
 cases l with
 |nil=>simp at h;simp [h]
 |cons x xs =>
  have:a.isEmpty=false:=by
   rw [Array.isEmpty_eq_false_iff];intro e;subst e;injection h
  simp [this]
theorem EL(i:Int):(i !=0)=decide (i≠0):=by
 by_cases h:i=0
 ·subst h;rfl
 ·exact (bne_iff_ne.mpr h).trans (decide_eq_true h).symm
theorem z0(N:vJ B.aZ)(I:Inv B γ φ ι H s){a:V}{va:Value}{b:Bool}{Q:Bool→Hp→Prop}(ra:Rep ι va a)(h:truth H a=some b)(q:Q b H) :
  wpAny (model prog B.w) A (truthy va) (PB B γ φ ι Q) aA s:=by
 have le:∀{l:List V} {c:Bool},(if l.length≤big then some (!l.isEmpty) else none)=some c→l.length≤big∧(!l.isEmpty)=c:=fun {l c} h=>if hz:l.length≤big then ⟨hz,Option.some.inj ((if_pos hz).symm.trans h)⟩ else nomatch (if_neg hz).symm.trans h
 have sz:∀{items:Array Value} {l:List V},items.toList.length=l.length→l.length≤big→((items.size:Nat):Int)<2^63:=fun e h=>Int.lt_of_le_of_lt (Int.ofNat_le.mpr (Nat.le_trans (Nat.le_of_eq e) h)) (of_decide_eq_true rfl)
 cases a with
 |none=>exact (show va=.none from ra)▸truthy_none (.here I (Option.some.inj h▸q))
 |bool c=>exact (show va=.bool c from ra)▸wpAny_truthy_bool (.here I (Option.some.inj h▸q))
 |int i=>exact aL ra fun t e=>e▸P.truthy_int ((show (i !=0)=b from (EL i).trans (Option.some.inj h))▸.here I q)
 |tup l=>exact bP (bJ ra) fun a n items e h1 h2=>e▸truthy_tuple ⟨_,I.data _ _ h1,rfl,_,rfl⟩ (sz h2.length (le h).1) (((emp _ _ h2.length).trans (le h).2)▸.toks I q)
 |lst l=>exact bP (isList I ra rfl) fun a n items e h1 h2=>e▸wpAny_truthy_list ⟨_,h1,rfl,_,rfl⟩ (sz h2.length (le h).1) (((emp _ _ h2.length).trans (le h).2)▸.toks I q)
 |nt l =>
  cases Option.some.inj h
  refine ez ra fun m t S _=>bP S fun a dx od e h1 _=>?_
  subst e
  have hT:Looks (model prog B.w) s.heap (typeOf (.ref a)) (.ref aD):=(Looks.ld (I.data _ _ h1)).andThen .now
  refine wpAny_bind (wpAny_bind (wpAny_bind (hT.here ((looks_findIn I.inK N.nb).here (wpAny_pure ?_)))))
  exact wpAny_bind (wpAny_bind (hT.here ((looks_findIn I.inK N.nl).here (wpAny_pure (.here I q)))))
 |ref a =>
  delta truth at h
  dsimp only at h
  cases e:H a with
  |none=>rw [e] at h;injection h
  |some y =>
   rw [e] at h
   cases y with
   |list l=>exact (show va=.ref a from ra)▸I.listAt e fun items n ho h2=>wpAny_truthy_list ⟨_,ho,rfl,_,rfl⟩ (sz h2.length (le h).1) (((emp _ _ h2.length).trans (le h).2)▸.toks I q)
   |_=>injection h
 |_=>injection h
end
end Mine
end
section
namespace Mine
open PySem PyProof.Rows PySem.W
open scoped Classical
noncomputable def qU:COp→CmpOp
 |.eq=>.Eq
 |.ne=>.NotEq
 |.lt=>.Lt
 |.le=>.LtE
 |.gt=>.Gt
 |.ge=>.GtE
 |.in_=>.In
 |.notin=>.NotIn
noncomputable def iD(sc:Scope)(x:String):Bool:=match sc.names.lookup (sx x) with
 |some .local=>true
 |some .cell=>true
 |some .free=>true
 |_=>false
noncomputable def iA(sc:Scope)(x:String):Bool:=iD sc x&&x !="__debug__"&&x !="__classdict__"
noncomputable def aU(sc:Scope)(x:String):Bool:=sc.names.lookup (sx x)==some .globalImplicit
noncomputable def bK(sc:Scope)(x:String):Bool:=sc.names.lookup (sx x)==some .local
noncomputable def gu(sc:Scope):Bool:=sc.names.lookup (sx "<gen>") !=some .globalExplicit
noncomputable def nK(gs:Scope):Scope:={ gs with names:=gs.names++[(sx "<gen>",.globalExplicit)] }
noncomputable def notStar(x:Expr):Bool:=x.ctorIdx !=22
noncomputable def isSlice(x:Expr):Bool:=x.ctorIdx==26
noncomputable def cZ(x:Expr):Bool:=if h:x.ctorIdx=16 then Expr.Call.elim (motive_1:=fun _=>Bool) x h fun f xs _ _=>f.ctorIdx !=23 || !xs.isEmpty else true
noncomputable def bM(n:Nat)(apos pos:Pos):Bool:=apos.endLine==pos.line&&decide (n<20)
noncomputable def classes:List Addr:=[aD,bg,gg]
noncomputable def dM:List (Addr×String):=[(aD,"Nonterminal"),(bg,"Production"),(gg,"CFG")]
noncomputable def cK:List String:=["symbol","lhs","rhs","is_lexical","_calculate_indexes","_calculate_grammar_forms","_calculate_leftcorners","productions","start","is_chomsky_normal_form","is_flexible_chomsky_normal_form",
 "is_nonempty","is_nonlexical","is_binarised","chomsky_normal_form"]
noncomputable def dj:List (String×Addr):=[("remove_unitary_rules",298),("binarize",309),("eliminate_start",317),("remove_mixed_rules",328)]
noncomputable def dS:List (String×Value):=[("_law_tape",.ref 348),("_law_take",.ref 355),("_law_over",.ref 360),("_law_reach",.ref 365),("_law_own",.ref 370),("_law_grammar",.ref 375),("_law_rows",.ref 380),("_law_kind",.ref 385),("is_nonterminal",.ref 77),("is_terminal",.ref 84),("_key",.ref 91),("transitive_closure",.ref 343),
 ("Nonterminal",.ref aD),("Production",.ref bg),("CFG",.ref gg)]
noncomputable def nk:List (String×Value):=[("len",.builtin "len"),("abs",.builtin "abs"),("all",.builtin "all"),("min",.builtin "min"),("max",.builtin "max"),("sorted",.builtin "sorted"),("isinstance",.builtin "isinstance"),
 ("int",.type "int"),("range",.type "range"),("tuple",.type "tuple"),("list",.type "list"),("set",.type "set"),("str",.type "str"),("ValueError",.type "ValueError")]
noncomputable def yq:List (String×Addr):=[("Nonterminal",35),("Production",105),("CFG",174)]
noncomputable def cM:List (Addr×String):=jc.map fun p=>(aM p.1,p.2)
theorem jb{c n:String}(h:cR c n=true):(aM c,n)∈cM:=List.mem_map_of_mem (f:=fun p=>(aM p.1,p.2)) (List.contains_iff_mem.mp h)
theorem A5{n:String}(h:gW n=true):cR "CFG" n=true:=List.contains_iff_mem.mpr (.tail _ (.tail _ (.tail _ (List.mem_map_of_mem (f:=fun n=>("CFG",n)) (List.contains_iff_mem.mp h)))))
theorem A6{c n:String}(h:cR c n=true):anyAttr n=true:=List.contains_iff_mem.mpr (List.mem_map_of_mem (f:=Prod.snd) (List.contains_iff_mem.mp h))
theorem aQ{α β:Type}{f g:α→β}{l:List α}(h:l.map f=l.map g){x:α}(hx:x∈l):f x=g x:=List.map_inj_left.mp h x hx
theorem jN{α:Type}{p:α→Bool}{l:List α}(h:l.all p=true){x:α}(hx:x∈l):p x=true:=List.all_eq_true.mp h x hx
theorem lookup_mem{α β:Type}[BEq α][LawfulBEq α]{l:List (α×β)}{a:α}{b:β}(h:l.lookup a=some b):(a,b)∈l:=by
 induction l with
 |nil=>injection h
 |cons p l ih =>
  rw [List.lookup_cons] at h
  split at h
  ·rename_i e;cases h;exact (eq_of_beq e)▸List.mem_cons_self
  ·exact List.mem_cons_of_mem _ (ih h)
structure Facts(K:Frag):Prop where
 nt:vJ K
 gl:(dS.map fun p=>nsIn K mainGlobals (sx p.1))=dS.map fun p=>some (some p.2)
 bl:(nk.map fun p=>(nsIn K mainGlobals (sx p.1),nsIn K builtinsNs (sx p.1)))=nk.map fun p=>(some none,some (some p.2))
 ga:(classes.map fun C=>findIn K (.ref C) "__getattribute__")=classes.map fun _=>some (some (.builtin "object.__getattribute__"))
 gh:(classes.map fun C=>findIn K (.ref C) "__getattr__")=classes.map fun _=>some none
 sa:(classes.map fun C=>findIn K (.ref C) "__setattr__")=classes.map fun _=>some (some (.builtin "object.__setattr__"))
 hd:(classes.map fun C=>(clsIn K C).map (·.hasDict))=classes.map fun _=>some true
 po:(classes.map fun C=>plainOver K C)=classes.map fun _=>true
 mks:(classes.map fun C=>makesIn K C)=classes.map fun _=>true
 keepC:(classes.map fun C=>keepIn K (.ref C))=classes.map fun _=>true
 na:(cM.map fun p=>findIn K (.ref p.1) (sx p.2))=cM.map fun _=>some none
 tk:(cM.map fun p=>takerIn K p.1 (sx p.2))=cM.map fun _=>some none
 keep:(fns.map fun p=>keepIn K (.ref p.2))=fns.map fun _=>true
 meth:(dM.map fun p=>cK.map fun m=>(bE (p.2++"."++m)).map fun fa=>(findIn K (.ref p.1) (sx m),typeIn K (.ref fa)))=dM.map fun p=>cK.map fun m=>(bE (p.2++"."++m)).map fun fa=>(some (some (.ref fa)),some (.type "function"))
 ty:typeIn K (.ref gg)=some (.type "type")
 rd:readsIn K gg (.type "type")=true
 sga:specialIn K (.ref gg) "__getattribute__"=some (some (.builtin "type.__getattribute__"))
 cm:(dj.map fun p=>(findCls K (.ref gg) (.type "type") (sx p.1),(recIn K p.2 "classmethod").map (·.head?)))=dj.map fun p=>(some (.get (.builtin "classmethod.__get__") (.ref p.2) .none (.ref gg)),some ((bE ("CFG"++"."++p.1)).map .ref))
 nn:isIn K (.ref aD) aD=true
 sn:isNotIn K "str" aD=true
 ns:kin_notT K aD "str"=true
 pg:plainGet K aD "__class__"=true
 dc:hasDictIn K aD=true
 ac:findIn K (.ref aD) "__class__"=some (some (.builtin "object.__class__"))
 nc:specialIn K (.builtin "object.__class__") "__get__"=some (some (.builtin "getset_descriptor.__get__"))
 tc:takesIn K (.builtin "object.__class__")=some true
 mc:mroIn K aD (.type "object")=some true
 len:findIn K (.ref bg) "__len__"=some (some (.ref 126))
 tyl:typeIn K (.ref 126)=some (.type "function")
 ini:(yq.map fun p=>(findIn K (.ref (aM p.1)) "__init__",typeIn K (.ref p.2)))=yq.map fun p=>(some (some (.ref p.2)),some (.type "function"))
 bm:∃bm o,nsIn K mainGlobals (sx "__builtins__")=some (some (.ref bm))∧bm≠builtinsNs∧K.lookup bm=some o∧o.cls=.type "module"∧o.dict=some builtinsNs∧o.data=.plain
inductive lq(ι φ:Obs)(env:PySem.Env)(x:String)(y:V):Prop
 |loc (v:Value) (r:Rep ι v y) (k:env.kindOf (sx x)=some .local) (o:Obj) (m:Str→Option Value) (h:φ env.locals=some o) (n:NsO o m) (e:m (sx x)=some v)
 |cel (v:Value) (r:Rep ι v y) (k:env.kindOf (sx x)=some .cell∨env.kindOf (sx x)=some .free) (c:Addr) (o:Obj) (e:env.cells.lookup (sx x)=some c) (h:φ c=some o) (d:o.data=.cell (some v))
structure cU(B:Base)(ι φ:Obs)(sc:Scope)(env:PySem.Env)(ρ:Env):Prop where
 names:∀x,iD sc x=true→(env.kindOf (sx x)=sc.names.lookup (sx x)∨(sc.names.lookup (sx x)=some .free∧env.kindOf (sx x)=some .cell))
 dS:∀x,sc.names.lookup x=some .globalImplicit→env.kindOf x=some .globalImplicit
 kind:env.scope.kind=.function
 g:env.globals=mainGlobals
 b:env.builtins=builtinsNs
 code:gu sc=true→∃c P ps,env.code=.ref c∧(c,P,ps)∈B.tabs
 vars:∀x y,ρ x=some y→lq ι φ env x y
theorem lq.mono{ι ι' φ:Obs}(h:Le ι ι'){env x y}(v:lq ι φ env x y):lq ι' φ env x y:=match v with
 |.loc v r k o m a n e=>.loc v (r.mono h) k o m a n e
 |.cel v r k c o e a d=>.cel v (r.mono h) k c o e a d
theorem cU.mono{B:Base}{ι ι' φ:Obs}(h:Le ι ι'){sc env ρ}(e:cU B ι φ sc env ρ):cU B ι' φ sc env ρ:={ e with vars:=fun x y q=>(e.vars x y q).mono h }
def RP(B:Base)(γ:Array GenState)(φ ι:Obs)(Q:PV)(r:Result)(s:Shared):Prop:=match r with
 |.ok (.ret v)=>PE B γ φ ι Q v s
 |_=>False
def gZ(B:Base)(prog:Program)(F:Fn)(k:Nat):Prop :=
 ∀(A:Around) (γ:Array GenState) (φ ι:Obs) (H:Hp) (s:Shared) (f:String) (fa:Addr) (vs:List V) (kn:List String) (ks:List V) (vals kvals:List Value) (Q:PV),
  bx A k→bE f=some fa→Inv B γ φ ι H s→az ι vals vs→az ι kvals ks→kn.length=ks.length→aH F f vs kn ks H (okW Q) →
  codeAny (model prog B.w) A (.call (.ref fa) ⟨vals,(kn.map sx).zip kvals⟩) (RP B γ φ ι Q) s
structure Kx where
 B:Base
 prog:Program
 F:Fn
 k:Nat
 D:Facts B.aZ
 C:gZ B prog F k
 d:Nat
 sc:Scope
noncomputable abbrev Kx.M(K:Kx):Model:=model K.prog K.B.w
structure Cx(K:Kx) where
 A:Around
 γ:Array GenState
 env:PySem.Env
 room:bx A (K.d+4+K.k)
structure Cx.Ok{K:Kx}(X:Cx K)(φ:Obs)(ρ:Env)(ι:Obs)(H:Hp)(s:Shared):Prop where
 I:Inv K.B X.γ φ ι H s
 Ev:cU K.B ι φ K.sc X.env ρ
section
variable{K:Kx}{X:Cx K}{φ ι ι':Obs}{ρ:Env}{H H':Hp}{s s':Shared}
theorem bx.le'{A:Around}{k j:Nat}(r:bx A k)(h:j≤k):bx A j:=r.le h
theorem Cx.rk(X:Cx K):bx X.A K.k:=X.room.le (Nat.le_add_left ..)
theorem Cx.r4(X:Cx K):bx X.A (K.k+4):=X.room.le (by rw [Nat.add_comm];exact Nat.add_le_add_right (Nat.le_add_left ..) _)
theorem Cx.r0(X:Cx K):bx X.A 0:=X.room.le (Nat.zero_le _)
theorem Cx.Ok.step(O:X.Ok φ ρ ι H s)(l:Le ι ι')(I:Inv K.B X.γ φ ι' H' s'):X.Ok φ ρ ι' H' s':=⟨I,O.Ev.mono l⟩
def SE(K:Kx)(e:ME)(x:Expr):Prop:=∀(X:Cx K) (φ:Obs) (ρ:Env) (ι:Obs) (H:Hp) (s:Shared) (Q:PV),X.Ok φ ρ ι H s→wpE K.F e ρ H Q→wpAny K.M X.A (eval x X.env) (PE K.B X.γ φ ι Q) aA s
theorem SE.run{e:ME}{x:Expr}(h:SE K e x){Q:PV}{P:Value→Shared→Prop}{E:Value→Shared→Prop}(O:X.Ok φ ρ ι H s)(w:wpE K.F e ρ H Q)
  (k:∀v s' ι' H' y,Le ι ι'→X.Ok φ ρ ι' H' s'→Rep ι' v y→Q y H'→P v s'):wpAny K.M X.A (eval x X.env) P E s :=
 wpAny_mono (h X φ ρ ι H s Q O w) (fun v s' g=>match g with | .mk ι' H' y l I r q=>k v s' ι' H' y l (O.step l I) r q) fun _ _ e=>e.elim
def ST(K:Kx)(e:ME)(x:Expr):Prop:=∀(X:Cx K) (φ:Obs) (ρ:Env) (ι:Obs) (H:Hp) (s:Shared) (Q:Bool→Hp→Prop) (Q':PV),X.Ok φ ρ ι H s→wpE K.F e ρ H Q'→(∀v H',Q' v H'→onS (truth H' v) fun b=>Q b H') →
  wpAny K.M X.A (isTrue x X.env (eval x X.env)) (PB K.B X.γ φ ι Q) aA s
theorem ST.run{e:ME}{x:Expr}(h:ST K e x){Q:Bool→Hp→Prop}{Q':PV}{P:Bool→Shared→Prop}{E:Value→Shared→Prop}(O:X.Ok φ ρ ι H s)(w:wpE K.F e ρ H Q')(hq:∀v H',Q' v H'→onS (truth H' v) fun b=>Q b H')
  (k:∀b s' ι' H',Le ι ι'→X.Ok φ ρ ι' H' s'→Q b H'→P b s'):wpAny K.M X.A (isTrue x X.env (eval x X.env)) P E s :=
 wpAny_mono (h X φ ρ ι H s Q Q' O w hq) (fun b s' g=>match g with | .mk ι' H' l I q=>k b s' ι' H' l (O.step l I) q) fun _ _ e=>e.elim
theorem pA{a:V}{va:Value}{R:Bool→Prop}{P:Bool→Shared→Prop}{E:Value→Shared→Prop}(O:X.Ok φ ρ ι H s)(ra:Rep ι va a)(w:onS (truth H a) R)(k:∀b s' ι',Le ι ι'→X.Ok φ ρ ι' H s'→R b→P b s'):wpAny K.M X.A (truthy va) P E s :=
 (bR w).elim fun b w=>wpAny_mono (z0 (Q:=fun c H'=>R c∧H'=H) K.D.nt O.I ra w.1 ⟨w.2,rfl⟩) (fun c s' g=>match g with | .mk ι' H' l I q=>k c s' ι' l (O.step l (q.2▸I)) q.1) fun _ _ e=>e.elim
def plainT(x:Expr):Prop:=∀env whole,isTrue x env whole=(do let v ←whole;standAt x.pos;holding [v] (truthy v))
theorem zy{e:ME}{x:Expr}(he:SE K e x)(hp:plainT x):ST K e x:=fun X φ ρ ι H s Q Q' O w hq =>
 wpAny_isTrue_value (he.run O w fun v s1 ι1 H1 y l1 O1 r1 q=>pA O1 r1 (hq _ _ q) fun b s' ι' l O' q=>.mk ι' H1 (l1.trans l) O'.I q) (hp _ _)
def EO(K:Kx)(e:ME)(x:Expr):Prop:=SE K e x∧ST K e x
theorem EO.of{e:ME}{x:Expr}(he:SE K e x)(hp:plainT x):EO K e x:=⟨he,zy he hp⟩
theorem ym{x y:String}(h:(x !=y)=true):(sx x==sx y)=false:=by
 rw [beq_eq_false_iff_ne];exact fun e=>bne_iff_ne.mp h (lD e)
theorem kO{A:Around}(O:X.Ok φ ρ ι H s){x:String}{p:Pos}{y:V}{Q:Value→Shared→Prop}{E:Value→Shared→Prop}(h:iA K.sc x=true)(hy:ρ x=some y)(k:∀v,Rep ι v y→Q v s) :
  wpAny K.M A (eval (.Name (sx x) p) X.env) Q E s:=by
 refine wpAny_Name ?_ (ym (Bool.and_eq_true_iff.mp (Bool.and_eq_true_iff.mp h).1).2)
 cases O.Ev.vars x y hy with
 |loc v r hk o m ho n hv =>
  refine aP n fun es ep hd hs hm=>?_
  exact wpAny_loadName_local O.Ev.kind hk ⟨o,es,ep,O.I.fr _ _ ho,hd,hs,hm⟩ hv (k v r)
 |cel v r hk c o hc ho hd =>
  refine hk.elim (fun hk=>?_) fun hk=>?_
  ·exact wpAny_loadName_cell O.Ev.kind hk hc ⟨o,O.I.fr _ _ ho,hd⟩ (k v r)
  ·exact wpAny_loadName_free O.Ev.kind hk hc ⟨o,O.I.fr _ _ ho,hd⟩ (k v r) (ym (Bool.and_eq_true_iff.mp h).2)
theorem DY{x:String}{p:Pos}(h:iA K.sc x=true):SE K (.var x) (.Name (sx x) p):=fun X φ ρ ι H s Q O w=>let ⟨y,hy,q⟩:=bR w;kO O h hy fun v r=>.here O.I r q
theorem n9{A:Around}(O:X.Ok φ ρ ι H s){f:String}{p:Pos}{Q:Value→Shared→Prop}{E:Value→Shared→Prop}(hg:aU K.sc f=true)(hd:(f !="__debug__")=true)(h:wpAny K.M A (loadGlobal X.env (sx f)) Q E s) :
  wpAny K.M A (eval (.Name (sx f) p) X.env) Q E s:=by
 refine wpAny_Name ?_ (ym hd)
 rw [loadName]
 simp only [Env.blockKind,O.Ev.kind,O.Ev.dS _ (eq_of_beq hg),ScopeKind.isAnnotationScope,Bool.false_eq_true,if_false]
 exact h
theorem rq:(dS.map (·.1)++nk.map (·.1)).all (fun f=>f !="__debug__")=true:=rfl
theorem kP{A:Around}(O:X.Ok φ ρ ι H s){f:String}{v:Value}{p:Pos}{Q:Value→Shared→Prop}{E:Value→Shared→Prop}(hg:aU K.sc f=true)(hv:dS.lookup f=some v)(q:Q v s):wpAny K.M A (eval (.Name (sx f) p) X.env) Q E s:=by
 refine n9 O hg (jN rq (List.mem_append_left _ (List.mem_map_of_mem (f:=Prod.fst) (lookup_mem hv)))) ?_
 delta loadGlobal
 rw [O.Ev.g]
 exact wpAny_bind ((looks_nsIn O.I.inK (aQ K.D.gl (lookup_mem hv))).here (wpAny_pure q))
theorem fz{A:Around}(O:X.Ok φ ρ ι H s){f:String}{v:Value}{p:Pos}{Q:Value→Shared→Prop}{E:Value→Shared→Prop}(hg:aU K.sc f=true)(hv:nk.lookup f=some v)(q:Q v s):wpAny K.M A (eval (.Name (sx f) p) X.env) Q E s:=by
 refine n9 O hg (jN rq (List.mem_append_right _ (List.mem_map_of_mem (f:=Prod.fst) (lookup_mem hv)))) ?_
 delta loadGlobal
 rw [O.Ev.g,O.Ev.b]
 exact wpAny_bind ((looks_nsIn O.I.inK (congrArg Prod.fst (aQ K.D.bl (lookup_mem hv)))).here (wpAny_bind ((looks_nsIn O.I.inK (congrArg Prod.snd (aQ K.D.bl (lookup_mem hv)))).here (wpAny_pure q))))
theorem Ea{o:BOp}{a b:ME}{l r:Expr}{pos:Pos}(ha:SE K a l)(hb:SE K b r):SE K (.bin o a b) (.BinOp l (yw o) r pos):=fun X φ ρ ι H s Q O w =>
 wpAny_BinOp (ha.run O w fun va s1 ι1 H1 xa l1 O1 r1 w1=>hb.run O1 w1 fun vb s2 ι2 H2 xb l2 O2 r2 w2=>PE.up (l1.trans l2) (Eo O2.I (r1.mono l2) r2 w2))
end
end Mine
end
section
namespace Mine
open PySem PyProof.Rows PySem.W
open scoped Classical
section
variable{K:Kx}{X:Cx K}{φ ι ι':Obs}{ρ:Env}{H H':Hp}{s s':Shared}
theorem rV{α β:Type}{R:α→β→Prop}{as:List α}{bs:List β}(h:aI R as bs):bs.length=as.length:=by
 induction h with
 |nil=>rfl
 |cons _ _ ih=>exact congrArg Nat.succ ih
theorem eW{x:Expr}{xs:List Expr}{env:PySem.Env}(h:notStar x=true):starEach (x::xs) env=(false,eval x env)::starEach xs env:=by
 cases x<;>first | rfl | injection h
theorem pG{es:List ME}{xs:List Expr}{pos:Pos}{E:Value→Shared→Prop}(h:aI (EO K) es xs):∀{ι:Obs} {H:Hp} {s:Shared} {Q:List V→Hp→Prop} {P:List Value→Shared→Prop},xs.all notStar=true→X.Ok φ ρ ι H s→fZ K.F es ρ H Q →
  (∀vs s' ι' H' ys,Le ι ι'→X.Ok φ ρ ι' H' s'→az ι' vs ys→vs.length=es.length→Q ys H'→P vs s')→wpAny K.M X.A (spliced (backTo pos (starEach xs X.env))) P E s:=by
 induction h with
 |nil=>exact fun _ O w k=>wpAny_items_nil (k [] _ _ _ [] (.refl _) O .nil rfl w)
 |cons he _ ih=>exact fun hn O w k =>
  let hn:=Bool.and_eq_true_iff.mp hn
  wpAny_items_cons (he.1.run O w fun v s1 ι1 H1 y l1 O1 r1 w1=>ih hn.2 O1 w1 fun vs s2 ι2 H2 ys l2 O2 r2 e q=>k _ s2 ι2 H2 _ (l1.trans l2) O2 (.cons (r1.mono l2) r2) (congrArg Nat.succ e) q) (eW hn.1)
theorem sW{ι:Obs}{t:String}{tk:Tok}:Rep ι (.str (sx t) tk) (.str (cps t)) :=
 ⟨⟨_,by rw [yF]⟩,fun c hc=>by
  refine ao (List.mem_map.mp hc) ?_;rintro ch _ rfl
  have h:=ch.valid
  show ch.val.toNat<_
  lia⟩
theorem lit_none{n:Nat}{p:Pos}:SE K (.lit .none) (.Constant .none n p):=fun X φ ρ ι H s Q O w=>wpAny_Constant_none (.here O.I fG w)
theorem lit_bool{b:Bool}{n:Nat}{p:Pos}:SE K (.lit (.bool b)) (.Constant (.bool b) n p):=fun X φ ρ ι H s Q O w=>wpAny_Constant_bool (.here O.I bq w)
theorem lit_int{i:Int}{n:Nat}{p:Pos}:SE K (.lit (.int i)) (.Constant (.int i) n p):=fun X φ ρ ι H s Q O w=>wpAny_Constant_int (.toks O.I bV w)
theorem lit_neg{i:Int}{n:Nat}{p q:Pos}:SE K (.lit (.int (-i))) (.UnaryOp .USub (.Constant (.int i) n p) q):=fun X φ ρ ι H s Q O w=>wpAny_UnaryOp (wpAny_Constant_int (P.neg_int (.toks (O.I.same rfl rfl rfl) bV w)))
theorem lit_str{t:String}{n:Nat}{p:Pos}:SE K (.lit (.str t)) (.Constant (.str (sx t)) n p):=fun X φ ρ ι H s Q O w=>wpAny_Constant_str (.toks O.I sW w)
theorem jg{a b:V}{P:Int→Int→Prop}(h:onS (intOf a) fun i=>onS (intOf b) fun j=>P i j):∃i j,a=.int i∧b=.int j∧P i j:=let ⟨i,e,h⟩:=bR h;let ⟨j,e',h⟩:=bR h;⟨i,j,yY e,yY e',h⟩
theorem yM{A:Around}{B:Base}{γ:Array GenState}{prog:Program}(I:Inv B γ φ ι H s)(R:bx A 0){o:COp}{a b:V}{va vb:Value}{Q:PV}(ra:Rep ι va a)(rb:Rep ι vb b)(h:iu o a b H Q) :
  wpAny (model prog B.w) A (compareOp (qU o) va vb) (PE B γ φ ι Q) aA s:=by
 have memb:∀(neg:Bool),InW H (fun r H'=>Q (.bool (cond neg (!r) r)) H') a b→wpAny (model prog B.w) A (compareOp (if neg then .NotIn else .In) va vb) (PE B γ φ ι Q) aA s:=by
  intro neg hin
  have fin:∀{t:Sem Value},wpAny (model prog B.w) A t (PE B γ φ ι fun v H'=>∃b,v=.bool (cond neg (!b) b)∧Q (.bool (cond neg (!b) b)) H') aA s→wpAny (model prog B.w) A t (PE B γ φ ι Q) aA s :=
   fun h=>wpAny_mono h (fun _ _ h=>h.mono (.refl _) fun x H' ⟨b,e,q⟩=>e▸q) fun _ _ e=>e
  refine fin ?_
  cases hin with
  |str hl q=>exact tn neg (in_text (Q:=fun b H'=>Q (.bool (cond neg (!b) b)) H') I ra rb q)
  |seq hl h1 h2 q=>exact let ⟨d,n,items,e,hd,hi⟩:=isList I rb hl;e▸yK neg (Q:=fun b H'=>Q (.bool (cond neg (!b) b)) H') I R.u0 ra hd hi h1 h2 q
  |dict hd hk q=>obtain rfl:vb=.ref _:=rb;exact tn neg (in_dict (Q:=fun b H'=>Q (.bool (cond neg (!b) b)) H') I R ra hd hk q)
  |set hd h1 h2 q=>obtain rfl:vb=.ref _:=rb;exact tn neg (EP (Q:=fun b H'=>Q (.bool (cond neg (!b) b)) H') I (R.le (Nat.zero_le _)) ra hd h1 h2 q)
 cases o with
 |eq=>exact Hy I R ra rb h
 |ne=>exact Hx I R ra rb h
 |in_=>exact memb false h
 |notin=>exact memb true h
 |lt=>exact let ⟨i,j,e,e',q⟩:=jg h;match a,b,e,e',ra,rb with | _,_,rfl,rfl,⟨t,e⟩,⟨u,e'⟩=>e▸e'▸P.lt_int (.here I bq q)
 |le=>exact let ⟨i,j,e,e',q⟩:=jg h;match a,b,e,e',ra,rb with | _,_,rfl,rfl,⟨t,e⟩,⟨u,e'⟩=>e▸e'▸P.le_int (.here I bq q)
 |gt=>exact let ⟨i,j,e,e',q⟩:=jg h;match a,b,e,e',ra,rb with | _,_,rfl,rfl,⟨t,e⟩,⟨u,e'⟩=>e▸e'▸P.gt_int (.here I bq q)
 |ge=>exact let ⟨i,j,e,e',q⟩:=jg h;match a,b,e,e',ra,rb with | _,_,rfl,rfl,⟨t,e⟩,⟨u,e'⟩=>e▸e'▸P.ge_int (.here I bq q)
theorem D9{o:COp}{a b:ME}{l r:Expr}{pos:Pos}(hm:behindInMarks (qU o) r=false)(ha:SE K a l)(hb:SE K b r):EO K (.cmp o a b) (.Compare l [qU o] [r] pos) :=
 ⟨fun X φ ρ ι H s Q O w=>wpAny_Compare1 (ha.run O w fun va s1 ι1 H1 xa l1 O1 r1 w1=>hb.run O1 w1 fun vb s2 ι2 H2 xb l2 O2 r2 w2=>PE.up (l1.trans l2) (yM O2.I X.r0 (r1.mono l2) r2 w2)) hm,
  fun X φ ρ ι H s Q Q' O w hq=>wpAny_isTrue_Compare1 (ha.run O w fun va s1 ι1 H1 xa l1 O1 r1 w1=>hb.run O1 w1 fun vb s2 ι2 H2 xb l2 O2 r2 w2 =>
   wpAny_mono (yM O2.I X.r0 (r1.mono l2) r2 w2) (fun v s3 g=>match g with | .mk ι3 H3 y l3 I3 r3 q=>pA (O2.step l3 I3) r3 (hq _ _ q) fun b s4 ι4 l4 O4 q=>.mk ι4 H3 (l1.trans (l2.trans (l3.trans l4))) O4.I q) fun _ _ e=>e) hm⟩
theorem D3{e:ME}{x:Expr}{pos:Pos}(he:EO K e x):EO K (.not_ e) (.UnaryOp .Not x pos) :=
 ⟨fun X φ ρ ι H s Q O w=>wpAny_UnaryOp (he.1.run O w fun v s1 ι1 H1 y l1 O1 r1 w=>not_value (pA O1 r1 w fun b s2 ι2 l2 O2 q=>⟨ι2,H1,_,l1.trans l2,O2.I,bq,q⟩)),
  fun X φ ρ ι H s Q Q' O w hq=>wpAny_isTrue_Not (he.2.run (Q:=fun b H'=>Q (!b) H') O w (fun v H' w=>let ⟨b,hb,q⟩:=bR w;let ⟨b',hb',q⟩:=bR (hq _ _ q);aa hb (by cases hb';exact q)) fun b s1 ι1 H1 l1 O1 q=>⟨ι1,H1,l1,O1.I,q⟩)⟩
theorem Gn{n:Nat}(h:n<20):n≤sizeLine:=Nat.le_trans (Nat.le_of_lt h) (of_decide_eq_true rfl)
theorem BH{ι:Obs}{a:Addr}{vs:List Value}{ys:List V}{n:Nat}(e:ι a=some { cls:=.type "tuple",data:=.seq vs.toArray n })(r:az ι vs ys):Rep ι (.ref a) (.tup ys):=⟨a,n,_,rfl,e,by exact r⟩
theorem BJ{ι:Obs}{a:Addr}{vs:List Value}{ys:List V}{n:Nat}(e:ι a=some { cls:=.type "list",data:=.seq vs.toArray n })(r:az ι vs ys):Rep ι (.ref a) (.lst ys):=⟨a,n,_,rfl,e,by exact r⟩
theorem DZ{es:List ME}{xs:List Expr}{j:Nat}{pos:Pos}(hl:xs.length<20)(hn:xs.all notStar=true)(he:aI (EO K) es xs):SE K (.tup es) (.Tuple xs j pos):=fun X φ ρ ι H s Q O w =>
 wpAny_Tuple (pG he hn O w fun vs s1 ι1 H1 ys l1 O1 r1 e q=>⟨Gn (e▸rV he▸hl),(PE.push O1.I (k:=s1.toks) rfl (fun ι' hle e=>BH e (r1.mono hle)) q).mono l1 fun _ _ q=>q⟩)
theorem D6{mu:Bool}{es:List ME}{xs:List Expr}{pos:Pos}(hl:xs.length<20)(hn:xs.all notStar=true)(he:aI (EO K) es xs):SE K (.lst mu es) (.List xs pos):=fun X φ ρ ι H s Q O w =>
 wpAny_List (pG he hn O w fun vs s1 ι1 H1 ys l1 O1 r1 e q=>⟨Gn (e▸rV he▸hl),match mu,q with
  |false,q=>(PE.push O1.I (k:=s1.toks) rfl (fun ι' hle e=>BJ e (r1.mono hle)) q).mono l1 fun _ _ q=>q
  |true,q=>(PE.yk O1.I (k:=s1.toks) (x:=.list ys) rfl ⟨_,_,rfl,by exact r1⟩ q).mono l1 fun _ _ q=>q⟩)
theorem D8{e:ME}{x:Expr}(he:SE K e x):SE K (.frz e) x:=fun X φ ρ ι H s Q O w=>he.run O w fun v s1 ι1 H1 y l1 O1 r1 w=>by
 obtain @⟨a,l,hl,q⟩:=w
 obtain ⟨o,ho,items,n,rfl,hi⟩:=O1.I.objs _ _ hl
 obtain rfl:v=.ref _:=r1
 exact ⟨_,_,.lst l,l1.trans (Le.add (o:={ cls:=.type "list",data:=.seq items n }) (O1.I.nj hl)),O1.I.settle hl ho,⟨a,n,items,rfl,af ..,hi.mono (Le.add (o:={ cls:=.type "list",data:=.seq items n }) (O1.I.nj hl))⟩,q⟩
theorem D7{c a b:ME}{x y z:Expr}{pos:Pos}(hc:ST K c x)(ha:EO K a y)(hb:EO K b z):EO K (.ifx c a b) (.IfExp x y z pos) :=
 ⟨fun X φ ρ ι H s Q O w=>wpAny_IfExp (hc.run (Q:=fun t H'=>cond t (wpE K.F a ρ H' Q) (wpE K.F b ρ H' Q)) O w (fun _ _ q=>q) fun t s1 ι1 H1 l1 O1 w1=>match t,w1 with
  |false,w1=>PE.up l1 (hb.1 X φ ρ ι1 H1 s1 Q O1 w1)
  |true,w1=>PE.up l1 (ha.1 X φ ρ ι1 H1 s1 Q O1 w1)),
  fun X φ ρ ι H s Q Q' O w hq=>(arm_isTrue_IfExp ..).symm▸wpAny_bind (hc.run (Q:=fun t H'=>cond t (wpE K.F a ρ H' Q') (wpE K.F b ρ H' Q')) O w (fun _ _ q=>q) fun t s1 ι1 H1 l1 O1 w1=>match t,w1 with
  |false,w1=>hb.2.run O1 w1 hq fun b s2 ι2 H2 l2 O2 q=>⟨ι2,H2,l1.trans l2,O2.I,q⟩
  |true,w1=>ha.2.run O1 w1 hq fun b s2 ι2 H2 l2 O2 q=>⟨ι2,H2,l1.trans l2,O2.I,q⟩)⟩
end
end Mine
end
section
namespace Mine
open PySem PyProof.Rows PySem.W
open scoped Classical
theorem wH(items:Array Value)(k:Nat):(slicePick items none (some (k:Int)) none).toList=items.toList.take k:=by
 by_cases h:k≤items.size
 ·rw [slicePick_upto items k h]
 ·have e:slicePick items none (some (k:Int)) none=slicePick items none (some ((items.size:Nat):Int)) none:=by
   simp only [slicePick,sliceBounds]
   simp only [Option.getD_none]
   simp only [(show ¬((k:Int)<0) from by omega),(show ¬(((items.size:Nat):Int)<0) from by lia),if_false]
   simp only [(show (1:Int)>0 from by decide),if_true,(show max (0:Int) (min (k:Int) (items.size:Int))=max 0 (min ((items.size:Nat):Int) (items.size:Int)) from by grind)]
  simp only [e,slicePick_upto items items.size (Nat.le_refl _)]
  simp [List.take_of_length_le (show items.toList.length≤k by solve_by_elim (maxDepth:=3) [Nat.le_antisymm,Nat.le_of_lt_succ,Nat.le_of_not_lt,Nat.lt_of_not_le,Nat.le_of_not_le,Nat.succ_le_of_lt,Nat.le_of_eq,Nat.lt_succ_of_le])]
  exact List.take_of_length_le (by simp)
theorem wJ(items:Array Value)(k:Nat):(slicePick items (some (k:Int)) none none).toList=items.toList.drop k:=by
 by_cases h:k≤items.size
 ·rw [slicePick_from items k h]
 ·have e:slicePick items (some (k:Int)) none none=slicePick items (some ((items.size:Nat):Int)) none none:=by
   simp only [slicePick,sliceBounds]
   simp only [Option.getD_none]
   simp only [(show ¬((k:Int)<0) from by omega),(show ¬(((items.size:Nat):Int)<0) from by lia),if_false]
   simp only [(show (1:Int)>0 from by decide),if_true,(show max (0:Int) (min (k:Int) (items.size:Int))=max 0 (min ((items.size:Nat):Int) (items.size:Int)) from by grind)]
  simp only [e,slicePick_from items items.size (Nat.le_refl _)]
  simp [List.drop_eq_nil_iff.mpr (show items.toList.length≤k by solve_by_elim (maxDepth:=3) [Nat.le_antisymm,Nat.le_of_lt_succ,Nat.le_of_not_lt,Nat.lt_of_not_le,Nat.le_of_not_le,Nat.succ_le_of_lt,Nat.le_of_eq,Nat.lt_succ_of_le])]
theorem uD(k n:Nat)(h0:0<k)(hk:k≤n):Builtin.Slice.sliceAdjust (some (-(k:Int))) none 1 (n:Int)=(((n-k:Nat):Int),(n:Int)):=by
 dsimp only [Builtin.Slice.sliceAdjust]
 congr 1
 lia
theorem j4{prog:Program}{w:World}{A:Around}{E:Value→Shared→Prop}{s:Shared}{sl:Addr}{k n:Nat}{u:Tok}{Q:Int×Int×Nat→Shared→Prop}(hs:s.heap.IsSliceOf sl (.int (-(k:Int)) u) .none .none)(h0:0<k)(hk:k≤n)
  (h:Q (((n-k:Nat):Int),1,k) s):wpAny (model prog w) A (Builtin.Slice.sliceApplied (.ref sl) (pure (n:Int))) Q E s:=by
 refine br (id hs) fun os hos hcs hds=>?_
 refine wpAny_bind (wpAny_bind (wpAny_field hos hds (x:=.int (-(k:Int)) u) rfl (wpAny_bind (wpAny_field hos hds (x:=.none) rfl (wpAny_bind (wpAny_field hos hds (x:=.none) rfl (wpAny_pure ?_)))))))
 show wpAny _ _ (match Builtin.Slice.sliceAdjust (some (-(k:Int))) none 1 (n:Int) with | (lo,hi)=>pure (lo,(1:Int),Builtin.Slice.slicePlaces lo hi 1)) _ _ s
 refine (uD k n h0 hk)▸?_
 show wpAny _ _ (pure (((n-k:Nat):Int),(1:Int),Builtin.Slice.slicePlaces ((n-k:Nat):Int) (n:Int) 1)) _ _ s
 rw [places_from (n-k) n (Nat.sub_le _ _),show n-(n-k)=k by exact N.c4 hk]
 exact wpAny_pure h
theorem v9{prog:Program}{w:World}{A:Around}{E:Value→Shared→Prop}{s:Shared}{t sl:Addr}{items:Array Value}{k:Nat}{u:Tok}{Q:Value→Shared→Prop}(ht:IsTup s.heap t items)(hs:s.heap.IsSliceOf sl (.int (-(k:Int)) u) .none .none)(h0:0<k)(hk:k<items.size)
  (hsz:items.size≤sizeLine) (h:Q (.ref s.heap.objs.size) { s with heap:=s.heap.push { cls:=.type "tuple",data:=.seq (items.toList.drop (items.size-k)).toArray } }):wpAny (model prog w) A (getItem (.ref t) (.ref sl)) Q E s:=by
 have hdrop:sizeOk (.seq (items.toList.drop (items.size-k)).toArray):=by
  show (items.toList.drop (items.size-k)).toArray.size≤sizeLine
  simp only [List.size_toArray,List.length_drop,Array.length_toList]
  exact N.k2 hsz
 refine br (id hs) fun os hos hcs hds=>?_
 delta getItem
 try with_reducible refine wpAny_holding ?_
 refine wpAny_bind (wpAny_sequenceKey ht.typeIs (by rfl) ?_)
 refine wpAny_bind (wpAny_callSpecial?_slot (name:=Str.ofString "__getitem__") ht.typeIs slot_tuple_getitem
  (wpAny_call_entry slot_tuple_getitem ht.typeIs entry_tuple_getitem ?_ (args_tuple_getitem _ _)))
 show wpAny _ _ (Builtin.Tuple.tupleItemsOf (.ref t)>>=_) _ _ s
 refine wpAny_bind (tupleItemsOf_ ht ?_)
 refine wpAny_bind (wpAny_typeOf (⟨os,hos,hcs⟩) ?_)
 refine wpAny_bind (j4 hs h0 (Nat.le_of_lt hk) ?_)
 have hno:¬((((items.size-k:Nat):Int)==0&&(1:Int)==1&&k==items.size)=true):=by
  have:(((items.size-k:Nat):Int)==0)=false:=by rw [beq_eq_false_iff_ne];omega
  refine (this)▸?_;nofun
 show wpAny _ _ (if (((items.size-k:Nat):Int)==0&&(1:Int)==1&&k==items.size)=true then _ else _) _ _ s
 have hp:=pick_from items (items.size-k) (Nat.sub_le _ _)
 rw [show items.size-(items.size-k)=k by exact N.c4 (Nat.le_of_lt hk)] at hp
 rw [if_neg hno,hp]
 first
  |exact wpAny_bind (m:=Builtin.Tuple.tupleExact _) (wpAny_newObj_type (wpAny_pure ⟨_,rfl,wpAny_pure h⟩) hdrop)
  |exact wpAny_bind (m:=Builtin.Tuple.tupleExact _) (wpAny_newObj_type (wbp (wpAny_pure ⟨_,rfl,wpAny_pure h⟩)) hdrop)
  |exact wpAny_bind (wpAny_bind (m:=Builtin.Tuple.tupleExact _) (wpAny_newObj_type (wpAny_pure (wpAny_pure ⟨_,rfl,wpAny_pure h⟩)) hdrop))
  |exact wpAny_bind (wpAny_bind (m:=Builtin.Tuple.tupleExact _) (wpAny_newObj_type (wpAny_pure ⟨_,rfl,wpAny_pure h⟩) hdrop))
section
variable{B:Base}{γ:Array GenState}{φ ι:Obs}{H:Hp}{s:Shared}{prog:Program}{A:Around}{env:PySem.Env}
theorem fc{M:Model}{h:Heap}{o:Value}{T id:String}(hne:o≠.builtin "sys.modules#opaque")(hT:∀s':Shared,(∀b x,h.get? b=some x→s'.heap.get? b=some x)→s'.TypeIs o T)
  (hl:typeLookup (.type T) "__getitem__"=pure (some (.builtin id))):Looks M h (getitemInPython o) false:=by
 intro A Q E s hk q
 refine wpAny_bind (wpAny_specialOf (hT s hk) hl (wpAny_pure q))
def gX(v:Value)(p:Option V):Prop:=match p with
 |none=>v=.none
 |some (.int i)=>∃t,v=.int i t
 |some _=>True
theorem yL(I:Inv B γ φ ι H s){vl vu:Value}{lo hi:Option V}{Q:PV}{sl b:Addr}{l:List V}{items:Array Value}(rl:gX vl lo)(ru:gX vu hi)(hs:s.heap.IsSliceOf sl vl vu .none)(hb:s.heap.IsList b items)(r:az ι items.toList l)(h:vX H Q l lo hi) :
  wpAny (model prog B.w) A (getItem (.ref b) (.ref sl)) (PE B γ φ ι Q) aA s:=by
 cases h with
 |hi hz _ q =>
  obtain rfl:vl=.none:=rl
  refine aL ru ?_;clear ru;rintro t rfl
  exact wpAny_getItem_list_slice hb hs .none (.int _ _) .none (by simp) (PE.push I (k:=s.toks) (x:=.lst (l.take _)) rfl (fun ι' hle e=>⟨_,_,_,rfl,e,by rw [wH];exact (r.mono hle).take _⟩) q) ((show items.size=l.length from by exact r.length)▸Nat.le_trans hz (by decide))
 |lo hz _ q =>
  obtain rfl:vu=.none:=ru
  refine aL rl ?_;clear rl;rintro t rfl
  exact wpAny_getItem_list_slice hb hs (.int _ _) .none .none (by simp) (PE.push I (k:=s.toks) (x:=.lst (l.drop _)) rfl (fun ι' hle e=>⟨_,_,_,rfl,e,by rw [wJ];exact (r.mono hle).drop _⟩) q) ((show items.size=l.length from by exact r.length)▸Nat.le_trans hz (by decide))
theorem z4(I:Inv B γ φ ι H s){a:V}{va vl vu:Value}{lo hi:Option V}{Q:PV}{sl:Addr}(ra:Rep ι va a)(rl:gX vl lo)(ru:gX vu hi)(hs:s.heap.IsSliceOf sl vl vu .none)(h:dJ H Q a lo hi) :
  wpAny (model prog B.w) A (getItem va (.ref sl)) (PE B γ φ ι Q) aA s:=by
 cases h with
 |arg h=>exact Bc ra fun b o n items e h1 h2 h3 h4=>e▸yL I rl ru hs ⟨o,I.data _ _ h1,h2,n,h3⟩ h4 h
 |seq hl h=>exact bP (isList I ra hl) fun b n items e hb hi'=>e▸yL I rl ru hs ⟨_,hb,rfl,n,rfl⟩ hi' h
 |tup hz h0 hj q =>
  refine bP (bJ ra) ?_;rintro b n items rfl hb hi'
  obtain rfl:vu=.none:=ru
  obtain ⟨t,rfl⟩:=rl
  exact v9 ⟨_,I.data _ _ hb,rfl,_,rfl⟩ hs h0 ((show items.size=_ from hi'.length)▸hj) ((show items.size=_ from hi'.length)▸Nat.le_trans hz (of_decide_eq_true rfl)) (PE.push I (k:=s.toks) (x:=.tup (List.drop _ _)) rfl (fun ι' hle e=>⟨_,_,_,rfl,e,((show items.size=_ from hi'.length)).symm▸(hi'.mono hle).drop _⟩) q)
theorem rG(I:Inv B γ φ ι H s){a:V}{va:Value}{l:List V}(ra:Rep ι va a)(hl:listOf H a=some l):Looks (model prog B.w) s.heap (getitemInPython va) false :=
 bP (isList I ra hl) fun b n items e hb _=>e▸fc (T:="list") (fun h=>Value.noConfusion h) (fun s' hk=>⟨_,hk _ _ hb,rfl⟩) list_getitem_lookup
theorem vo(I:Inv B γ φ ι H s){va:Value}{l:List V}(ra:Rep ι va (.tup l)):Looks (model prog B.w) s.heap (getitemInPython va) false :=
 bP (bJ ra) fun b n items e hb _=>e▸fc (T:="tuple") (fun h=>Value.noConfusion h) (fun s' hk=>⟨_,hk _ _ (I.data _ _ hb),rfl⟩) slot_tuple_getitem.lookup
theorem xo(I:Inv B γ φ ι H s){a:V}{va:Value}{lo hi:Option V}{Q:PV}(ra:Rep ι va a)(h:dJ H Q a lo hi):Looks (model prog B.w) s.heap (getitemInPython va) false:=by
 cases h with
 |arg h=>exact vO ra fun b o n items e h1 h=>e▸fc (T:="list") (fun h=>Value.noConfusion h) (fun s' hk=>⟨_,hk _ _ (I.data _ _ h1),h.1⟩) list_getitem_lookup
 |seq hl h=>exact rG I ra hl
 |tup hz h0 hj q=>exact vo I ra
theorem wG{slice:Expr}(hs:isSlice slice=false)(o i:Value):subscripted slice false o i=operate [o,i] (getItem o i):=by
 cases slice<;>first | rfl | exact xt hs
theorem f7{value slice:Expr}{pos:Pos}{Q:Value→Shared→Prop}{w:World}(hs:isSlice slice=false)
  (h:wpAny (model prog w) A (eval value env) (fun o s₁=>wpAny (model prog w) A (eval slice env) (fun i s₂=>Looks (model prog w) s₂.heap (getitemInPython o) false∧wpAny (model prog w) A (getItem o i) Q aA s₂) aA s₁) aA s) :
  wpAny (model prog w) A (eval (.Subscript value slice pos) env) Q aA s:=by
 refine wpAny_bind (wpAny_mono h (fun o s₁ h₁=>wpAny_bind (wpAny_holding (wpAny_mono h₁ (fun i s₂ h₂=>?_) fun _ _ x=>x))) fun _ _ x=>x)
 refine wpAny_bind (wpAny_standAt (wpAny_bind (h₂.1.here ?_)))
 refine wpAny_bind ?_
 exact (wG hs o i)▸wpAny_operating (wpAny_mono h₂.2 (fun r s₃ h₃=>wpAny_bind (wpAny_letTemporaryGo (wpAny_pure h₃))) fun _ _ x=>x)
theorem ES(I:Inv B γ φ ι H s){a i:V}{va:Value}{Q:PV}(ra:Rep ι va a)(h:kG H Q a i):Looks (model prog B.w) s.heap (getitemInPython va) false:=by
 cases h with
 |seq hl _ _ _ _=>exact rG I ra hl
 |tup _ _ _ _=>exact vo I ra
 |str _ _ _ _=>exact ao (bA ra) fun u e _=>e▸fc (T:="str") (fun h=>Value.noConfusion h) (fun s' hk=>rfl) F.slot_str_getitem.lookup
 |dict hd _ _ _=>exact (show va=.ref _ from ra)▸I.dictAt hd fun o ho _ hc _=>fc (T:="dict") (fun h=>Value.noConfusion h) (fun s' hk=>⟨_,hk _ _ ho,hc⟩) slot_dict_getitem.lookup
end
theorem n8{o:Obj}{m:Str→Option Value}(h:NsO o m)(name:Str):lookIn name o=some (m name):=by
 refine aP h fun es ep hd hk hm=>?_
 have hany:es.toList.any (·.refKey)=false:=by
  rw [List.any_eq_false]
  intro e he
  refine f5 (hk e (Array.mem_toList_iff.mp he)) fun n t h=>?_
  simp [DictEntry.refKey,h]
 have h2:=hm name
 simp only [nsFind,findBy] at h2
 delta lookIn
 refine (hd)▸?_
 dsimp only
 replace h2:=(Array.find?_toList)▸h2
 cases hf:es.toList.find? (fun e=>e.key.isStr name) with
 |some e=>rw [hf] at h2;simp at h2;simp only [←h2]
 |none=>replace h2:=(hf)▸h2;simp at h2;simp only [←h2];refine (hany)▸?_;rfl
section
variable{K:Kx}{X:Cx K}{φ ι ι':Obs}{ρ:Env}{H H':Hp}{s s':Shared}
theorem D0{a b:ME}{l r:Expr}{pos:Pos}(hs:isSlice r=false)(ha:SE K a l)(hb:SE K b r):SE K (.sub a b) (.Subscript l r pos):=fun X φ ρ ι H s Q O w =>
 f7 hs (ha.run O w fun va s1 ι1 H1 xa l1 O1 r1 w1=>hb.run O1 w1 fun vb s2 ι2 H2 xb l2 O2 r2 w2=>⟨ES O2.I (r1.mono l2) w2,PE.up (l1.trans l2) (Ek O2.I X.r0 (r1.mono l2) r2 w2)⟩)
theorem zZ{ι:Obs}{v:Value}{y:V}(r:Rep ι v y):gX v (some y):=by
 cases y with
 |int i=>exact r
 |_=>trivial
inductive jO(K:Kx)(e:ME):Option Expr→Prop
 |no (h:dB e=true):jO K e none
 |some {y:Expr} (h:dB e=false) (he:SE K e y):jO K e (some y)
theorem rg{e:ME}{x:Option Expr}(h:jO K e x)(O:X.Ok φ ρ ι H s){Q:Option V→Hp→Prop}{P:Value→Shared→Prop}{E:Value→Shared→Prop}(w:Ds (dB e) (wpE K.F e ρ H) H Q)
  (k:∀v s' ι' H' p,Le ι ι'→X.Ok φ ρ ι' H' s'→gX v p→Q p H'→P v s'):wpAny K.M X.A (evalPart x X.env) P E s:=by
 cases h with
 |no h=>replace w:=(h)▸w;exact wpAny_pure (k _ _ _ _ none (.refl _) O rfl w)
 |some h he=>replace w:=(h)▸w;exact he.run O w fun v s1 ι1 H1 z l1 O1 r1 q=>k v s1 ι1 H1 (some z) l1 O1 (zZ r1) q
theorem zF{e lo hi:ME}{x:Expr}{l u:Option Expr}{p pos:Pos}(he:SE K e x)(hl:jO K lo l)(hu:jO K hi u):SE K (.slice e lo hi) (.Subscript x (.Slice l u none p) pos):=fun X φ ρ ι H s Q O w=>by
 refine wpAny_bind (he.run O w fun v s1 ι1 H1 y l1 O1 r1 w1=>wpAny_bind (wpAny_holding (wpAny_Slice (rg hl O1 w1 fun vl s2 ι2 H2 pl l2 O2 pr2 w2=>rg hu O2 w2 fun vu s3 ι3 H3 pu l3 O3 pr3 w3=>?_))))
 have I4:Inv K.B X.γ φ ι3 H3 { s3 with heap:=s3.heap.push { cls:=.type "slice",data:=.fields #[vl,vu,.none] } }:=O3.I.keep (fun b o' e=>Heap.get?_push_of_some _ e) rfl rfl
 exact wpAny_pure (wpAny_bind (wpAny_standAt (wpAny_bind ((xo (prog:=K.prog) I4 (r1.mono (l2.trans l3)) w3).here (wpAny_bind (m:=subscripted (.Slice l u none p) false v (.ref s3.heap.objs.size)) (wpAny_operating (wpAny_mono (z4 I4 (r1.mono (l2.trans l3)) pr2 pr3 (Heap.IsSliceOf.new ..) w3)
  (fun r s5 h5=>wpAny_bind (wpAny_letTemporaryGo (wpAny_pure (h5.mono (l1.trans (l2.trans l3)) fun _ _ q=>q)))) fun _ _ x=>x)))))))
theorem handed{ι:Obs}{v:Value}{y:V}(r:Rep ι v y):handedIn v=true:=by
 cases y with
 |none=>exact r▸rfl
 |bool b=>exact r▸rfl
 |int i=>exact aL r fun t e=>e▸rfl
 |str l=>exact aL r.1 fun t e=>e▸rfl
 |tup l=>exact kX r fun _ _ _ e _=>e▸rfl
 |lst l=>exact kX r fun _ _ _ e _=>e▸rfl
 |arg l=>exact Gy r fun _ _ _ _ e _=>e▸rfl
 |rng l h=>exact Gy r fun _ _ _ _ e _=>e▸rfl
 |nt s=>exact ez r fun _ _ h _=>kX h fun _ _ _ e _=>e▸rfl
 |prod l r'=>exact Gv r fun _ _ _ _ _ h _=>kX h fun _ _ _ e _=>e▸rfl
 |cls c=>exact r▸rfl
 |ref a=>exact r▸rfl
theorem EZ{C:Addr}(hC:C∈classes)(D:Facts K.B.aZ):∃cd,clsIn K.B.aZ C=some cd∧cd.hasDict=true:=Option.map_eq_some_iff.mp (aQ D.hd hC)
theorem rH{E:Value→Shared→Prop}(I:Inv K.B X.γ φ ι H s){a dx C:Addr}{od:Obj}{m:Str→Option Value}{n:String}{v:Value}{y:V}{ex:Bool}{Q:PV}(hC:C∈classes)(hn:(C,n)∈cM)
  (ha:s.heap.get? a=some (fU C dx)) (hd:s.heap.get? dx=some od) (ho:NsO od m) (hv:m (sx n)=some v) (r:Rep ι v y) (q:Q y H) :
  wpAny K.M X.A (getAttr (.ref a) (sx n) ex) (PE K.B X.γ φ ι Q) E s :=
 get_value I.inK (C:=C) (ox:=fU C dx) (od:=some od) ⟨ha,rfl,rfl,hd⟩ (aQ K.D.ga hC) (ao (EZ hC K.D) fun cd h1 h2=>by
  show Option.bind (clsIn K.B.aZ C) _=_
  rw [h1]
  show Option.bind (findIn K.B.aZ (.ref C) (sx n)) _=_
  rw [aQ K.D.na hn]
  show Option.bind (W.ownOf cd (some od) (sx n)) _=_
  rw [show W.ownOf cd (some od) (sx n)=some (some v) from (if_pos h2).trans ((n8 ho (sx n)).trans (congrArg some hv))]
  rfl) (handed r) (.toks I r q)
theorem dw.go{ι:Obs}{C:Addr}{v:Value}{m:Str→Option Value}(S:dw ι C v m){G:Prop}(q:∀a dx od,v=.ref a→ι a=some (fU C dx)→ι dx=some od→NsO od m→G):G :=
 GB S fun a dx od e h1 h2 _ h4=>q a dx od e h1 h2 h4
theorem Inv.C5{B:Base}{γ:Array GenState}(I:Inv B γ φ ι H s){a dx:Addr}{f:String→Option V}(hi:H a=some (.inst "CFG" dx))(hf:H dx=some (.attrs f)){G:Prop}(q:∀od m,s.heap.get? a=some (fU gg dx)→s.heap.get? dx=some od→NsO od m→od.ExactDict→uO od f→(∀x y,f x=some y→anyAttr x=true∧∃u,m (sx x)=some u∧Rep ι u y)→(∀x,f x=none→m (sx x)=none)→G):G :=
 br (I.objs _ _ hi) fun o1 g1 _ e=>jF (I.objs _ _ hf) fun o2 g2 g3 g6 g=>ao g fun m g4 g5=>q o2 m (e▸g1) g2 g4 g3 g6 (fun x y h=>by have:=g5 x;rw [h] at this;exact this) fun x h=>by have:=g5 x;rw [h] at this;exact this
theorem fO{E:Value→Shared→Prop}(I:Inv K.B X.γ φ ι H s){va:Value}{C:Addr}{m:Str→Option Value}{n:String}{v:Value}{y:V}{ex:Bool}{Q:PV}(hC:C∈classes)(hn:(C,n)∈cM)
  (S:dw ι C va m) (hv:m (sx n)=some v) (r:Rep ι v y) (q:Q y H):wpAny K.M X.A (getAttr va (sx n) ex) (PE K.B X.γ φ ι Q) E s :=
 S.go fun a dx od e h1 h2 h4=>e▸rH I hC hn (I.data _ _ h1) (I.data _ _ h2) h4 hv r q
theorem qg{n m:String}{P Q:Prop}(h:cond (n==m) P Q):(n=m∧P)∨Q:=by
 cases e:n==m with
 |true=>rw [e] at h;exact .inl ⟨eq_of_beq e,h⟩
 |false=>rw [e] at h;exact .inr h
theorem BO(O:X.Ok φ ρ ι H s){a:V}{va:Value}{n:String}{ex:Bool}{Q:PV}(ra:Rep ι va a)(h:De a n H Q):wpAny K.M X.A (getAttr va (sx n) ex) (PE K.B X.γ φ ι Q) aA s:=by
 cases a with
 |nt l =>
  obtain ⟨rfl,q⟩:=(qg h).resolve_right id
  exact fm ra fun m t S hm hc _=>fO O.I (C:=aD) (.head _) (jb (c:="Nonterminal") (n:="_symbol") rfl) S hm (pB hc) q
 |prod l r =>
  refine Dz ra fun m v1 b k items S g1 g2 g3 g4 g5 _=>((qg h).imp id fun h=>(qg h).resolve_right id).elim (fun c=>?_) fun c=>?_
  ·obtain ⟨rfl,q⟩:=c
   exact fO O.I (C:=bg) (y:=.nt l) (.tail _ (.head _)) (jb (c:="Production") (n:="_lhs") rfl) S g1 g2 q
  ·obtain ⟨rfl,q⟩:=c
   exact fO O.I (C:=bg) (y:=.tup r) (.tail _ (.head _)) (jb (c:="Production") (n:="_rhs") rfl) S g3 ⟨_,_,_,rfl,g4,g5⟩ q
 |ref i =>
  cases h with | mk h1 h2 hn h3 q =>
  exact (show va=.ref i from ra)▸O.I.C5 h1 h2 fun od m g1 g2 g4 _ _ g5 _=>ao (g5 n _ h3).2 fun u g6 g7=>rH O.I (C:=gg) (.tail _ (.tail _ (.head _))) (jb (c:="CFG") (A5 hn)) g1 g2 g4 g6 g7 q
 |_=>exact h.elim
theorem m5{o:Expr}{attr:Str}{env:PySem.Env}(h:cZ o=true):attributeBase o attr env (eval o env)=eval o env:=by
 cases o with
 |Call f xs kw p=>cases f<;>first | rfl | (cases xs<;>first | rfl | exact xf h)
 |_=>rfl
theorem BD{e:ME}{x:Expr}{n:String}{pos:Pos}(hb:cZ x=true)(he:SE K e x):SE K (.attr e n) (.Attribute x (sx n) pos):=fun X φ ρ ι H s Q O w=>by
 simp only [arm_eval_Attribute,m5 hb]
 exact wpAny_bind (he.run O w fun v s1 ι1 H1 y l1 O1 r1 q=>wpAny_bind (wpAny_standAt (wpAny_bind (wpAny_holding (wpAny_mono (BO O1 r1 q) (fun u s2 h2=>wpAny_bind (wpAny_letTemporaryGo (wpAny_pure (h2.mono l1 fun _ _ q=>q)))) fun _ _ e=>e.elim)))))
noncomputable def opB(c:Bool):BoolOp:=if c then .And else .Or
theorem Dp{pos:Pos}{c:Bool}{x y:Sem Value}{rest:List (Sem Value)}:boolOp pos (opB c) (x::y::rest)=(do
  let v ←x
  standAt pos
  let t ←holding [v] (truthy v)
  match opB c,t with
  |.And,false | .Or,true=>pure v
  |_,_=>boolOp pos (opB c) (y::rest)):=rfl
theorem gU{t c:Bool}{P Q:Prop}(h:cond (t==c) P Q):(t=c→P)∧(t≠c→Q):=⟨fun e=>by subst e;cases t<;>exact h,fun e=>by cases t<;>cases c<;>first | exact h | exact absurd rfl e⟩
theorem zJ{c:Bool}{pos:Pos}{es:List ME}{xs:List Expr}(h:aI (EO K) es xs):SE K (.bools c es) (.BoolOp (opB c) xs pos):=by
 intro X φ ρ ι H s Q O w
 induction h generalizing ι H s with
 |nil=>exact w.elim
 |@cons e x es xs he hes ih =>
  cases hes with
  |nil=>exact he.1 X φ ρ ι H s Q O w
  |@cons e' x' es xs he' hes =>
   refine wpAny_bind (he.1.run (Q:=fun v H'=>onS (truth H' v) fun b=>cond (b==c) (gP K.F c (e'::es) ρ H' Q) (Q v H')) O w fun v s1 ι1 H1 y l1 O1 r1 w1=>wpAny_bind (wpAny_standAt (wpAny_bind (wpAny_holding (pA O1 r1 w1 fun t s2 ι2 l2 O2 w2=>?_)))))
   cases c<;>cases t
   ·exact (fun e=>PE.up (l1.trans l2) (ih _ _ _ O2 ((gU w2).1 e))) rfl
   ·exact wpAny_pure ((fun e=>⟨ι2,H1,y,l1.trans l2,O2.I,r1.mono l2,(gU w2).2 e⟩) Bool.noConfusion)
   ·exact wpAny_pure ((fun e=>⟨ι2,H1,y,l1.trans l2,O2.I,r1.mono l2,(gU w2).2 e⟩) Bool.noConfusion)
   ·exact (fun e=>PE.up (l1.trans l2) (ih _ _ _ O2 ((gU w2).1 e))) rfl
theorem zz{c:Bool}{pos:Pos}{es:List ME}{xs:List Expr}(h:aI (EO K) es xs):ST K (.bools c es) (.BoolOp (opB c) xs pos):=by
 intro X φ ρ ι H s Q Q' O w hq
 simp only [arm_isTrue_BoolOp]
 replace w:gP K.F c es ρ H Q':=w
 induction h generalizing ι H s with
 |nil=>exact w.elim
 |@cons e x es xs he hes ih =>
  have step:∀{b:Bool} {s':Shared},(b=c→wpAny K.M X.A (allTrue (opB c) xs X.env) (PB K.B X.γ φ ι Q) aA s')→(b≠c→PB K.B X.γ φ ι Q b s') →
    wpAny K.M X.A (match opB c,b with | .And,false=>pure false | .Or,true=>pure true | _,_=>allTrue (opB c) xs X.env) (PB K.B X.γ φ ι Q) aA s':=by
   intro b s' h1 h2
   cases c<;>cases b
   ·exact h1 rfl
   ·exact wpAny_pure (h2 Bool.noConfusion)
   ·exact wpAny_pure (h2 Bool.noConfusion)
   ·exact h1 rfl
  cases hes with
  |nil =>
   refine wpAny_bind (he.2.run O w hq fun b s1 ι1 H1 l1 O1 q=>step (fun e=>?_) fun _=>⟨ι1,H1,l1,O1.I,q⟩)
   subst e
   cases b<;>exact wpAny_pure ⟨ι1,H1,l1,O1.I,q⟩
  |@cons e' x' es xs he' hes =>
   refine wpAny_bind (he.2.run (Q:=fun t H'=>(t=c→gP K.F c (e'::es) ρ H' Q')∧(t≠c→Q t H')) (Q':=fun v H'=>onS (truth H' v) fun b=>cond (b==c) (gP K.F c (e'::es) ρ H' Q') (Q' v H')) O w (fun v H' w=>let ⟨b,hb,q⟩:=bR w;aa hb ⟨(gU q).1,fun e=>let ⟨b',hb',q⟩:=bR (hq _ _ ((gU q).2 e));(by cases hb'.symm.trans hb;exact q)⟩)
    fun b s1 ι1 H1 l1 O1 q=>step (fun e=>wpAny_mono (ih _ _ _ O1 (q.1 e)) (fun v s3 h3=>h3.mono l1 fun _ _ q=>q) fun _ _ e=>e) fun e=>⟨ι1,H1,l1,O1.I,q.2 e⟩)
end
end Mine
end
section
namespace Mine
open PySem PyProof.Rows PySem.W
open scoped Classical
section
variable{B:Base}{γ:Array GenState}{φ ι:Obs}{H:Hp}{s:Shared}{prog:Program}{A:Around}{env:PySem.Env}
theorem bI{M:Model}{E:Value→Shared→Prop}{f:Value}{args:List (Bool×Sem Value)}{kws:List (Option Str×Sem Value)}{Q:Args→Shared→Prop}(ha:args.any (·.1)=false)(hk:kws.all (·.1.isSome)=true)
  (h:wpAny M A (spliced args) (fun vs s₁=>wpAny M A (evalAll (kws.map (·.2))) (fun ks s₂=>Q ⟨vs,(kws.filterMap (·.1)).zip ks⟩ s₂) E s₁) E s):wpAny M A (evalArgs f true args kws) Q E s:=by
 have tail:∀(pos:List Value) (s₁:Shared),wpAny M A (evalAll (kws.map (·.2))) (fun ks s₂=>Q ⟨pos,(kws.filterMap (·.1)).zip ks⟩ s₂) E s₁ →
   wpAny M A (evalAll (kws.map (·.2))>>=fun ks=>(pure pos:Sem (List Value))>>=fun p=>pure (⟨p,(kws.filterMap (·.1)).zip ks⟩:Args)) Q E s₁:=fun pos s₁ h₁ =>
  wpAny_bind (wpAny_mono h₁ (fun ks s₂ q=>wbp (wpAny_pure q)) fun _ _ e=>e)
 match args,ha with
 |[],_ =>
  refine wpAny_bind (wpAny_mono h (fun vs s₁ h₁=>wbp (wpAny_holding ?_)) fun _ _ e=>e)
  simp only [hk];exact tail vs s₁ h₁
 |[(false,x)],_ =>
  refine wpAny_bind (wpAny_mono h (fun vs s₁ h₁=>wbp (wpAny_holding ?_)) fun _ _ e=>e)
  simp only [hk];exact tail vs s₁ h₁
 |[(true,x)],ha=>injection ha
 |(a,x)::b::r,_ =>
  cases a<;>(
   refine wpAny_bind (wpAny_mono h (fun vs s₁ h₁=>wbp (wpAny_holding ?_)) fun _ _ e=>e)
   simp only [hk];exact tail vs s₁ h₁)
theorem callWith_of{M:Model}{E:Value→Shared→Prop}{pos:Pos}{f:Value}{first:List Value}{args:List (Bool×Sem Value)}{kws:List (Option Str×Sem Value)}{Q:Value→Shared→Prop}
  (h:wpAny M A (evalArgs f true args kws) (fun x s₁=>(∃kp,Looks M s₁.heap (keeperOf f) kp)∧wpAny M A (call f (first++x.pos) x.kw) Q E s₁) E s) :
  wpAny M A (callWith pos f first args kws) Q E s:=by
 refine wpAny_bind (wpAny_holding (wpAny_mono h (fun x s₁ h₁=>wpAny_bind (wpAny_standAt ?_)) fun _ _ x=>x))
 obtain ⟨⟨kp,hkp⟩,hc⟩:=h₁
 have tail:∀{t:Sem Value},wpAny M A t Q E s₁→wpAny M A (t>>=fun r=>holding [r] point>>=fun _=>pure r) Q E s₁ :=
  fun ht=>wpAny_bind (wpAny_mono ht (fun r s₂ hr=>wpAny_bind (wpAny_holding (wpAny_point (wpAny_pure hr)))) fun _ _ x=>x)
 refine wpAny_bind (hkp.here ?_)
 cases hs:(args.any (·.1)||kws.any (·.1.isNone))<;>cases kp
 all_goals first
  |exact tail ((show ∀m,wpAny M A (callMarked m f (first++x.pos) x.kw) Q E s₁ from fun m=>by exact Calls.wpAny_keep hc) _)
  |exact tail hc
  |exact tail (wpAny_operating hc)
  |(refine wpAny_ite ?_;split<;>first | exact tail ((show ∀m,wpAny M A (callMarked m f (first++x.pos) x.kw) Q E s₁ from fun m=>by exact Calls.wpAny_keep hc) _) | exact tail hc)
  |(dsimp only;split<;>first | exact tail ((show ∀m,wpAny M A (callMarked m f (first++x.pos) x.kw) Q E s₁ from fun m=>by exact Calls.wpAny_keep hc) _) | exact tail hc)
end
theorem jf:typeOf (.type "str")=pure (.type "type"):=by first | rfl | kernel_rfl
theorem sub_str_str:isSubtype (.type "str") (.type "str")=pure true:=by kernel_rfl
section
variable{B:Base}{γ:Array GenState}{φ ι:Obs}{H:Hp}{s:Shared}{prog:Program}{A:Around}{env:PySem.Env}
theorem m9{v:Value}{y:List Nat}{Q:Value→Shared→Prop}{w:World}(r:Rep ι v (.str y))(q:Q (.bool true) s):wpAny (model prog w) A (call (.builtin "isinstance") [v,.type "str"]) Q aA s:=by
 refine ao (bA r) ?_;rintro t rfl _
 exact call_isinstance (isinstance_true (Tx:="str") jf sub_str_str) ⟨rfl,q⟩
theorem sub_list_str:isSubtype (.type "list") (.type "str")=pure false:=by kernel_rfl
theorem sub_tuple_str:isSubtype (.type "tuple") (.type "str")=pure false:=by kernel_rfl
theorem fY{a:Addr}{Q:Value→Shared→Prop}{w:World}(h:∃o,s.heap.get? a=some o∧o.cls=.type "list")(q:Q (.bool false) { s with toks:=s.toks+1 }):wpAny (model prog w) A (call (.builtin "isinstance") [.ref a,.type "str"]) Q aA s :=
 call_isinstance (isinstance_false_list (T:="str") rfl jf sub_list_str) ⟨h,q⟩
theorem j5{a:Addr}{Q:Value→Shared→Prop}{w:World}(h:∃o,s.heap.get? a=some o∧o.cls=.type "tuple")(q:Q (.bool false) { s with toks:=s.toks+1 }):wpAny (model prog w) A (call (.builtin "isinstance") [.ref a,.type "str"]) Q aA s :=
 call_isinstance (isinstance_false_tuple (T:="str") rfl jf sub_tuple_str) ⟨h,q⟩
theorem rC{M:Model}{h:Heap}{id:String}:∃kp,Looks M h (keeperOf (.builtin id)) kp:=⟨_,Looks.of_pure rfl⟩
end
section
variable{K:Kx}{X:Cx K}{φ ι ι':Obs}{ρ:Env}{H H':Hp}{s s':Shared}
theorem tW{pos:Pos}:SE K .dictNil (.Dict [] [] pos):=fun X φ ρ ι H s Q O w =>
 wpAny_Dict_empty (PE.yk O.I (k:=s.toks) (x:=.dict [] 0) rfl ⟨⟨rfl,rfl,rfl⟩,#[],rfl,.nil,List.nodup_nil,.inl fun e he=>nomatch he⟩ (w 0))
theorem w9(O:X.Ok φ ρ ι H s){v:Value}{y:List Nat}{Q:Value→Shared→Prop}(r:Rep ι v (.nt y))(q:Q (.bool true) s):wpAny K.M X.A (call (.builtin "isinstance") [v,.ref aD]) Q aA s :=
 ez r fun m t S _=>S.go fun a dx od e h1 h2 h4 =>
 e▸isi_call O.I.inK (fun M=>(Looks.ld (part:=none) (O.I.data _ _ h1)).andThen .now) K.D.nn (fun e=>nomatch e) q
theorem um(O:X.Ok φ ρ ι H s){v:Value}{y:List Nat}{Q:Value→Shared→Prop}(r:Rep ι v (.str y))(q:Q (.bool false) { s with toks:=s.toks+1 }):wpAny K.M X.A (call (.builtin "isinstance") [v,.ref aD]) Q aA s :=
 ao (bA r) fun t e _ =>
 e▸isn_call (P:=fun _=>True) O.I.inK (fun M=>Looks.of_pure rfl) K.D.sn (fun e=>nomatch e) trivial str_cls q
theorem nD(O:X.Ok φ ρ ι H s){v:Value}{y:List Nat}{Q:Value→Shared→Prop}(r:Rep ι v (.nt y))(q:Q (.bool false) { s with toks:=s.toks+1 }):wpAny K.M X.A (call (.builtin "isinstance") [v,.type "str"]) Q aA s :=
 ez r fun m t S _=>S.go fun a dx od e h1 h2 h4 =>
 e▸kin_callT O.I.inK (ox:=fU aD dx) (od:=od) ⟨O.I.data _ _ h1,rfl,rfl,O.I.data _ _ h2⟩ K.D.ns jf K.D.pg K.D.dc K.D.ac K.D.nc K.D.tc K.D.mc q
theorem gz{xs:List Expr}{pos:Pos}{env:PySem.Env}(h:xs.all notStar=true):(backTo pos (starEach xs env)).any (·.1)=false∧(backTo pos (starEach xs env)).all (fun x=>!x.1)=true:=by
 induction xs with
 |nil=>exact ⟨rfl,rfl⟩
 |cons x xs ih =>
  exact (eW (Bool.and_eq_true_iff.mp h).1)▸ih (Bool.and_eq_true_iff.mp h).2
theorem wB{e:ME}{c:String}{x:Expr}{p p' pos:Pos}(hg:aU K.sc "isinstance"=true)(hc:aU K.sc c=true)(hcc:c="Nonterminal"∨c="str")(hns:notStar x=true)(he:SE K e x) :
  SE K (.isinst e c) (.Call (.Name (sx "isinstance") p) [x,.Name (sx c) p'] [] pos):=fun X φ ρ ι H s Q O w =>
 wpAny_Call_ofName (fz O hg (v:=.builtin "isinstance") rfl (Mine.callWith_of (bI (gz (by simp only [List.all_cons,hns];rfl)).1 rfl (wpAny_items_cons (he.run O w fun v s1 ι1 H1 z l1 O1 r1 w1=>by
  have fin:∀{b:Bool} {kk:Nat},Q (.bool b) H1→PE K.B X.γ φ ι Q (.bool b) { s1 with toks:=kk }:=fun q=>(PE.toks O1.I bq q).mono l1 fun _ _ q=>q
  refine wpAny_items_cons ?_ rfl
  rcases hcc with rfl | rfl
  ·refine kP O1 (v:=.ref aD) hc rfl (wpAny_items_nil (wpAny_pure ⟨rC,?_⟩))
   cases z with
   |str l=>exact um O1 r1 (fin w1)
   |nt l=>exact w9 O1 r1 (fin (kk:=s1.toks) w1)
   |tup l=>exact absurd w1.1 (by decide)
   |lst l=>exact absurd w1.1 (by decide)
   |ref l=>exact absurd w1.1 (by decide)
   |_=>exact w1.elim
  ·refine fz O1 (v:=.type "str") hc rfl (wpAny_items_nil (wpAny_pure ⟨rC,?_⟩))
   cases z with
   |str l=>exact m9 r1 (fin (kk:=s1.toks) w1)
   |nt l=>exact nD O1 r1 (fin w1)
   |tup l=>exact bP (bJ r1) fun a n items e h1 h2=>e▸j5 ⟨_,O1.I.data _ _ h1,rfl⟩ (fin w1.2)
   |lst l=>exact bP (isList O1.I r1 rfl) fun a n items e h1 h2=>e▸fY ⟨_,h1,rfl⟩ (fin w1.2)
   |ref l=>exact aL w1.2.1 fun l hl=>O1.I.listAt hl fun items n ho _=>(show v=_ from r1)▸fY ⟨_,ho,rfl⟩ (fin w1.2.2)
   |_=>exact w1.elim) (eW hns)))))
inductive vW(sc:Scope):List String→List Expr→Prop
 |nil:vW sc [] []
 |cons {e:String} {es:List String} {xs:List Expr} {np p:Pos} (h:iA sc e=true) (hs:vW sc es xs):vW sc (e::es) (.FormattedValue (.Name (sx e) np) (-1) none p::xs)
theorem xr{es:List String}{xs:List Expr}(hc:vW K.sc es xs):∀(ls:List (List Nat)) (acc:List Nat) (s:Shared) (T:Str→Shared→Prop),X.Ok φ ρ ι H s→es.map ρ=ls.map (fun l=>some (V.str l)) →
  (acc++ls.flatten).length≤big→(∀s':Shared,Inv K.B X.γ φ ι H s'→(∀l∈ls,∀c∈l,c<0x110000)→T ⟨(acc++ls.flatten).toArray⟩ s')→Joins K.M X.A aA (evalEach xs X.env) ⟨acc.toArray⟩ T s:=by
 induction hc with
 |nil=>exact fun ls acc s T O he hz hT=>match ls,he with
  |[],_=>(List.append_nil acc)▸hT s O.I fun _ h=>xm (h)
 |@cons e es xs np p h1 hs ih=>exact fun ls acc s T O he hz hT=>match ls,he with
  |l::ls,he=>by
   obtain ⟨he1,he2⟩:=List.cons.inj he
   have hsz:acc.length+l.length≤sizeLine:=Nat.le_trans (Nat.le_trans (by simp) hz) (of_decide_eq_true rfl)
   have next:∀(t:Tok) (s':Shared),X.Ok φ ρ ι H s'→(∀c∈l,c<0x110000)→∃y t',Value.str ⟨l.toArray⟩ t=.str y t'∧((⟨acc.toArray⟩:Str)++y).length≤sizeLine∧Joins K.M X.A aA (evalEach xs X.env) ((⟨acc.toArray⟩:Str)++y) T s':=by
    intro t s' O' hl
    refine ⟨_,t,rfl,?_,?_⟩
    ·rw [(show ((⟨acc.toArray⟩:Str)++⟨l.toArray⟩)=⟨(acc++l).toArray⟩ from congrArg Str.mk (List.append_toArray ..))];exact Nat.le_trans (Nat.le_of_eq (by simp [Str.length])) hsz
    ·rw [(show ((⟨acc.toArray⟩:Str)++⟨l.toArray⟩)=⟨(acc++l).toArray⟩ from congrArg Str.mk (List.append_toArray ..))]
     exact ih ls (acc++l) s' T O' he2 (by simpa using hz) fun s'' I'' hls=>by
      have:=hT s'' I'' fun l' hl'=>(List.mem_cons.mp hl').elim (fun e=>e▸hl) (hls l')
      simpa using this
   refine wpAny_FormattedValue_plain (kO O h1 he1 fun v r=>?_)
   refine ao (bA r) ?_;rintro t rfl hl
   exact wpAny_formatField_str (next t s O hl) (next s.toks _ ⟨O.I.same rfl rfl rfl,O.Ev⟩ hl) (Nat.le_trans (Nat.le_of_eq rfl) (Nat.le_trans (Nat.le_add_left l.length acc.length) hsz))
theorem BB{es:List String}{x1 x2:Expr}{xs:List Expr}{pos:Pos}(hc:vW K.sc es (x1::x2::xs)):SE K (.fstr es) (.JoinedStr (x1::x2::xs) pos):=fun X φ ρ ι H s Q O ⟨ls,he,hz,q⟩ =>
 wpAny_JoinedStr (xr hc ls [] s _ O he hz fun s' I' hls=>⟨Nat.le_trans (Nat.le_trans (Nat.le_of_eq rfl) hz) (of_decide_eq_true rfl),.toks I' (pB fun c hcm=>let ⟨l,hl,hcl⟩:=List.mem_flatten.mp hcm;hls l hl c hcl) q⟩)
end
end Mine
end
section
namespace Mine
open PySem PyProof.Rows PySem.W
open scoped Classical
section
variable{B:Base}{γ:Array GenState}{φ ι:Obs}{H:Hp}{s:Shared}{prog:Program}{A:Around}{env:PySem.Env}
theorem zm:∀c<128,Unicode.upperOf c=[if 97≤c∧c≤122 then c-32 else c]:=(by decide)
theorem upper_ascii(l:List Nat)(h:∀c∈l,c<128):placed ⟨l.toArray⟩ (fun _ c=>Unicode.upperOf c)=(upper l).toArray:=by
 have e:(l.toArray.mapIdx fun i c=>(Unicode.upperOf c).toArray)=(l.map fun c=>#[if 97≤c∧c≤122 then c-32 else c]).toArray:=by
  apply Array.ext'
  simp only [Array.toList_mapIdx]
  induction l with
  |nil=>rfl
  |cons c l ih =>
   simp only [List.mapIdx_cons]
   simp only [List.map_cons]
   refine (zm c (h c List.mem_cons_self))▸?_
   have:=ih fun d hd=>h d (List.mem_cons_of_mem _ hd)
   exact (this)▸rfl
 show (l.toArray.mapIdx _).flatten=_
 refine (e)▸?_
 apply Array.ext'
 clear e h
 induction l with
 |nil=>rfl
 |cons c l ih=>dsimp only [upper] at ih ⊢;simp at ih ⊢;exact ih
theorem az.split{ι:Obs}{l:List Value}{xs ys:List V}(h:az ι l (xs++ys)):∃l1 l2,l=l1++l2∧az ι l1 xs∧az ι l2 ys:=by
 induction xs generalizing l with
 |nil=>exact ⟨[],l,rfl,.nil,h⟩
 |cons x xs ih =>
  refine aP h fun v vs rfl h1 h2=>?_
  refine aP (ih h2) ?_;rintro l1 l2 rfl h3 h4
  exact ⟨v::l1,l2,rfl,.cons h1 h3,h4⟩
theorem jT(I:Inv B γ φ ι H s){a:Addr}{l:List V}{items:Array Value}{n:Nat}{l':List V}{f:Array Value→Array Value}{k:Nat}{Q:PV}{y:V}{v:Value}(ha:H a=some (.list l))(ho:IsL s.heap a items n)
  (r:az ι (f items).toList l') (ry:Rep ι v y) (q:Q y (upd H a (.list l'))):PE B γ φ ι Q v { s with heap:=s.heap.update a (Obj.mapSeq f),toks:=k }:=by
 refine ⟨ι,_,y,.refl _,I.change (x:=.list l') ha (Heap.SameBut.update ..) (IsL.update ho f) ⟨_,_,rfl,r⟩ rfl rfl,ry,q⟩
set_option maxRecDepth 100000 in
theorem xZ{M:Model}{E:Value→Shared→Prop}{x:Str}{t:Tok}{pl:Sem Bool}{Q:Value×List Value→Shared→Prop}(q:Q (.builtin "str.upper",[.str x t]) s):wpAny M A (getMethod (.str x t) (Str.ofString "upper") pl) Q E s :=
 getMethod_builtin (T:="str") (typeIs_str s x t) F.plainAttrs_str F.slot_str_upper F.type_str_upper (fun a e=>nomatch e) q
end
section
variable{K:Kx}{X:Cx K}{φ ι ι':Obs}{ρ:Env}{H H':Hp}{s s':Shared}
inductive Kws(K:Kx):List String→List ME→List Keyword→Prop
 |nil:Kws K [] [] []
 |cons {n:String} {e:ME} {x:Expr} {p:Pos} {kn:List String} {es:List ME} {kws:List Keyword} (h:SE K e x) (hs:Kws K kn es kws):Kws K (n::kn) (e::es) (⟨some (sx n),x,p⟩::kws)
theorem oi{kn:List String}{es:List ME}{kws:List Keyword}(h:Kws K kn es kws)(pos:Pos)(env:PySem.Env) :
  (backToKw pos (keywordEach kws env)).filterMap (·.1)=kn.map sx∧(backToKw pos (keywordEach kws env)).all (fun x=>x.1.isSome)=true:=by
 induction h with
 |nil=>exact ⟨rfl,rfl⟩
 |@cons n e x p kn es kws _ _ ih=>exact ⟨congrArg (sx n::·) ih.1,ih.2⟩
theorem BZ{kn:List String}{es:List ME}{kws:List Keyword}{pos:Pos}{E:Value→Shared→Prop}(h:Kws K kn es kws):∀{ι:Obs} {H:Hp} {s:Shared} {Q:List V→Hp→Prop} {P:List Value→Shared→Prop},X.Ok φ ρ ι H s→fZ K.F es ρ H Q →
  (∀vs s' ι' H' ys,Le ι ι'→X.Ok φ ρ ι' H' s'→az ι' vs ys→kn.length=ys.length→Q ys H'→P vs s')→wpAny K.M X.A (evalAll ((backToKw pos (keywordEach kws X.env)).map (·.2))) P E s:=by
 induction h with
 |nil=>exact fun O w k=>wpAny_pure (k [] _ _ _ [] (.refl _) O .nil rfl w)
 |@cons n e x p kn es kws he _ ih =>
  intro ι H s Q P O w k
  exact wpAny_bind (m:=do let v ←eval x X.env;standAt pos;pure v) (wpAny_bind (he.run O w fun v s1 ι1 H1 y l1 O1 r1 w1=>wpAny_bind (wpAny_standAt (wpAny_pure (wpAny_bind (wpAny_holding (ih O1 w1 fun vs s2 ι2 H2 ys l2 O2 r2 e q=>wpAny_pure (k _ s2 ι2 H2 _ (l1.trans l2) O2 (.cons (r1.mono l2) r2) (congrArg Nat.succ e) q))))))))
theorem mE{E:Value→Shared→Prop}{f:Value}{first:List Value}{es:List ME}{xs:List Expr}{kn:List String}{ks:List ME}{kws:List Keyword}{pos:Pos}{Q:Value→Shared→Prop}{W:List V→List V→Hp→Prop}
  (hes:aI (EO K) es xs) (hns:xs.all notStar=true) (hks:Kws K kn ks kws) (O:X.Ok φ ρ ι H s) (w:fZ K.F es ρ H fun vs H1=>fZ K.F ks ρ H1 fun ws H2=>W vs ws H2)
  (k:∀vals kvals s' ι' H' vs ws,Le ι ι'→X.Ok φ ρ ι' H' s'→az ι' vals vs→az ι' kvals ws→kn.length=ws.length→W vs ws H' →
   (∃kp,Looks K.M s'.heap (keeperOf f) kp)∧wpAny K.M X.A (call f (first++vals) ((kn.map sx).zip kvals)) Q E s') :
  wpAny K.M X.A (callWith pos f first (backTo pos (starEach xs X.env)) (backToKw pos (keywordEach kws X.env))) Q E s :=
 let n:=oi hks pos X.env
 Mine.callWith_of (bI (gz hns).1 n.2 (pG hes hns O w fun vals s1 ι1 H1 vs l1 O1 r1 e1 w1=>BZ hks O1 w1 fun kvals s2 ι2 H2 ws l2 O2 r2 e2 w2=>n.1▸k vals kvals s2 ι2 H2 vs ws (l1.trans l2) O2 (r1.mono l2) r2 e2 w2))
theorem ig{E:Value→Shared→Prop}{f:Value}{first:List Value}{es:List ME}{xs:List Expr}{pos:Pos}{Q:Value→Shared→Prop}{W:List V→Hp→Prop}
  (hes:aI (EO K) es xs) (hns:xs.all notStar=true) (O:X.Ok φ ρ ι H s) (w:fZ K.F es ρ H W)
  (k:∀vals s' ι' H' vs,Le ι ι'→X.Ok φ ρ ι' H' s'→az ι' vals vs→W vs H'→(∃kp,Looks K.M s'.heap (keeperOf f) kp)∧wpAny K.M X.A (call f (first++vals) []) Q E s') :
  wpAny K.M X.A (callWith pos f first (backTo pos (starEach xs X.env)) []) Q E s :=
 Mine.callWith_of (bI (gz hns).1 rfl (pG hes hns O w fun vals s1 ι1 H1 vs l1 O1 r1 e1 w1=>wpAny_pure (k vals s1 ι1 H1 vs l1 O1 r1 w1)))
theorem kK{B:Base}{γ:Array GenState}{M:Model}{A:Around}{f:Value}{args:Args}{Q:PV}(h:codeAny M A (.call f args) (RP B γ φ ι Q) s):wpAny M A (call f args.pos args.kw) (PE B γ φ ι Q) aA s :=
 wpAny_call (codeAny_mono h fun r s' h=>match r,h with | .ok (.ret v),h=>h)
theorem pW{f:String}{fa:Addr}(hf:bE f=some fa)(O:X.Ok φ ρ ι H s):∃kp,Looks K.M s.heap (keeperOf (.ref fa)) kp :=
 let ⟨kp,_,h⟩:=looks_keep (M:=K.M) (aQ K.D.keep (lookup_mem hf)) O.I.inK;⟨kp,h⟩
theorem vc(O:X.Ok φ ρ ι H s){f:String}{fa:Addr}{vs:List V}{kn:List String}{ks:List V}{vals kvals:List Value}{Q:PV}
  (hf:bE f=some fa) (rv:az ι vals vs) (rk:az ι kvals ks) (hn:kn.length=ks.length) (w:aH K.F f vs kn ks H (okW Q)) :
  wpAny K.M X.A (call (.ref fa) vals ((kn.map sx).zip kvals)) (PE K.B X.γ φ ι Q) aA s :=
 kK (K.C X.A X.γ φ ι H s f fa vs kn ks vals kvals Q X.rk hf O.I rv rk hn w)
theorem BC{f:String}{fa:Addr}{es:List ME}{xs:List Expr}{p pos:Pos}(hg:aU K.sc f=true)(hf:dS.lookup f=some (.ref fa))(hfa:bE f=some fa)(hes:aI (EO K) es xs)(hns:xs.all notStar=true) :
  SE K (.call f es) (.Call (.Name (sx f) p) xs [] pos):=fun X φ ρ ι H s Q O w =>
 wpAny_Call_ofName (kP O hg hf (ig (first:=[]) hes hns O w fun vals s' ι' H' vs l O' rv w'=>⟨pW hfa O',PE.up l (vc (kn:=[]) (ks:=[]) (kvals:=[]) O' hfa rv .nil rfl w')⟩))
theorem fQ{M:Model}{h:Heap}{id:String}:∃kp,Looks M h (keeperOf (.builtin id)) kp:=⟨_,Looks.of_pure rfl⟩
theorem eZ{E:Value→Shared→Prop}{A:Around}{env:PySem.Env}{w:World}{prog:Program}{o:Expr}{name:Str}{apos pos:Pos}{xs:List Expr}{kws:List Keyword}{kn:List String}{ks:List ME}{Q:Value→Shared→Prop}(hb:cZ o=true)(hns:xs.all notStar=true)(hk:Kws K kn ks kws)
  (hf:bM (xs.length+kws.length) apos pos=true)
  (h:wpAny (model prog w) A (eval o env) (fun ov s₁=>∀pl,wpAny (model prog w) A (getMethod ov name pl) (fun fp s₂=>wpAny (model prog w) A (callWith pos fp.1 fp.2 (backTo pos (starEach xs env)) (backToKw pos (keywordEach kws env))) Q E s₂) E s₁) E s) :
  wpAny (model prog w) A (eval (.Call (.Attribute o name apos) xs kws pos) env) Q E s:=by
 simp only [arm_eval_Call,m5 hb]
 refine wpAny_bind (wpAny_mono h (fun ov s₁ h₁=>wpAny_bind (wpAny_standAt ?_)) fun _ _ e=>e)
 have hform:methodCallForm (xs.length+kws.length) (backTo pos (starEach xs env)) (backToKw pos (keywordEach kws env))=true:=by
  delta methodCallForm
  rw [(gz hns).2,(oi hk pos env).2]
  refine decide_eq_true (Nat.lt_of_lt_of_le (Nat.add_lt_add_of_lt_of_le (of_decide_eq_true (Bool.and_eq_true_iff.mp hf).2) (?_:_≤1)) (of_decide_eq_true rfl))
  split<;>decide
 delta methodCall
 exact (hform)▸wpAny_bind (wpAny_holding (wpAny_mono (h₁ _) (fun fp s₂ h₂=>wpAny_bind (wpAny_of_eq (by exact if_pos (Bool.and_eq_true_iff.mp hf).1) h₂)) fun _ _ e=>e))
theorem notAttr:cK.all (fun m=>!anyAttr m&&m !="_symbol"&&m !="_lhs"&&m !="_rhs")=true:=rfl
theorem tB{A:Around}(I:Inv K.B X.γ φ ι H s){a dx fa:Addr}{od:Obj}{mm:Str→Option Value}{p:Addr×String}{m:String}{pl:Sem Bool}{Q:Value×List Value→Shared→Prop}(hp:p∈dM)(hC:p.1∈classes)(hm:m∈cK)(hs:bE (p.2++"."++m)=some fa)
  (ha:s.heap.get? a=some (fU p.1 dx)) (hd:s.heap.get? dx=some od) (ho:NsO od mm) (hn:mm (sx m)=none) (q:Q (.ref fa,[.ref a]) s):wpAny K.M A (getMethod (.ref a) (sx m) pl) Q aA s:=by
 have h:=aQ (aQ K.D.meth hp) hm
 rw [hs] at h
 exact method_fn I.inK (C:=p.1) (ox:=fU p.1 dx) (od:=some od) ⟨ha,rfl,rfl,hd⟩ (aQ K.D.ga hC) (aQ K.D.gh hC) (Prod.mk.inj (Option.some.inj h)).1 (Prod.mk.inj (Option.some.inj h)).2 (by simp only [shadowIn,n8 ho,hn];rfl) q
theorem z6{H:Hp}{a:Addr}{c:String}(h:ni H (.ref a)=some c){G:Prop}(q:c="CFG"→∀dx f,H a=some (.inst "CFG" dx)→H dx=some (.attrs f)→G):G:=by
 delta ni at h
 dsimp only at h
 split at h
 ·rename_i dx hi
  split at h
  ·rename_i f hf
   exact q (Option.some.inj h).symm dx f hi hf
  ·injection h
 ·injection h
theorem getM{A:Around}(I:Inv K.B X.γ φ ι H s){v:Value}{y:V}{m c:String}{fa:Addr}{pl:Sem Bool}{Q:Value×List Value→Shared→Prop}(hm:m∈cK)(r:Rep ι v y)(h:ni H y=some c)(hs:bE (c++"."++m)=some fa)(q:Q (.ref fa,[v]) s) :
  wpAny K.M A (getMethod v (sx m) pl) Q aA s:=by
 have n:=jN notAttr hm
 simp only [Bool.and_eq_true,Bool.not_eq_true',bne_iff_ne] at n
 cases y with
 |nt l =>
  cases h
  exact fm r fun mm t S _ _ h5=>S.go fun a dx od e h1 h2 h4=>e▸tB I (p:=(aD,"Nonterminal")) (.head _) (.head _) hm hs (I.data _ _ h1) (I.data _ _ h2) h4 (h5 m n.1.1.2) (e▸q)
 |prod l rr =>
  cases h
  exact Dz r fun mm v1 b kk items S _ _ _ _ _ h5=>S.go fun a dx od e h1 h2 h4=>e▸tB I (p:=(bg,"Production")) (.tail _ (.head _)) (.tail _ (.head _)) hm hs (I.data _ _ h1) (I.data _ _ h2) h4 (h5 m n.1.2 n.2) (e▸q)
 |ref a =>
  refine z6 h fun hc dx f hi hf=>?_
  subst hc
  refine (show v=.ref a from r)▸I.C5 hi hf fun od mm g1 g2 g4 _ _ g5 g6=>tB I (p:=(gg,"CFG")) (.tail _ (.tail _ (.head _))) (.tail _ (.tail _ (.head _))) hm hs g1 g2 g4 (g6 m ?_) ((show v=.ref a from r)▸q)
  cases e:f m with
  |none=>rfl
  |some y=>exact absurd (g5 m y e).1 (n.1.1.1▸Bool.false_ne_true)
 |_=>injection h
theorem BA{e:ME}{m:String}{es:List ME}{kn:List String}{ks:List ME}{x:Expr}{xs:List Expr}{kws:List Keyword}{apos pos:Pos}(hm:m∈cK)(hb:cZ x=true)
  (hf:bM (xs.length+kws.length) apos pos=true) (he:SE K e x) (hes:aI (EO K) es xs) (hns:xs.all notStar=true) (hks:Kws K kn ks kws) :
  SE K (.meth e m es kn ks) (.Call (.Attribute x (sx m) apos) xs kws pos):=fun X φ ρ ι H s Q O w =>
 eZ hb hns hks hf (he.run O w fun ov s1 ι1 H1 y l1 O1 r1 w pl=>let ⟨c,hc,w⟩:=Ep w;let ⟨fa,hfa,w1⟩:=bR w;getM O1.I hm r1 hc hfa
  (mE (first:=[ov]) hes hns hks O1 w1 fun vals kvals s' ι' H' vs ws l O' rv rk hn w'=>⟨pW hfa O',PE.up (l1.trans l) (vc O' hfa (.cons (r1.mono l) rv) rk hn w')⟩))
theorem zI{m:String}{p fa:Addr}{es:List ME}{xs:List Expr}{np apos pos:Pos}(hm:dj.lookup m=some p)(hfa:bE ("CFG"++"."++m)=some fa)(hg:aU K.sc "CFG"=true)
  (hf:bM (xs.length+0) apos pos=true) (hes:aI (EO K) es xs) (hns:xs.all notStar=true):SE K (.cmeth m es) (.Call (.Attribute (.Name (sx "CFG") np) (sx m) apos) xs [] pos):=fun X φ ρ ι H s Q O w=>by
 refine ao (Option.map_eq_some_iff.mp (Prod.mk.inj (aQ K.D.cm (lookup_mem hm))).2) fun rec hrec hhd=>?_
 replace hhd:=(hfa)▸hhd
 obtain ⟨rest,rfl⟩:=List.head?_eq_some_iff.mp hhd
 refine eZ (K:=K) rfl hns (kn:=[]) (ks:=[]) .nil hf (kP O hg (v:=.ref gg) rfl fun pl=>?_)
 refine method_cls O.I.inK K.D.sga (cls_bind O.I.inK K.D.rd (Prod.mk.inj (aQ K.D.cm (lookup_mem hm))).1 (wpAny_call (cm_get (s:={ s with toks:=s.toks+1 }) O.I.inK hrec (handed_on rfl ?_))))
 have n:=O.I.new (Nat.le_refl s.heap.objs.size)
 have I1:Inv K.B X.γ φ ι H { s with heap:=s.heap.push (methodObj (.ref fa) (.ref gg)),toks:=s.toks+1 }:=O.I.keep (fun b o' e=>Heap.get?_push_of_some _ e) rfl rfl
 refine ig (first:=[]) hes hns (O.step (Le.add (o:=methodObj (.ref fa) (.ref gg)) n.i) (I1.note n (Heap.get?_push_size _ rfl))) w fun vals s' ι' H' vs l O' rv w'=>?_
 have hk:keepIn K.B.aZ (.ref fa)=true:=aQ K.D.keep (lookup_mem hfa)
 have hfo:∃o,K.B.aZ.lookup fa=some o:=by
  dsimp only [keepIn] at hk
  cases e:K.B.aZ.lookup fa with
  |some o=>exact ⟨o,rfl⟩
  |none=>simp [e] at hk
 obtain ⟨fo,hfo⟩:=hfo
 exact ⟨⟨_,(Looks.ld (part:=none) (O'.I.data _ _ (l _ _ (af ..)))).andThen ((Looks.ld (part:=none) (O'.I.inK _ _ hfo)).andThen .now)⟩,
  kK (args:=⟨vals,[]⟩) (method_call (O'.I.data _ _ (l _ _ (af ..))) (codeAny_mono (K.C X.A X.γ φ ι' H' s' _ fa (.cls "CFG"::vs) [] [] (.ref gg::vals) [] Q X.rk hfa O'.I (.cons (x:=.cls "CFG") rfl rv) .nil rfl w') fun r s'' h=>match r,h with | .ok (.ret v),h=>h.mono ((Le.add (o:=methodObj (.ref fa) (.ref gg)) n.i).trans l) fun _ _ q=>q))⟩
end
end Mine
end
section
namespace Mine
open PySem PyProof.Rows PySem.W
open scoped Classical
structure Iter(prog:Program)(B:Base)(ι₀:Obs)(l:List V)(Stl:Hp→Prop)(J:Addr)(St:Nat→Obj→Prop):Prop where
 item:∀{A:Around} {γ:Array GenState} {φ ι:Obs} {H:Hp} {s:Shared} {E:Value→Shared→Prop} {o:Obj} {i:Nat} {x:V} {Q:Option Value→Shared→Prop},A.handled=none→Le ι₀ ι→Inv B γ φ ι H s→φ J=some o→St i o→Stl H→l[i]?=some x →
  (∀v o' s',St (i+1) o'→Inv B γ (bh φ J o') ι H s'→Rep ι v x→Q (some v) s')→wpAny (model prog B.w) A (pyNext (.ref J)) Q E s
 done:∀{A:Around} {γ:Array GenState} {φ ι:Obs} {H:Hp} {s:Shared} {E:Value→Shared→Prop} {o:Obj} {Q:Option Value→Shared→Prop},A.handled=none→Le ι₀ ι→Inv B γ φ ι H s→φ J=some o→St l.length o→Stl H →
  (∀s',(∀φ₀,Le φ₀ φ→φ₀ J=none→Inv B γ φ₀ ι H s')→Q none s')→wpAny (model prog B.w) A (pyNext (.ref J)) Q E s
 self:∀{A:Around} {s:Shared} {E:Value→Shared→Prop} {o:Obj} {i:Nat} {Q:Value→Shared→Prop},s.heap.get? J=some o→St i o→Q (.ref J) s→wpAny (model prog B.w) A (pyIter (.ref J)) Q E s
 kind:∀{o:Obj} {i:Nat},St i o→∃T vs,o.cls=.type T∧o.data=.fields vs∧["enumerate","zip","dict_itemiterator","dict_reverseitemiterator","odict_iterator","itertools.zip_longest","itertools.pairwise"].contains T=false
theorem yt{M:Model}{A:Around}{E:Value→Shared→Prop}{s:Shared}{t:Expr}{J:Addr}{v:Value}{o:Obj}{T:String}{vs:Array Value}{Q:Unit→Shared→Prop}(ho:s.heap.get? J=some o)(hc:o.cls=.type T)(hd:o.data=.fields vs)
  (hT:["enumerate","zip","dict_itemiterator","dict_reverseitemiterator","odict_iterator","itertools.zip_longest","itertools.pairwise"].contains T=false) (hQ:Q () s):wpAny M A (letOwnedTupleGo t (.ref J) v) Q E s:=by
 have inner:wpAny M A (match ((.ref J:Value),v) with
   |(.ref r,.ref a)=>do
    let o ←load r
    match o.cls,o.data with
    |.type n,.fields vs =>
     if ["enumerate","zip","dict_itemiterator","dict_reverseitemiterator","odict_iterator","itertools.zip_longest","itertools.pairwise"].contains n&&vs[0]?==some (rawInt a) then
      rule "for.unpacks-the-owned-tuple"
      updateField r 0 .none
    |_,_=>pure ()
   |_=>(pure ():Sem Unit)) Q E s:=by
  cases v with
  |ref a =>
   refine wpAny_bind (wpAny_load ho ?_)
   rw [hc,hd]
   exact wn (fun h=>Bool.false_ne_true (hT.symm.trans (Bool.and_eq_true_iff.mp h).1)) (wpAny_pure hQ)
  |_=>exact wpAny_pure hQ
 cases t<;>first | exact wpAny_pure hQ | exact inner
theorem Le.bh{φ:Obs}{a:Addr}{o:Obj}(h:φ a=none):Le φ (bh φ a o):=Le.add h
theorem F1(φ:Obs)(a:Addr)(o o':Obj):bh (bh φ a o) a o'=bh φ a o':=by
 funext b;delta bh;by_cases h:b=a<;>simp [h]
section
variable{B:Base}{γ:Array GenState}{φ ι:Obs}{H:Hp}{s:Shared}{prog:Program}{A:Around}
theorem Inv.turn{J:Addr}{o o':Obj}{h':Heap}{k:Nat}(I:Inv B γ φ ι H s)(h0:φ J=some o)(hs:Heap.SameBut J s.heap h')(h:h'.get? J=some o'):Inv B γ (bh φ J o') ι H { s with heap:=h',toks:=k } :=
 I.frame (s':={ s with heap:=h',toks:=k }) h0 hs h rfl rfl
theorem Inv.over{J:Addr}{o:Obj}{h':Heap}(I:Inv B γ φ ι H s)(h0:φ J=some o)(hx:Heap.ExtBut J s.heap h'):∀φ₀,Le φ₀ φ→φ₀ J=none→Inv B γ φ₀ ι H { s with heap:=h' } :=
 fun φ₀ hl hn=>I.leave hl hn ((h0)▸Option.some_ne_none _) hx rfl rfl
noncomputable def HQ(l:Addr)(i:Nat):Obj→Prop:=fun o=>o.cls=.type "list_iterator"∧o.data=.fields #[.ref l,.int i 0]
theorem om{ι₀:Obs}{l:List V}{Stl:Hp→Prop}{a J:Addr}(hl:∀{γ:Array GenState} {φ ι:Obs} {H:Hp} {s:Shared},Le ι₀ ι→Inv B γ φ ι H s→Stl H→∃items n,IsL s.heap a items n∧az ι items.toList l) :
  Iter prog B ι₀ l Stl J (fun i=>HQ a i) where
 item:=by
  intro A γ φ ι H s E o i x Q hh le I hn hst hs hx hQ
  refine ez (hl le I hs) fun items n h1 h2=>?_
  refine ao (h2.get hx) fun v hv rv=>?_
  refine wpAny_pyNext_list_item (i:=i) (l:=a) ⟨o,I.fr _ _ hn,hst.1,hst.2⟩ ⟨_,h1,rfl,n,rfl⟩ ((Array.getElem?_toList)▸hv) fun h' hi hsb=>?_
  refine br hi fun o' ho' hc' hd'=>?_
  exact hQ v o' _ ⟨hc',hd'⟩ (I.turn (k:=s.toks) hn hsb ho') rv
 done:=by
  intro A γ φ ι H s E o Q hh le I hn hst hs hQ
  refine ez (hl le I hs) fun items n h1 h2=>?_
  have hlen:=h2.length
  refine wpAny_pyNext_list_end (i:=l.length) (l:=a) hh ⟨o,I.fr _ _ hn,hst.1,hst.2⟩ ⟨_,h1,rfl,n,rfl⟩ ((Array.getElem?_toList)▸List.getElem?_eq_none (by solve_by_elim (maxDepth:=3) [Nat.le_antisymm,Nat.le_of_lt_succ,Nat.le_of_not_lt,Nat.lt_of_not_le,Nat.le_of_not_le,Nat.succ_le_of_lt,Nat.le_of_eq,Nat.lt_succ_of_le])) fun h' hx=>?_
  exact hQ _ (I.over hn hx)
 self:=fun {A s E o i Q} ho hst hQ=>wpAny_pyIter_listiter (i:=i) (l:=a) ⟨o,ho,hst.1,hst.2⟩ hQ
 kind:=fun hst=>⟨_,_,hst.1,hst.2,rfl⟩
noncomputable def G5(l:Addr)(i:Nat):Obj→Prop:=fun o=>o.cls=.type "tuple_iterator"∧o.data=.fields #[.ref l,.int i 0]
theorem iter_tuple{ι₀:Obs}{l:List V}{Stl:Hp→Prop}{a J:Addr}{items:Array Value}{n:Nat}(hl:ι₀ a=some { cls:=.type "tuple",data:=.seq items n })(hr:az ι₀ items.toList l) :
  Iter prog B ι₀ l Stl J (fun i=>G5 a i) where
 item:=by
  intro A γ φ ι H s E o i x Q hh le I hn hst hs hx hQ
  refine ao (hr.get hx) fun v hv rv=>?_
  refine wpAny_pyNext_tuple_item (i:=i) (t:=a) ⟨o,I.fr _ _ hn,hst.1,hst.2⟩ ⟨_,I.data _ _ (le _ _ hl),rfl,n,rfl⟩ ((Array.getElem?_toList)▸hv) fun h' hi hsb=>?_
  refine br hi fun o' ho' hc' hd'=>?_
  exact hQ v o' _ ⟨hc',hd'⟩ (I.turn (k:=s.toks) hn hsb ho') (rv.mono le)
 done:=by
  intro A γ φ ι H s E o Q hh le I hn hst hs hQ
  have hlen:=hr.length
  refine wpAny_pyNext_tuple_end (i:=l.length) (t:=a) hh ⟨o,I.fr _ _ hn,hst.1,hst.2⟩ ⟨_,I.data _ _ (le _ _ hl),rfl,n,rfl⟩ ((Array.getElem?_toList)▸List.getElem?_eq_none (by solve_by_elim (maxDepth:=3) [Nat.le_antisymm,Nat.le_of_lt_succ,Nat.le_of_not_lt,Nat.lt_of_not_le,Nat.le_of_not_le,Nat.succ_le_of_lt,Nat.le_of_eq,Nat.lt_succ_of_le])) fun h' hx=>?_
  exact hQ _ (I.over hn hx)
 self:=fun {A s E o i Q} ho hst hQ=>wpAny_pyIter_tupleiter (i:=i) (t:=a) ⟨o,ho,hst.1,hst.2⟩ hQ
 kind:=fun hst=>⟨_,_,hst.1,hst.2,rfl⟩
noncomputable def Hv(lo hi:Int)(i:Nat):Obj→Prop:=fun o=>o={ cls:=.type "range_iterator",dict:=none,data:=.fields #[rawInt (lo+i),rawInt (max 0 (hi-lo)-i),rawInt 1],slots:=#[] }
theorem ue{ι₀:Obs}{lo hi:Int}{Stl:Hp→Prop}{J:Addr} :
  Iter prog B ι₀ ((List.range (hi-lo).toNat).map fun k:Nat=>V.int (lo+(k:Int))) Stl J (fun i=>Hv lo hi i) where
 item:=by
  intro A γ φ ι H s E o i x Q hh le I hn hst hs hx hQ
  have hi':i<(hi-lo).toNat:=by have:=(List.getElem?_eq_some_iff.mp hx).1;simpa using this
  have hxe:x=.int (lo+(i:Int)):=by
   simp only [List.getElem?_map,List.getElem?_range hi'] at hx
   simp at hx;exact hx.symm
  subst hxe
  have ho:=I.fr J o hn
  rw [show o=_ from hst] at ho
  refine wpAny_pyNext_range_item (x:=lo+i) (left:=max 0 (hi-lo)-i) (step:=1) ho (by omega) fun h' hit hsb=>?_
  refine hQ _ _ _ ?_ (I.turn (k:=s.toks+1) hn hsb hit) bV
  show _=_
  simp only [(show lo+(i:Int)+1=lo+((i+1:Nat):Int) from by lia),(show max 0 (hi-lo)-(i:Int)-1=max 0 (hi-lo)-((i+1:Nat):Int) from by lia)]
 done:=by
  intro A γ φ ι H s E o Q hh le I hn hst hs hQ
  have ho:=I.fr J o hn
  simp only [List.length_map,List.length_range] at hst
  rw [show o=_ from hst] at ho
  refine wpAny_pyNext_range_end (x:=lo+(hi-lo).toNat) (left:=max 0 (hi-lo)-(hi-lo).toNat) (step:=1) hh ho (by omega) fun h' hx=>?_
  exact hQ _ (I.over hn hx)
 self:=fun {A s E o i Q} ho hst hQ=>wpAny_pyIter_rangeiter (x:=lo+i) (left:=max 0 (hi-lo)-i) (step:=1) (by rw [show o=_ from hst] at ho;exact ho) hQ
 kind:=fun {o i} hst=>by
  subst hst;exact ⟨"range_iterator",_,rfl,rfl,(by rfl)⟩
theorem aI.all{α β:Type}{R:α→β→Prop}{as:List α}{bs:List β}(x:aI R as bs){n:Nat}:aI R (as.eraseIdx n) (bs.eraseIdx n):=by
 induction x generalizing n with
 |nil=>exact .nil
 |cons h t ih =>
  cases n with
  |zero=>exact t
  |succ n=>exact .cons h ih
theorem aI.snoc{α β:Type}{R:α→β→Prop}{as:List α}{bs:List β}(x:aI R as bs){a:α}{b:β}(h:R a b):aI R (as++[a]) (bs++[b]):=by
 induction x with
 |nil=>exact .cons h .nil
 |cons h1 _ ih=>exact .cons h1 ih
theorem wK{α β:Type}{R:α→β→Prop}(next:Nat→Nat):∀(n k:Nat) (as:List α) (bs:List β) (oa:Array α) (ob:Array β),aI R as bs→aI R oa.toList ob.toList→aI R (pickOrder.go next n k as oa).toList (pickOrder.go next n k bs ob).toList:=by
 intro n
 induction n with
 |zero=>intro k as bs oa ob _ h;exact h
 |succ n ih =>
  intro k as bs oa ob h h2
  have hl:=h.length
  cases hb:bs[next k%bs.length]? with
  |none =>
   have:as[next k%as.length]?=none:=by rw [hl];rw [List.getElem?_eq_none_iff] at hb ⊢;exact N.b4 hl hb
   rw [pY this,pY hb];exact h2
  |some y =>
   refine ao (h.kU hb) fun x hx hr=>?_
   rw [pX (hl▸hx),pX hb,hl]
   exact ih _ _ _ _ _ h.all (by simpa using h2.snoc hr)
theorem gK{α β:Type}{R:α→β→Prop}(next:Nat→Nat){as:Array α}{bs:Array β}(h:aI R as.toList bs.toList):aI R (pickOrder next as).toList (pickOrder next bs).toList:=by
 delta pickOrder;exact ((show as.size=bs.size from by exact h.length))▸wK next _ _ _ _ _ _ h .nil
def HV(a:Addr)(n ep i:Nat)(o:Obj):Prop:=o.cls=.type "dict_keyiterator"∧o.data=.fields #[.ref a,.int i 0,.int n 0,.int ep 0]
theorem w5{ι₀:Obs}{es:List (V×V)}{ep:Nat}{Stl:Hp→Prop}{a J:Addr}(hl:∀{γ:Array GenState} {φ ι:Obs} {H:Hp} {s:Shared},Le ι₀ ι→Inv B γ φ ι H s→Stl H→∃o en,s.heap.get? a=some o∧o.data=.dict en ep∧aI (gy B.w ι) en.toList es) :
  Iter prog B ι₀ (es.map (·.1)) Stl J (HV a es.length ep) where
 item:=by
  intro A γ φ ι H s E o i x Q hh le I hn hst hs hx hQ
  refine aP (hl le I hs) fun od en h1 h2 h3=>?_
  have hlen:en.size=es.length:=by exact h3.length
  rw [List.getElem?_map,Option.map_eq_some_iff] at hx
  refine ao hx ?_;clear hx;rintro e he rfl
  refine jF (h3.kU he) fun en1 g1 g2 g3 _=>?_
  refine ny ⟨o,I.fr _ _ hn,hst.1,hst.2⟩ h1 h2 hlen ((Array.getElem?_toList)▸g1) fun h' hi hsb=>?_
  refine br hi fun o' ho' hc' hd'=>?_
  exact hQ _ o' _ ⟨hc',hd'⟩ (I.turn (k:=s.toks) hn hsb ho') g3
 done:=by
  intro A γ φ ι H s E o Q hh le I hn hst hs hQ
  refine aP (hl le I hs) fun od en h1 h2 h3=>?_
  have hlen:en.size=es.length:=by exact h3.length
  rw [List.length_map] at hst
  refine qA hh ⟨o,I.fr _ _ hn,hst.1,hst.2⟩ h1 h2 hlen (Array.getElem?_eq_none (by solve_by_elim (maxDepth:=3) [Nat.le_antisymm,Nat.le_of_lt_succ,Nat.le_of_not_lt,Nat.lt_of_not_le,Nat.le_of_not_le,Nat.succ_le_of_lt,Nat.le_of_eq,Nat.lt_succ_of_le])) fun h' hx=>hQ _ (I.over hn hx)
 self:=fun {A s E o i Q} ho hst hQ=>wpAny_pyIter_keyiter ⟨o,ho,hst.1,hst.2⟩ hQ
 kind:=fun hst=>⟨_,_,hst.1,hst.2,rfl⟩
def uM(B:Base)(ι₀:Obs)(Stl:Hp→Prop)(a:Addr)(es:List V)(k:aK):Prop:=∀{γ:Array GenState} {φ ι:Obs} {H:Hp} {s:Shared},Le ι₀ ι→Inv B γ φ ι H s→Stl H →
 ∃o en,s.heap.get? a=some o∧o.data=.set en k.1 k.2∧k.2.fits en.size=true∧en.size=es.length∧aI (iS B.w ι) en.toList es
theorem uf{ι₀:Obs}{es:List V}{k:aK}{Stl:Hp→Prop}{a J T:Addr}{l:List Nat}(hl:uM B ι₀ Stl a es k)(hT:ι₀ T=some { cls:=.type "tuple",data:=.seq (l.map fun (i:Nat)=>Value.int i 0).toArray }){xs:List V}(hx:aI (fun p x=>es[p]?=some x) l xs) :
  Iter prog B ι₀ xs Stl J (fun i=>dF (.ref T) a i es.length k.1) where
 item:=by
  intro A γ φ ι H s E o i x Q hh le I hn hst hs hx0 hQ
  refine qJ (hl le I hs) fun od en h1 h2 h3 h4 h5=>?_
  refine ao (hx.kU hx0) fun p hp he=>?_
  refine br (h5.kU he) fun e g1 g2 g3=>?_
  refine nv (p:=p) (tk:=0) (I.fr _ _ hn) hst h1 h2 h3 h4 (I.data _ _ (le _ _ hT)) rfl (by simp [hp]) ((Array.getElem?_toList)▸g1) fun h' o' ho' hs' hsb=>?_
  exact hQ _ o' _ hs' (I.turn (k:=s.toks) hn hsb ho') g3
 done:=by
  intro A γ φ ι H s E o Q hh le I hn hst hs hQ
  refine qJ (hl le I hs) fun od en h1 h2 h3 h4 h5=>?_
  refine qt hh (I.fr _ _ hn) hst h1 h2 h3 h4 (I.data _ _ (le _ _ hT)) rfl (Array.getElem?_eq_none (by simp [hx.length])) fun h' hx=>hQ _ (I.over hn hx)
 self:=fun {A s E o i Q} ho hst hQ=>fP ho hst hQ
 kind:=fun hst=>⟨_,_,hst.1,hst.2,rfl⟩
theorem wY{ι₀:Obs}{es:List V}{k:aK}{Stl:Hp→Prop}{a J:Addr}(hb:B.w.params.followText "set-order"=true)(hl:uM B ι₀ Stl a es k) :
  Iter prog B ι₀ (pickOrder (B.w.params.setOrder a k.1) es.toArray).toList Stl J (fun i=>dF (.int (0:Nat) 0) a i es.length k.1) where
 item:=by
  intro A γ φ ι H s E o i x Q hh le I hn hst hs hx0 hQ
  refine qJ (hl le I hs) fun od en h1 h2 h3 h4 h5=>?_
  refine br ((gK (B.w.params.setOrder a k.1) (as:=en) (bs:=es.toArray) h5).kU hx0) fun e g1 g2 g3=>?_
  refine qp (I.fr _ _ hn) hst h1 h2 h3 h4 hb ((Array.getElem?_toList)▸g1) fun h' o' ho' hs' hsb=>?_
  exact hQ _ o' _ hs' (I.turn (k:=s.toks) hn hsb ho') g3
 done:=by
  intro A γ φ ι H s E o Q hh le I hn hst hs hQ
  refine qJ (hl le I hs) fun od en h1 h2 h3 h4 h5=>?_
  have hlen:=(gK (B.w.params.setOrder a k.1) (as:=en) (bs:=es.toArray) h5).length
  refine rY hh (I.fr _ _ hn) hst h1 h2 h3 h4 hb (Array.getElem?_eq_none (by solve_by_elim (maxDepth:=3) [Nat.le_antisymm,Nat.le_of_lt_succ,Nat.le_of_not_lt,Nat.lt_of_not_le,Nat.le_of_not_le,Nat.succ_le_of_lt,Nat.le_of_eq,Nat.lt_succ_of_le])) fun h' hx=>hQ _ (I.over hn hx)
 self:=fun {A s E o i Q} ho hst hQ=>fP ho hst hQ
 kind:=fun hst=>⟨_,_,hst.1,hst.2,rfl⟩
noncomputable def slotAt(t:SetTable):Nat→Nat
 |0=>0
 |i+1=>t.place.getD i 0+1
theorem jD{t:SetTable}(hr:ST.kH t.place){i:Nat}(hi:i≤t.place.size):SetTable.below t.place (slotAt t i)=i:=by
 refine bG (ST.fN t.place (slotAt t i) hr) fun b1 b2 b3=>?_
 rcases Nat.lt_trichotomy (SetTable.below t.place (slotAt t i)) i with g | g | g
 ·exfalso
  cases i with
  |zero=>exact absurd ‹_› (Nat.not_lt_zero _)
  |succ i =>
   have:=b3 i (Nat.le_of_succ_le_succ ‹_›) (by assumption)
   simp only [slotAt] at this;exact absurd ‹_› (Nat.lt_irrefl _)
 ·exact g
 ·exfalso
  have:=b2 i g
  cases i with
  |zero=>simp [slotAt] at this
  |succ i =>
   simp only [slotAt] at this
   have h2:=hr i (i+1) (Nat.le_refl _) (Nat.lt_of_lt_of_le g b1)
   exact Nat.not_le_of_lt this (Nat.succ_le_of_lt h2)
theorem wZ{ι₀:Obs}{es:List V}{k:aK}{Stl:Hp→Prop}{a J:Addr}{hs0:List Int}(hb:B.w.params.followText "set-order"=false)(hp:(!k.2.plain&&decide (es.length>1))=false)(hled:k.2.led=true)(hT:ST.Tab k.2 hs0)(hsz:hs0.length=es.length)(hl:uM B ι₀ Stl a es k) :
  Iter prog B ι₀ es Stl J (fun i=>dF (.int (slotAt k.2 i) 0) a i es.length k.1) where
 item:=by
  intro A γ φ ι H s E o i x Q hh le I hn hst hs hx0 hQ
  refine qJ (hl le I hs) fun od en h1 h2 h3 h4 h5=>?_
  refine br (h5.kU hx0) fun e g1 g2 g3=>?_
  have hi:=(List.getElem?_eq_some_iff.mp hx0).1
  have hpz:=by exact (hT.sz).trans (hsz)
  refine qq (j:=k.2.place.getD i 0) (I.fr _ _ hn) hst h1 h2 h3 h4 hb ((h4)▸hp) hled (jD hT.ri (N.b6 hpz (Nat.le_of_lt hi))) (ST.eX (N.b7 hpz hi)) ((Array.getElem?_toList)▸g1) fun h' o' ho' hs' hsb=>?_
  exact hQ _ o' _ hs' (I.turn (k:=s.toks) hn hsb ho') g3
 done:=by
  intro A γ φ ι H s E o Q hh le I hn hst hs hQ
  refine qJ (hl le I hs) fun od en h1 h2 h3 h4 h5=>?_
  have hpz:=by exact (hT.sz).trans (hsz)
  refine rZ hh (I.fr _ _ hn) hst h1 h2 h3 h4 hb ((h4)▸hp) hled (by rw [jD hT.ri (by solve_by_elim (maxDepth:=3) [Nat.le_antisymm,Nat.le_of_lt_succ,Nat.le_of_not_lt,Nat.lt_of_not_le,Nat.le_of_not_le,Nat.succ_le_of_lt,Nat.le_of_eq,Nat.lt_succ_of_le])];solve_by_elim (maxDepth:=3) [Nat.le_antisymm,Nat.le_of_lt_succ,Nat.le_of_not_lt,Nat.lt_of_not_le,Nat.le_of_not_le,Nat.succ_le_of_lt,Nat.le_of_eq,Nat.lt_succ_of_le]) fun h' hx=>hQ _ (I.over hn hx)
 self:=fun {A s E o i Q} ho hst hQ=>fP ho hst hQ
 kind:=fun hst=>⟨_,_,hst.1,hst.2,(by rfl)⟩
inductive eV(prog:Program)(B:Base)(γ:Array GenState)(φ ι:Obs)(H:Hp)(v:V):Value→Shared→Prop
 |mk {ι':Obs} {l:List V} {J:Addr} {St:Nat→Obj→Prop} {o:Obj} {s:Shared} (le:Le ι ι') (hi:bQ H v l) (It:Iter prog B ι' l (fun H'=>Still v H H') J St) (hn:φ J=none) (I:Inv B γ (bh φ J o) ι' H s) (h0:St 0 o):eV prog B γ φ ι H v (.ref J) s
theorem Inv.gk{o:Obj}{k:Nat}(I:Inv B γ φ ι H s)(hf:o.isFreed=false):φ s.heap.objs.size=none∧Inv B γ (bh φ s.heap.objs.size o) ι H { s with heap:=s.heap.push o,toks:=k }:=by
 have I':Inv B γ φ ι H { s with heap:=s.heap.push o,toks:=k }:=I.keep (fun b o' e=>Heap.get?_push_of_some _ e) rfl rfl
 exact ⟨(I.new (Nat.le_refl s.heap.objs.size)).f,I'.yl (I.new (Nat.le_refl s.heap.objs.size)) (Heap.get?_push_size _ hf)⟩
theorem Inv.made{ι0:Obs}{v:V}{l:List V}{St:Nat→Obj→Prop}{o:Obj}{k:Nat}(I:Inv B γ φ ι H s)(le:Le ι0 ι)(hf:o.isFreed=false)(hi:bQ H v l)(It:Iter prog B ι l (fun H'=>Still v H H') s.heap.objs.size St)(h0:St 0 o):eV prog B γ φ ι0 H v (.ref s.heap.objs.size) { s with heap:=s.heap.push o,toks:=k } :=
 .mk le hi It (I.gk (k:=k) hf).1 (I.gk (k:=k) hf).2 h0
theorem fX.fit{w:World}{t:SetTable}{en:Array (Int×Value)}{es:List V}(h:fX w t (en.toList.map (·.1)) es):t.fits en.size=true :=
 have hl:(en.toList.map (·.1)).length=en.size:=by simp
 fits_of h.tab (h.kinds.elim (fun g=>g.2.1▸Nat.le_trans (hl▸g.2.2) (of_decide_eq_true rfl)) fun g=>Nat.le_of_succ_le (pT h.tab.mok (hl▸g.2.2)))
theorem ur{es:List V}{l:List Nat}(hp:l.Perm (List.range es.length)):∃xs:List V,aI (fun p x=>es[p]?=some x) l xs∧xs.Perm es:=by
 have all:∀m:List Nat,(∀p∈m,p<es.length)→aI (fun p x=>es[p]?=some x) m (m.map fun p=>es.getD p .none):=by
  intro m
  induction m with
  |nil=>exact fun _=>.nil
  |cons p m ih=>exact fun h=>.cons (by show es[p]?=some (es.getD p .none);rw [List.getD_eq_getElem?_getD,List.getElem?_eq_getElem (h p List.mem_cons_self)];rfl) (ih fun q hq=>h q (List.mem_cons_of_mem _ hq))
 exact ⟨_,all l fun p hpm=>List.mem_range.mp (hp.mem_iff.mp hpm),(hp.map _).trans (.of_eq (cF es .none))⟩
theorem ug{l:List V}{a:Addr}(h:H a=some (.list l)):bQ H (.ref a) l:=by
 delta bQ;dsimp only;rw [h]
theorem uh{es:List (V×V)}{ep:Nat}{a:Addr}(h:H a=some (.dict es ep)):bQ H (.ref a) (es.map (·.1)):=by
 delta bQ;dsimp only;rw [h]
theorem oq{es l:List V}{k:aK}{a:Addr}(h:H a=some (.set es k)):bQ H (.ref a) l=l.Perm es:=by
 delta bQ;dsimp only;rw [h]
theorem wR(I:Inv B γ φ ι H s){a:Addr}{l:List V}(hl:H a=some (.list l)):wpAny (model prog B.w) A (pyIter (.ref a)) (eV prog B γ φ ι H (.ref a)) aA s :=
 ao (I.objs _ _ hl) fun o ho h=>ez h fun items n e h2=>by
  subst e
  refine wpAny_pyIter_list ⟨_,ho,rfl,n,rfl⟩ (I.made (k:=s.toks) (l:=l) (.refl _) rfl (ug hl) (om (a:=a) fun {γ φ ι' H' s'} le I' hs=>ao (I'.objs a (.list l) (Eq.trans hs hl)) fun o' ho' h=>ez h fun items' n' e h2=>by subst e;exact ⟨items',n',ho',h2⟩) ⟨rfl,rfl⟩)
theorem wU(I:Inv B γ φ ι H s){a:Addr}{es:List (V×V)}{ep:Nat}(hl:H a=some (.dict es ep)):wpAny (model prog B.w) A (pyIter (.ref a)) (eV prog B γ φ ι H (.ref a)) aA s :=
 ao (I.objs _ _ hl) fun o ho h=>ao h.2 fun en h1 h2=>by
  refine sd (I.nJ hl) ho h.1 h1 (I.made (k:=s.toks) (l:=es.map (·.1)) (.refl _) rfl (uh hl) (w5 (a:=a) (es:=es) (ep:=ep) fun {γ φ ι' H' s'} le I' hs=>ao (I'.objs a (.dict es ep) (Eq.trans hs hl)) fun o' ho' h=>ao h.2 fun en' g1 g2=>⟨o',en',ho',g1,g2.1⟩) ?_)
  rw [show es.length=en.size from h2.1.length.symm];exact ⟨rfl,rfl⟩
theorem Af(I:Inv B γ φ ι H s){a:Addr}{es:List V}{k0:aK}(hl:H a=some (.set es k0))(hz:es.length≤cG):wpAny (model prog B.w) A (pyIter (.ref a)) (eV prog B γ φ ι H (.ref a)) aA s :=
 ao (I.objs _ _ hl) fun o ho h=>br h.2 fun en h1 h2 h3=>by
  have hlen:en.size=es.length:=Array.length_toList.symm.trans h2.length
  have hat:uM B ι (fun H'=>Still (.ref a) H H') a es k0:=fun {γ φ ι' H' s'} le I' hs=>ao (I'.objs a (.set es k0) (Eq.trans hs hl)) fun o' ho' h=>br h.2 fun en' g1 g2 g3=>⟨o',en',ho',g1,g3.fit,Array.length_toList.symm.trans g2.length,g2⟩
  have hit:∀{l:List V},l.Perm es→bQ H (.ref a) l:=fun {l} h=>(oq hl).symm▸h
  refine ua ho h.1 h1 h3.fit (N.b4 hlen (Nat.le_trans hz (of_decide_eq_true rfl))) (fun hb=>?_) fun l d hp=>?_
  ·cases hx:B.w.params.followText "set-order" with
   |true=>exact I.made (k:=s.toks) (.refl _) rfl (hit (gJ (B.w.params.setOrder a k0.1) es.toArray)) (wY (a:=a) hx hat) (hlen▸⟨rfl,rfl⟩)
   |false =>
    refine I.made (k:=s.toks) (.refl _) rfl (hit (.refl _)) (wZ (a:=a) hx ?_ (h3.led.trans (hx▸rfl)) h3.tab ((List.length_map _).trans h2.length) hat) (hlen▸⟨rfl,rfl⟩)
    rw [hx,hlen] at hb
    cases hy:k0.2.plain
    ·rw [hy] at hb;simpa using hb
    ·rfl
  ·refine ao (ur (hlen▸hp)) fun xs hxs hpe=>?_
   have n0:=I.new (Nat.le_refl s.heap.objs.size)
   have I1:=(I.keep (s':={ s with drawn:=d,heap:=s.heap.push { cls:=.type "tuple",data:=.seq (l.map fun (i:Nat)=>Value.int i 0).toArray } }) (fun b o' e=>Heap.get?_push_of_some _ e) rfl rfl).note n0 (Heap.get?_push_size _ rfl)
   have k:=I1.made (k:=s.toks) (o:={ cls:=.type "set_iterator",data:=.fields #[.ref s.heap.objs.size,.int 0 0,.ref a,.int en.size 0,.int k0.1 0] }) (Le.add n0.i) rfl (hit hpe) (uf (prog:=prog) (a:=a) (T:=s.heap.objs.size) (fun {γ φ ι' H' s'} le' I' hs=>hat ((Le.add n0.i).trans le') I' hs) (af ..) hxs) (hlen▸⟨rfl,rfl⟩)
   rw [Heap.size_push] at k
   exact k
theorem g8(I:Inv B γ φ ι H s){v:V}{va:Value}(r:Rep ι va v)(he:iterable H v):wpAny (model prog B.w) A (pyIter va) (eV prog B γ φ ι H v) aA s:=by
 cases v with
 |lst l=>exact bP r fun a n items e h1 h2=>e▸wpAny_pyIter_list ⟨_,I.data _ _ h1,rfl,n,rfl⟩ (I.made (k:=s.toks) (.refl _) rfl rfl (om (a:=a) fun le I' _=>⟨items,n,I'.data _ _ (le _ _ h1),h2.mono le⟩) ⟨rfl,rfl⟩)
 |tup l=>exact bP (bJ r) fun a n items e h1 h2=>e▸wpAny_pyIter_tuple ⟨_,I.data _ _ h1,rfl,n,rfl⟩ (I.made (k:=s.toks) (.refl _) rfl rfl (iter_tuple h1 h2) ⟨rfl,rfl⟩)
 |rng lo hi =>
  refine vO r fun a t0 t1 t2 e h1 hb=>?_
  subst e
  have hsz:Builtin.Range.rangeSize lo hi 1=max 0 (hi-lo):=by rw [rangeSize_one];split<;>omega
  have b1:∀{i:Int},i≤big→i<2^62:=fun h=>Int.lt_of_le_of_lt h (of_decide_eq_true rfl)
  have b2:∀{i:Int},0≤i→-2^62≤i:=fun h=>Int.le_trans (of_decide_eq_true rfl) h
  refine wpAny_pyIter_range (I.data _ _ h1) (small_one (b2 hb.1.1) (b1 hb.1.2) (b2 hb.2.1) (b1 hb.2.2)) (I.made (k:=s.toks) (.refl _) rfl rfl (ue (lo:=lo) (hi:=hi)) ?_)
  show _=_
  rw [hsz];simp
 |ref a =>
  have e:va=.ref a:=r
  subst e
  cases h:H a with
  |none=>delta iterable at he;dsimp only at he;rw [h] at he;exact he.elim
  |some x =>
   delta iterable at he;dsimp only at he;rw [h] at he
   cases x with
   |list l=>exact wR I h
   |dict es ep=>exact wU I h
   |set es k=>exact Af I h he.1
   |_=>exact he.elim
 |_=>exact he.elim
end
end Mine
end
section
namespace Mine
open PySem PyProof.Rows PySem.W
open scoped Classical
section
variable{K:Kx}{X:Cx K}{φ ι ι':Obs}{ρ:Env}{H H':Hp}{s s':Shared}
theorem yj{ι:Obs}{l:List Value}(r:az ι l []):l=[]:=r
theorem eE{ι:Obs}{l:List Value}{a:V}{C:Prop}(r:az ι l [a])(k:∀x,l=[x]→Rep ι x a→C):C:=let ⟨x,_,e,h,e'⟩:=r;k x (by rw [e,yj e']) h
theorem qP{ι:Obs}{l:List Value}{a b:V}{C:Prop}(r:az ι l [a,b])(k:∀x y,l=[x,y]→Rep ι x a→Rep ι y b→C):C:=let ⟨x,_,e,h,r⟩:=r;eE r fun y e' h'=>k x y (by rw [e,e']) h h'
set_option maxRecDepth 100000 in
theorem Cr{A:Around}{m:BM}(I:Inv K.B X.γ φ ι H s){v:Value}{y:V}{pl:Sem Bool}{Q:Value×List Value→Shared→Prop}(r:Rep ι v y)(h:BmK H y m)(q:Q (.builtin m.blt,[v]) s):wpAny K.M A (getMethod v (sx m.name) pl) Q aA s:=by
 cases h with
 |append hl=>exact (show v=.ref _ from r)▸I.listAt hl fun _ _ ho _=>getMethod_builtin (T:="list") ⟨_,ho,rfl⟩ F.plainAttrs_list F.slot_list_append F.type_list_append (fun _ e=>⟨_,Value.ref.inj e▸ho,rfl⟩) ((show v=.ref _ from r)▸q)
 |pop hl=>exact (show v=.ref _ from r)▸I.listAt hl fun _ _ ho _=>getMethod_builtin (T:="list") ⟨_,ho,rfl⟩ F.plainAttrs_list F.slot_list_pop F.type_list_pop (fun _ e=>⟨_,Value.ref.inj e▸ho,rfl⟩) ((show v=.ref _ from r)▸q)
 |get hl=>exact (show v=.ref _ from r)▸I.dictAt hl fun _ ho _ hc hd=>getMethod_builtin (T:="dict") ⟨_,ho,hc⟩ F.plainAttrs_dict F.slot_dict_get F.type_dict_get (fun _ e=>⟨_,Value.ref.inj e▸ho,hd⟩) ((show v=.ref _ from r)▸q)
 |setdefault hl=>exact (show v=.ref _ from r)▸I.dictAt hl fun _ ho _ hc hd=>getMethod_builtin (T:="dict") ⟨_,ho,hc⟩ F.plainAttrs_dict F.slot_dict_setdefault F.type_dict_setdefault (fun _ e=>⟨_,Value.ref.inj e▸ho,hd⟩) ((show v=.ref _ from r)▸q)
 |add hl=>exact (show v=.ref _ from r)▸I.setAt hl fun _ ho hc hd=>getMethod_builtin (T:="set") ⟨_,ho,hc⟩ F.plainAttrs_set F.slot_set_add F.type_set_add (fun _ e=>⟨_,Value.ref.inj e▸ho,hd⟩) ((show v=.ref _ from r)▸q)
 |update hl=>exact (show v=.ref _ from r)▸I.setAt hl fun _ ho hc hd=>getMethod_builtin (T:="set") ⟨_,ho,hc⟩ F.plainAttrs_set F.slot_set_update F.type_set_update (fun _ e=>⟨_,Value.ref.inj e▸ho,hd⟩) ((show v=.ref _ from r)▸q)
 |upper=>exact ao (bA r) fun t e _=>e▸xZ (e▸q)
theorem Dw{A:Around}{k:Nat}(R:bx A k):A.in1.units+10<cLine:=N.l2 (N.l4 R.u0 (of_decide_eq_true rfl))
theorem iF{n:Nat}(h:n≤big):n≤sizeLine:=Nat.le_trans h (by decide)
theorem cy{ι:Obs}{items:Array Value}{l:List V}(h:az ι items.toList l):items.size=l.length:=by simpa using h.length
theorem CN{l:List Nat}(h:l.length≤big):(upper l).length≤sizeLine:=by simpa only [upper,List.length_map] using iF h
section
variable{B:Base}{γ:Array GenState}{prog:Program}{A:Around}{vals:List Value}{Q:PV}{a:Addr}
theorem xS(I:Inv B γ φ ι H s){l:List V}{x:V}(hl:H a=some (.list l))(hz:l.length≤big)(rv:az ι vals [x])(q:Q .none (upd H a (.list (l++[x])))):wpAny (model prog B.w) A (call (.builtin "list.append") (.ref a::vals) []) (PE B γ φ ι Q) aA s :=
 eE rv fun u e ru=>e▸I.listAt hl fun items n ho hi=>call_meets F.slot_list_append ⟨_,ho,rfl⟩ F.entry_list_append (F.args_list_append_2 _ _) (list_append a items n u (cy hi▸iF hz)) ⟨ho,jT I (k:=s.toks) hl ho (by simpa using hi.append (.one ru)) fG q⟩
theorem Fo(I:Inv B γ φ ι H s){r:List V}{x:V}(hl:H a=some (.list (r++[x])))(hz:(r++[x]).length≤big)(rv:az ι vals [])(q:Q x (upd H a (.list r))):wpAny (model prog B.w) A (call (.builtin "list.pop") (.ref a::vals) []) (PE B γ φ ι Q) aA s:=by
 cases yj rv
 refine I.listAt hl fun items n ho hi=>?_
 obtain ⟨il⟩:=items
 have hs:=iF (cy hi▸hz)
 obtain ⟨l1,l2,e,h1,h2⟩:=az.split hi
 refine eE h2 fun u e2 ru=>?_
 subst e2
 simp only at e;subst e
 exact call_meets F.slot_list_pop ⟨_,ho,rfl⟩ F.entry_list_pop (F.args_list_pop_1 _) (MeetsSeq.list_pop_last a _ n u (by simp) hs) ⟨ho,jT I (k:=s.toks) hl ho (by simpa [List.eraseIdx_append_of_length_le] using h1) ru q⟩
theorem Cq(I:Inv B γ φ ι H s){r:List V}{x:V}(hl:H a=some (.list (x::r)))(hz:(x::r).length≤big)(rv:az ι vals [.int 0])(q:Q x (upd H a (.list r))):wpAny (model prog B.w) A (call (.builtin "list.pop") (.ref a::vals) []) (PE B γ φ ι Q) aA s:=by
 refine eE rv fun u e2 ru=>?_
 subst e2
 obtain ⟨t,rfl⟩:=ru
 refine I.listAt hl fun items n ho hi=>?_
 obtain ⟨il⟩:=items
 have hs:=iF (cy hi▸hz)
 obtain ⟨w0,wr,e,rw0,hr⟩:=hi
 simp only at e;subst e
 exact call_meets F.slot_list_pop ⟨_,ho,rfl⟩ F.entry_list_pop (F.args_list_pop_2 _ _) (MeetsSeq.list_pop_at a _ n 0 t 0 w0 (by decide) (by simp [seqIndex?]) (by rfl) hs) ⟨ho,jT I (k:=s.toks) hl ho (by simpa using hr) rw0 q⟩
theorem Fp(R:bx A 0)(I:Inv B γ φ ι H s){es:List (V×V)}{ep:Nat}{key d:V}(hl:H a=some (.dict es ep))(hk:isAtoms key=true)(hes:∀e∈es,isAtoms e.1=true)(rv:az ι vals [key,d])(q:Q ((aE es key).getD d) H):wpAny (model prog B.w) A (call (.builtin "dict.get") (.ref a::vals) []) (PE B γ φ ι Q) aA s:=by
 refine qP rv fun u u2 e ru rd=>e▸I.dictAt hl fun o ho hr _ _=>?_
 obtain ⟨b,rfl,his⟩:=yc (prog:=prog) I ru hk
 obtain ⟨xs,h1,h2⟩:=qT (prog:=prog) I.data ho hr hes
 refine call_meetsIn F.slot_dict_get h1.typeIs F.entry_dict_get (F.args_dict_get_3 _ _ _) (meetsH_dict_get_default (aG prog B.w) a b (I.nJ hl) u2) ⟨Dw R,key,xs,his,h1,?_⟩
 refine (jr h2 key).elim (fun h=>h.2▸.toks I rd (by rw [h.1] at q;exact q)) fun h=>bP h fun y b' v e1 e2 rv=>e2▸.toks I rv (by rw [e1] at q;exact q)
theorem nF(I:Inv B γ φ ι H s){es:List (V×V)}{ep:Nat}{key d:V}(hl:H a=some (.dict es ep))(hk:isStr key=true)(hes:∀e∈es,isStr e.1=true)(hz:es.length≤big)(rv:az ι vals [key,d])(q:∀H',(if (aE es key).isSome then H'=H else ∃ep,H'=upd H a (.dict (dput es key d) ep))→Q ((aE es key).getD d) H'):wpAny (model prog B.w) A (call (.builtin "dict.setdefault") (.ref a::vals) []) (PE B γ φ ι Q) aA s:=by
 refine qP rv fun u u2 e ru rd=>e▸I.dictAt hl fun o ho hr _ _=>?_
 obtain ⟨l,t,rfl,rfl,hl',his⟩:=dQ (prog:=prog) (B:=B) ru hk
 obtain ⟨kvs,h1,h2⟩:=uJ (prog:=prog) ho hr hes
 refine call_meetsIn F.slot_dict_setdefault h1.typeIs F.entry_dict_setdefault (F.args_dict_setdefault_3 _ _ _) (kt_meets_setdefault (PySem.strKind prog B.w) a his (I.nJ hl) u2) ⟨kvs,h1,(h2.length)▸iF hz,fun v hv=>?_,fun hv h' d' sb=>?_⟩<;>rcases ir h2 l with ⟨e1,e2⟩ | ⟨y,v',e1,e2,rv⟩<;>replace hv:=(e2).symm.trans hv<;>cases hv<;>rw [e1] at q
 ·exact .toks I rv (q H rfl)
 ·obtain ⟨o',ep',ho',hr'⟩:=mV d' (jv h2 hl' rd) (bF (P:=fun v=>isStr v=true) hes hk)
  exact ⟨ι,_,d,.refl _,I.change (x:=.dict (dput es (.str l) d) ep') hl sb ho' hr' rfl rfl,rd,q _ ⟨ep',rfl⟩⟩
theorem GZ(l:List Nat)(hc:∀c∈l,c<128):∀c∈upper l,c<0x110000:=fun c hcm=>ao (List.mem_map.mp hcm) fun d hd e=>by
 have h:d<0x110000:=Nat.lt_trans (hc d hd) (of_decide_eq_true rfl)
 subst e
 split
 ·exact Nat.lt_of_le_of_lt (Nat.sub_le ..) h
 ·exact h
theorem A1(I:Inv B γ φ ι H s){l:List Nat}{v:Value}(r:Rep ι v (.str l))(hc:∀c∈l,c<128)(hz:l.length≤big)(rv:az ι vals [])(q:Q (.str (upper l)) H):wpAny (model prog B.w) A (call (.builtin "str.upper") (v::vals) []) (PE B γ φ ι Q) aA s:=by
 cases yj rv
 refine ao (bA r) fun t e _=>?_
 subst e
 have hu:=upper_ascii _ hc
 refine call_gives F.slot_str_upper (typeIs_str _ _ _) F.entry_str_upper (F.args_str_upper_1 _) (gives_str_upper _ t (hu▸decide_eq_false (Nat.not_lt.mpr (CN hz)))) (hu.symm▸⟨CN hz,.toks I (pB (GZ l hc)) q⟩)
end
theorem Cs{m:BM}(O:X.Ok φ ρ ι H s){v:Value}{y:V}{vs:List V}{vals:List Value}{Q:PV}(r:Rep ι v y)(rv:az ι vals vs)(w:BmW H Q y vs m):wpAny K.M X.A (call (.builtin m.blt) (v::vals) []) (PE K.B X.γ φ ι Q) aA s:=by
 have I:=O.I
 cases w with
 |append hl hz q=>exact (show v=.ref _ from r)▸xS I hl hz rv q
 |pop hl hz q=>exact (show v=.ref _ from r)▸Fo I hl hz rv q
 |pop0 hl hz q=>exact (show v=.ref _ from r)▸Cq I hl hz rv q
 |get hl hk hes q=>exact (show v=.ref _ from r)▸Fp X.r0 I hl hk hes rv q
 |setdefault hl hk hes hz q=>exact (show v=.ref _ from r)▸nF I hl hk hes hz rv q
 |add hl hx hz hz4 q=>exact (show v=.ref _ from r)▸eE rv fun u e ru=>e▸AV (Dw X.r0) I ru hl hx hz hz4 fun s' es' k' hp I'=>.here I' fG (q es' k' hp)
 |update hl hne hb hstr hz q=>exact (show v=.ref _ from r)▸eE rv fun u e ru=>e▸(show u=.ref _ from ru)▸AU I hl hb hne hstr hz fun s' gs k' hn hm I'=>.here I' fG (q gs k' hn hm)
 |upper hc hz q=>exact A1 I r hc hz rv q
theorem Hh{m:BM}{e:ME}{es:List ME}{x:Expr}{xs:List Expr}{apos pos:Pos}(hb:cZ x=true)(hf:bM (xs.length+0) apos pos=true)(he:SE K e x)(hes:aI (EO K) es xs)(hns:xs.all notStar=true) :
  SE K (.bm m e es) (.Call (.Attribute x (sx m.name) apos) xs [] pos):=fun X φ ρ ι H s Q O w =>
 eZ (K:=K) hb hns (kn:=[]) (ks:=[]) .nil hf (he.run O w fun ov s1 ι1 H1 y l1 O1 r1 w1 pl=>Cr O1.I r1 w1.1 (ig (first:=[ov]) hes hns O1 w1.2 fun vals s' ι' H' vs l O' rv w'=>⟨fQ,PE.up (l1.trans l) (Cs O' (r1.mono l) rv w')⟩))
end
end Mine
end
section
namespace Mine
open PySem PyProof.Rows PySem.W
open scoped Classical
section
variable{K:Kx}{X:Cx K}{φ ι ι':Obs}{ρ:Env}{H H':Hp}{s s':Shared}
theorem bx.in1{A:Around}{k:Nat}(R:bx A (k+1)):bx A.in1 k:=⟨R.h,by have:=R.d;simp only [Around.in1_depth];lia,by have:=R.u;simp only [Around.in1_units];lia⟩
theorem Cx.r1(X:Cx K):bx X.A (K.k+1):=X.r4.le (Nat.add_le_add_left (of_decide_eq_true rfl) _)
theorem rE{items:Array Value}{l:List V}(h:az ι items.toList l):(items.size:Int)=(l.length:Int):=congrArg Int.ofNat (cy h)
theorem yx{n m:Nat}(h:m≤big)(e:n=m):(n:Int)<2^63:=e▸Int.ofNat_lt.mpr (Nat.lt_of_le_of_lt h (by decide:big<2^63))
theorem Al(O:X.Ok φ ρ ι H s){v:Value}{l:List Nat}{r:List V}{Q:PV}(rv:Rep ι v (.prod l r))(w:aH K.F "Production.__len__" [.prod l r] [] [] H (okW fun v H'=>∃n:Nat,v=.int n∧n≤big∧Q v H')) :
  wpAny K.M X.A (call (.builtin "len") [v]) (PE K.B X.γ φ ι Q) aA s:=by
 refine Gv (id rv) ?_;rintro mm v1 b kk items;refine fun h_=>GB h_ ?_;clear h_;rintro a dx od e h1 h2 h3 h4 _
 subst e
 refine Calls.call_function_entry kind_len plain_len entry_len (args_len1 _) ?_
 refine wpAny_bind (m:=oneArg "len" _) (wpAny_pure ?_)
 refine wpAny_bind (wpAny_bind (wpAny_bind ((show Looks K.M s.heap (typeOf (.ref a)) (.ref bg) from (Looks.ld (part:=none) (O.I.data _ _ h1)).andThen .now).here ((looks_findIn O.I.inK K.D.len).here (wpAny_holding ?_)))))
 refine wpAny_bind (wpAny_bind ((looks_typeIn O.I.inK K.D.tyl).here (wpAny_pure ?_)))
 refine wpAny_bind (wpAny_mono (kK (args:=⟨[.ref a],[]⟩) (K.C X.A.in1 X.γ φ ι H s "Production.__len__" _ _ [] [] [.ref a] [] (fun v H'=>∃n:Nat,v=.int n∧n≤big∧Q v H') X.r1.in1 rfl O.I (.one rv) .nil rfl w)) (fun x s1 h1=>wpAny_pure ?_) fun _ _ e=>e)
 obtain ⟨ι1,H1,y,l1,I1,r1,n,rfl,hn,q⟩:=h1
 refine aL r1 ?_;clear r1;rintro t rfl
 show wpAny _ _ (if ((n:Nat):Int)≥2^63 then _ else _) _ _ _
 exact (if_neg (Int.not_le.mpr (yx hn rfl)))▸wpAny_bind (wpAny_mkInt (wpAny_pure ⟨_,rfl,(PE.toks I1 bV q).mono l1 fun _ _ q=>q⟩))
theorem Em(O:X.Ok φ ρ ι H s){u:Value}{y:V}{Q:PV}(ru:Rep ι u y)(w:yi K.F H Q y):wpAny K.M X.A (call (.builtin "len") [u]) (PE K.B X.γ φ ι Q) aA s:=by
 cases w with
 |seq hl hz q=>exact let ⟨a,n,items,e,h1,h2⟩:=isList O.I ru hl;e▸Calls.call_len_list ⟨_,h1,rfl,_,rfl⟩ (yx hz (cy h2)) (rE h2▸.toks O.I bV q)
 |tup hz q=>exact let ⟨a,n,items,e,h1,h2⟩:=bJ ru;e▸P.len_tuple (O.I.data _ _ h1) (Int.not_le.mpr (yx hz (cy h2))) (rE h2▸.toks O.I bV q)
 |prod w=>exact Al O ru w
theorem FT(i:Int):(i.natAbs:Int)=if i<0 then -i else i:=by split<;>grind
theorem Hz(O:X.Ok φ ρ ι H s){f:BI}{v:Value}{vs:List V}{vals:List Value}{Q:PV}(hf:nk.lookup f.name=some v)(rv:az ι vals vs)(w:BiW K.F H Q f vs) :
  wpAny K.M X.A (call v vals []) (PE K.B X.γ φ ι Q) aA s:=by
 cases w with
 |len w=>obtain rfl:Value.builtin "len"=v:=Option.some.inj hf;exact eE rv fun u e ru=>e▸Em O ru w
 |int w=>obtain rfl:Value.type "int"=v:=Option.some.inj hf;exact eE rv fun u e ru=>e▸(show u=_ from ru)▸call_int_bool (.toks O.I bV w)
 |abs w =>
  obtain rfl:Value.builtin "abs"=v:=Option.some.inj hf
  exact eE rv fun u e ⟨t,e'⟩=>e▸e'▸call_abs_int fun t' tk=>by
   rw [←FT];exact .toks O.I bV w
 |range hn w=>obtain rfl:Value.type "range"=v:=Option.some.inj hf;exact eE rv fun u e ⟨t,e'⟩=>e▸e'▸call_range_1 (PE.push O.I (x:=.rng 0 _) rfl (fun ι' hle e=>⟨_,_,_,_,rfl,e,⟨Int.le_refl 0,(of_decide_eq_true rfl)⟩,hn⟩) w)
 |range2 hm hn w=>obtain rfl:Value.type "range"=v:=Option.some.inj hf;exact qP rv fun u u2 e ⟨t,e'⟩ ⟨t2,e2⟩=>e▸e'▸e2▸call_range_2 (PE.push O.I (x:=.rng _ _) rfl (fun ι' hle e=>⟨_,_,_,_,rfl,e,hm,hn⟩) w)
 |tupT w=>obtain rfl:Value.type "tuple"=v:=Option.some.inj hf;exact eE rv fun u e ru=>let ⟨a,n,items,e',h1,h2⟩:=bJ ru;e▸e'▸call_tuple_same ⟨_,O.I.data _ _ h1,rfl,_,rfl⟩ (.here O.I (e'▸ru) w)
 |tupL hl hz w=>obtain rfl:Value.type "tuple"=v:=Option.some.inj hf;exact eE rv fun u e ru=>let ⟨a,n,items,e',h1,h2⟩:=isList O.I ru hl;e▸e'▸call_tuple_list ⟨_,h1,rfl,_,rfl⟩ (fun h' hk=>PE.push (x:=.tup _) (O.I.keep (s':={ s with heap:=h' }) hk rfl rfl) (k:=s.toks) rfl (fun ι' hle e=>⟨_,_,_,rfl,e,h2.mono hle⟩) w) (iF (cy h2▸hz))
theorem B5{f:BI}{v:Value}(hf:nk.lookup f.name=some v){M:Model}{h:Heap}:∃kp,Looks M h (keeperOf v) kp:=by
 cases f<;>cases hf<;>exact ⟨_,Looks.of_pure rfl⟩
theorem Hi{f:BI}{v:Value}{es:List ME}{xs:List Expr}{p pos:Pos}(hg:aU K.sc f.name=true)(hf:nk.lookup f.name=some v)(hes:aI (EO K) es xs)(hns:xs.all notStar=true):SE K (.bi f es) (.Call (.Name (sx f.name) p) xs [] pos):=fun X φ ρ ι H s Q O w =>
 wpAny_Call_ofName (fz O hg hf (ig (first:=[]) hes hns O w fun vals s' ι' H' vs l O' rv w'=>⟨B5 hf,PE.up l (Hz O' hf rv w')⟩))
theorem wA{p pos:Pos}(hg:aU K.sc "set"=true):SE K .setNil (.Call (.Name (sx "set") p) [] [] pos):=fun X φ ρ ι H s Q O w =>
 wpAny_Call_ofName (fz O hg (v:=.type "set") rfl (Mine.callWith_of (bI rfl rfl (wpAny_items_nil (wpAny_pure ⟨⟨_,Looks.of_pure rfl⟩,qE (B:=K.B) (PE.yk O.I (k:=s.toks) (x:=.set [] (0,.fresh 0 0 (!(K.B.w.params.followText "set-order")))) rfl (oz 0 0) (w _))⟩)))))
theorem xe{Q:Bool→Shared→Prop}{E:Value→Shared→Prop}(O:X.Ok φ ρ ι H s)(hg:gu K.sc=true)(h:∀b,Q b s):wpAny K.M X.A (inMainModule X.env) Q E s:=by
 refine kX (O.Ev.code hg) fun c P ps e hm=>?_
 refine aL (O.I.tab c P ps hm) fun more k=>k.data fun o fs ho hd=>?_
 dsimp only [inMainModule]
 refine (e)▸?_
 split
 ·exact wpAny_pure (h _)
 ·refine wpAny_bind (wpAny_fieldsOf ho hd ?_)
  split
  ·exact wpAny_bind (wpAny_askSetting (wpAny_pure (h _)))
  ·exact wpAny_pure (h _)
end
section
variable{B:Base}{prog:Program}{A:Around}{s:Shared}
theorem t8{Q:Value→Shared→Prop}(h:Q (.ref s.heap.objs.size) { s with heap:=s.heap.push { cls:=.type "set",dict:=none,data:=.set #[] 0 (.fresh 0 0 (!(B.w.params.followText "set-order"))) } }):wpAny (model prog B.w) A (newSet (.type "set")) Q aA s:=by
 refine wpAny_bind (wpAny_bind (wpAny_askSetting (wpAny_pure ?_)))
 exact wpAny_bind (wpAny_alloc (wpAny_pure h))
end
section
variable{K:Kx}{X:Cx K}{φ ι ι':Obs}{ρ:Env}{H H':Hp}{s s':Shared}
theorem lq.grow{ι φ φ':Obs}(h:Le φ φ'){env x y}(v:lq ι φ env x y):lq ι φ' env x y:=match v with
 |.loc v r k o m a n e=>.loc v r k o m (h _ _ a) n e
 |.cel v r k c o e a d=>.cel v r k c o e (h _ _ a) d
theorem cU.grow{B:Base}{ι φ φ':Obs}(h:Le φ φ'){sc env ρ}(e:cU B ι φ sc env ρ):cU B ι φ' sc env ρ:={ e with vars:=fun x y q=>(e.vars x y q).grow h }
theorem Inv.newOf{B:Base}{γ:Array GenState}(I:Inv B γ φ ι H s){a:Addr}(h:φ a≠none){φ₀:Obs}(h₀:φ₀ a=none):New B φ₀ ι H a where
 i:=Decidable.byContradiction fun e=>h (I.dfr a e)
 f:=h₀
 h:=I.fob a h
 t:=fun c P ps hm e=>h (e▸(I.tdis c P ps hm).2.1)
noncomputable abbrev IM(B:Base):aK:=(0,.fresh 0 0 (!(B.w.params.followText "set-order")))
noncomputable abbrev F6(B:Base):Obj:={ cls:=.type "set",dict:=none,data:=.set #[] 0 (.fresh 0 0 (!(B.w.params.followText "set-order"))) }
theorem By{e:ME}{y:Expr}{pos:Pos}(hng:gu K.sc=true)(hst:notStar y=true)(he:SE K e y):SE K (.set1 e) (.Set [y] 0 pos):=by
 intro X φ ρ ι H s Q O w
 refine wpAny_bind (wpAny_standAt (wpAny_bind (xe O hng fun b=>?_)))
 rw [show starEach [y] X.env=[(false,eval y X.env)] from eW hst]
 rw [show displayRoad 0 [y]=.oneByOne from rfl]
 dsimp only [List.map]
 refine wpAny_bind (t8 (B:=K.B) ?_)
 have nw:=O.I.new (Nat.le_refl s.heap.objs.size)
 have O1:X.Ok (bh φ s.heap.objs.size (F6 K.B)) ρ ι H { s with heap:=s.heap.push (F6 K.B) }:=⟨(O.I.gk (k:=s.toks) rfl).2,O.Ev.grow (Le.add nw.f)⟩
 refine wpAny_bind (wpAny_holding ?_)
 refine wpAny_bind (wpAny_bind (wpAny_bind (he.run O1 w fun va s1 ι1 H1 xa l1 O2 r1 w1=>wpAny_bind (wpAny_standAt (wpAny_pure (wpAny_bind (wpAny_holding (wpAny_pure (wpAny_pure ?_)))))))))
 have I4:=(O2.I.leave (s':=s1) (Le.add nw.f) nw.f (((af ..))▸Option.some_ne_none _) (fun _ _ _ e=>e) rfl rfl).own (O2.I.newOf (((af ..))▸Option.some_ne_none _) nw.f) (O2.I.fr _ _ (af ..)) (x:=.set [] (IM K.B)) (oz 0 0)
 refine wpAny_bind (wpAny_holding (wpAny_bind (wpAny_forIn_list _ (fun rest _ s'=>(rest=[va]∧s'=s1)∨(rest=[]∧PE K.B X.γ φ ι Q (.ref s.heap.objs.size) s')) _ ?_ ?_ _ _ (.inl ⟨rfl,rfl⟩))))
 ·rintro x rest _ s' (⟨e,rfl⟩ | ⟨e,_⟩)
  ·cases e
   refine wpAny_bind (mK (Nat.lt_of_le_of_lt (Nat.add_le_add_left (of_decide_eq_true rfl) _) X.r0.u0) I4 r1 (if_pos rfl) w1.1 (Nat.zero_le _) (fun _=>by simp [dg]) fun b s' es' k' hp I5=>?_)
   obtain rfl:es'=[xa]:=List.perm_singleton.mp hp
   simp only [qY] at I5
   exact wpAny_pure (.inr ⟨rfl,ι1,_,.ref s.heap.objs.size,l1,I5,rfl,w1.2 _ _ (O2.I.newOf (((af ..))▸Option.some_ne_none _) nw.f).h⟩)
  ·injection e
 ·rintro _ s' (⟨e,_⟩ | ⟨_,h⟩)
  ·injection e
  ·exact wpAny_pure (wpAny_pure (wpAny_pure h))
end
end Mine
end
section
namespace Mine
open PySem PyProof.Rows PySem.W
open scoped Classical
section
variable{A:Around}{k:Nat}
theorem tK{c:Code}(R:bx A (k+1))(hw:c.weight≤1)(hu:c.cUnits≤4):bx (A.under c) k:=⟨R.h,by have:=R.d;show A.depth+c.weight+3*k+3<700;lia,by have:=R.u;show A.units+c.cUnits+100*k+100<cLine;lia⟩
theorem q6(C:Addr)(vals:List Value)(kw:List (Str×Value)):(Code.builtin "type.__call__" ⟨.ref C::vals,kw⟩).weight=1∧(Code.builtin "type.__call__" ⟨.ref C::vals,kw⟩).cUnits≤4:=by
 constructor
 ·rfl
 ·exact Nat.le_of_ble_eq_true (by rfl)
end
section
variable{K:Kx}{X:Cx K}{φ ι ι':Obs}{ρ:Env}{H H':Hp}{s s':Shared}
theorem tu{H:Hp}{dx x:Addr}{c:String}{f:String→Option V}:made H dx x c f x=some (.inst c dx):=if_pos rfl
theorem EE{H:Hp}{dx x:Addr}{c:String}{f:String→Option V}(h:x≠dx):made H dx x c f dx=some (.attrs f):=(if_neg (Ne.symm h)).trans (if_pos rfl)
theorem AA{B:Base}{γ:Array GenState}(I:Inv B γ φ ι H s){c:String}(hc:c="CFG"∨c="Nonterminal"∨c="Production"):New B φ ι H s.heap.objs.size∧New B φ ι H (s.heap.objs.size+1) ∧
  Inv B γ φ ι (made H s.heap.objs.size (s.heap.objs.size+1) c fun _=>none) { s with heap:=(s.heap.push emptyDict).push (PySem.W.instObj (aM c) s.heap.objs.size) }:=by
 have n2:=I.new (a:=s.heap.objs.size+1) (Nat.le_succ _)
 have I1:Inv B γ φ ι H { s with heap:=(s.heap.push emptyDict).push (PySem.W.instObj (aM c) s.heap.objs.size) }:=I.keep (fun b o e=>Heap.get?_push_of_some _ (Heap.get?_push_of_some _ e)) rfl rfl
 have g2:=Heap.get?_push_size (s.heap.push emptyDict) (o:=PySem.W.instObj (aM c) s.heap.objs.size) rfl
 rw [Heap.size_push] at g2
 exact ⟨(I.new (a:=s.heap.objs.size) (Nat.le_refl _)),n2,(I1.own (x:=.attrs fun _=>none) (I.new (a:=s.heap.objs.size) (Nat.le_refl _)) (Heap.get?_push_of_some _ (Heap.get?_push_size _ rfl)) ⟨⟨rfl,rfl,rfl⟩,⟨#[],0,[],rfl,Nat.le_refl _,List.nodup_nil,fun _ h=>nomatch h⟩,fun _=>none,⟨#[],0,rfl,fun e he=>by simp at he,fun n=>rfl⟩,fun x=>rfl⟩).own
  ⟨n2.i,n2.f,(if_neg (Nat.succ_ne_self _)).trans n2.h,n2.t⟩ g2 ⟨hc,rfl⟩⟩
theorem uU{B:Base}{γ:Array GenState}{dx x:Addr}{c:String}{f:String→Option V}(hne:x≠dx)(hx:H x=none)(hd:H dx=none)(I:Inv B γ φ ι (made H dx x c f) s) :
  ∃ι' m,Le ι ι'∧Inv B γ φ ι' H s∧dw ι' (aM c) (.ref x) m∧∀z,match f z with
   |some y=>∃v,m (sx z)=some v∧Rep ι' v y
   |none=>m (sx z)=none:=by
 refine br (I.objs _ _ tu) ?_;rintro ox hox hcc rfl
 have I1:=I.settle tu hox
 have hd2:del (made H dx x c f) x dx=some (.attrs f):=(if_neg (Ne.symm hne)).trans (EE hne)
 obtain ⟨od,hod,h1,h2,m,h3,h4⟩:=I1.objs _ _ hd2
 have I2:=I1.settle hd2 hod
 have e:del (del (made H dx x c f) x) dx=H:=by
  funext b
  delta del made upd
  by_cases h1:b=dx
  ·rw [if_pos h1,h1,hd]
  ·by_cases h2:b=x
   ·rw [if_neg h1,if_pos h2,h2,hx]
   ·rw [if_neg h1,if_neg h2,if_neg h2,if_neg h1]
 rw [e] at I2
 refine ⟨_,m,(Le.add (o:=fU (aM c) dx) (I.nj tu)).trans (Le.add (o:=od) (I1.nj hd2)),I2,⟨x,dx,od,rfl,(Le.add (o:=od) (I1.nj hd2)) _ _ (af ..),af ..,h1,h3⟩,fun z=>?_⟩
 have:=h4 z
 cases hz:f z with
 |none=>replace this:=(hz)▸this;exact this
 |some y=>simp only [hz] at this;exact let ⟨_,v,g1,g2⟩:=this;⟨v,g1,g2.mono (Le.add (o:=od) (I1.nj hd2))⟩
theorem lY(O:X.Ok φ ρ ι H s){c:String}{fI:Addr}{vs ws:List V}{kn:List String}{vals kvals:List Value}{Q:PV}{Q':Addr→Addr→Hp→Prop}(hi:yq.lookup c=some fI)(hcc:c="CFG"∨c="Nonterminal"∨c="Production")(hC:aM c∈classes)(hf:bE (c++".__init__")=some fI)(rv:az ι vals vs)(rk:az ι kvals ws)(hn:kn.length=ws.length)
  (w:∀x dx,x≠dx→H x=none→H dx=none→aH K.F (c++".__init__") (.ref x::vs) kn ws (made H dx x c fun _=>none) (okW fun r H'=>r=.none∧Q' x dx H'))
  (k:∀x dx ι' H' s',x≠dx→H x=none→H dx=none→Le ι ι'→Inv K.B X.γ φ ι' H' s'→Q' x dx H'→PE K.B X.γ φ ι Q (.ref x) s') :
  wpAny K.M X.A (call (.ref (aM c)) vals ((kn.map sx).zip kvals)) (PE K.B X.γ φ ι Q) aA s:=by
 refine bG (AA O.I hcc) fun n1 n2 I2=>?_
 have h:=Prod.mk.inj (aQ K.D.ini (lookup_mem hi))
 refine kK (args:=⟨vals,(kn.map sx).zip kvals⟩) ?_
 skip
 refine make_core (makes_of O.I.inK (aQ K.D.mks hC)) (looks_findIn O.I.inK h.1) (fun self=>bind_fn O.I.inK self h.2) (.inl rfl) ?_
 exact codeAny_mono (K.C _ X.γ φ ι _ _ (c++".__init__") fI _ kn ws (.ref (s.1.objs.size+1)::vals) kvals _ (tK X.r1 (Nat.le_of_eq (q6 (aM c) vals ((kn.map sx).zip kvals)).1) (q6 (aM c) vals ((kn.map sx).zip kvals)).2) hf I2 (.cons (x:=.ref (s.1.objs.size+1)) rfl rv) rk hn (w _ _ (Nat.succ_ne_self _) n2.h n1.h)) fun r s' h=>match r,h with
  |.ok (.ret v),.mk ι' H' y le I' r' ⟨e,q⟩=>by subst e;obtain rfl:v=.none:=r';exact ⟨rfl,k _ _ ι' H' s' (Nat.succ_ne_self _) n2.h n1.h le I' q⟩
theorem yu{ι:Obs}{m:Str→Option Value}{f:String→Option V}(h:∀z,match f z with
  |some y=>∃v,m (sx z)=some v∧Rep ι v y
  |none=>m (sx z)=none) {z:String} {y:V} (e:f z=some y):∃v,m (sx z)=some v∧Rep ι v y:=by have:=h z;rw [e] at this;exact this
theorem C1{ι:Obs}{m:Str→Option Value}{f:String→Option V}(h:∀z,match f z with
  |some y=>∃v,m (sx z)=some v∧Rep ι v y
  |none=>m (sx z)=none) {z:String} (e:f z=none):m (sx z)=none:=by have:=h z;simp only [e] at this;exact this
theorem El(O:X.Ok φ ρ ι H s){c:String}{vs ws:List V}{kn:List String}{vals kvals:List Value}{Q:PV}(rv:az ι vals vs)(rk:az ι kvals ws)(hn:kn.length=ws.length)(w:o8 K.F H Q c vs kn ws) :
  wpAny K.M X.A (call (.ref (aM c)) vals ((kn.map sx).zip kvals)) (PE K.B X.γ φ ι Q) aA s:=by
 cases w with
 |@nt l h q =>
  exact eE rv fun u e ru=>lY O (c:="Nonterminal") rfl (.inr (.inl rfl)) (.head _) rfl rv rk hn h fun x dx ι' H' s' h1 h2 h3 le I' e'=>by
   subst e'
   refine fm (uU h1 h2 h3 I') fun ι2 m l2 I2 hset hz=>?_
   refine br (yu hz (z:="_symbol") (if_pos rfl)) ?_;rintro v hv;refine fun h_=>aL h_ ?_;clear h_;rintro t rfl hc
   exact ⟨ι2,H,.nt l,le.trans l2,I2,⟨m,t,hset,hv,hc,fun z hne=>C1 hz (if_neg hne)⟩,q⟩
 |@prod vs kn ws l items h q =>
  exact lY O (c:="Production") rfl (.inr (.inr rfl)) (.tail _ (.head _)) rfl rv rk hn h fun x dx ι' H' s' h1 h2 h3 le I' e'=>by
   subst e'
   refine fm (uU h1 h2 h3 I') fun ι2 m l2 I2 hset hz=>?_
   obtain ⟨v,hv,a,n,its,rfl,g2,g3⟩:=yu hz (z:="_rhs") (if_pos rfl)
   refine ao (yu hz (z:="_lhs") ((if_neg (of_decide_eq_true rfl)).trans (if_pos rfl))) fun v1 hv1 rv1=>?_
   exact ⟨ι2,H,.prod l items,le.trans l2,I2,⟨m,v1,a,n,its,hset,hv1,rv1,hv,g2,g3,fun z n1 n2=>C1 hz ((if_neg n2).trans (if_neg n1))⟩,q⟩
 |cfg h=>exact lY O (c:="CFG") rfl (.inl rfl) (.tail _ (.tail _ (.head _))) rfl rv rk hn h fun x dx ι' H' s' _ _ _ le I' q=>⟨ι',H',.ref x,le,I',rfl,q⟩
theorem Ax{c:String}(hC:aM c∈classes)(O:X.Ok φ ρ ι H s):∃kp,Looks K.M s.heap (keeperOf (.ref (aM c))) kp :=
 let ⟨kp,_,h⟩:=looks_keep (M:=K.M) (aQ K.D.keepC hC) O.I.inK;⟨kp,h⟩
theorem D5{c:String}{es ks:List ME}{kn:List String}{xs:List Expr}{kws:List Keyword}{p pos:Pos}(hg:aU K.sc c=true)(hc:dS.lookup c=some (.ref (aM c)))(hC:aM c∈classes)(hes:aI (EO K) es xs)(hns:xs.all notStar=true)(hks:Kws K kn ks kws) :
  SE K (.new c es kn ks) (.Call (.Name (sx c) p) xs kws pos):=fun X φ ρ ι H s Q O w =>
 wpAny_Call_ofName (kP O hg hc (mE (first:=[]) hes hns hks O w fun vals kvals s' ι' H' vs ws l O' rv rk hn w'=>⟨Ax hC O',PE.up l (El O' rv rk hn w')⟩))
end
end Mine
end
section
namespace Mine
open PySem PyProof.Rows PySem.W
open scoped Classical
theorem A9{β α:Type}{M:Model}{A:Around}{E:Value→Shared→Prop}{s:Shared}{Q:α→Shared→Prop}{v:β}{f:β→Sem α}(q:∀k,k=v→wpAny M A (f k) Q E s):wpAny M A (have k:=v;f k) Q E s:=q v rfl
theorem vm{M:Model}{A:Around}{E:Value→Shared→Prop}{s:Shared}{x:Addr}{T nm:String}{Q:Bool→Shared→Prop}(hT:s.TypeIs (.ref x) T)(h1:typeLookup (.type T) (.ofString "__len__")=pure (some (.builtin nm)))(h2:splitId nm=some (T,"__len__"))(h3:isSubtype (.type T) (.type T)=pure true)(h4:nm="set.__len__"∨nm="dict_values.__len__")(q:∀b,Q b s):wpAny M A (Builtin.List.listLengthHint (.ref x)) Q E s:=by
 refine wpAny_bind (wpAny_specialOf hT h1 ?_)
 dsimp (config:={zeta:=false}) only
 generalize splitId nm=z at h2 ⊢
 cases h2
 refine A9 fun k hk=>?_
 refine wpAny_bind (wpAny_isInstance (b:=true) hT h3 ?_)
 refine hk▸?_
 clear hk k
 refine A9 fun k hk=>?_
 refine wn Bool.false_ne_true ?_
 cases hk
 refine A9 fun k hk=>?_
 clear hk
 refine A9 fun k2 hk=>?_
 clear hk
 refine wy (by rcases h4 with rfl | rfl<;>rfl) ?_
 refine wpAny_bind (wpAny_typeOf hT ?_)
 refine wpAny_pure ?_
 exact q _
section
variable{B:Base}{γ:Array GenState}{φ ι:Obs}{H:Hp}{s:Shared}{prog:Program}{A:Around}{E:Value→Shared→Prop}
theorem sy{ι₀:Obs}{l:List V}{Stl:Hp→Prop}{J S:Addr}{St:Nat→Obj→Prop}{res:Value}{R:Result→Shared→Prop}(It:Iter prog B ι₀ l Stl J St)(hh:A.handled=none)(hz:l.length≤big)(hSJ:S≠J)(hle:Le ι₀ ι)(hS:Stl H) :
  ∀(k i:Nat) (s:Shared) (φ:Obs) (acc:Array Value) (c:Nat) (o:Obj),l.length-i=k→i≤l.length→Inv B γ φ ι H s→φ J=some o→St i o→φ S=some (seqObj "list" acc c)→az ι acc.toList (l.take i) →
  (∀s' φ' acc' c',(∀b,b≠J→b≠S→φ' b=φ b)→φ' J=none→φ' S=some (seqObj "list" acc' c')→Inv B γ φ' ι H s'→az ι acc'.toList l→R (.ok (.ret res)) s') →
  codeAny (model prog B.w) A (.builtin "list.extend.loop" ⟨[.ref S,.ref J,res],[]⟩) R s:=by
 intro k
 induction k with
 |zero =>
  intro i s φ acc c o hk hi I hJ hst hSo hr hR
  have:i=l.length:=(N.a3 hk hi)
  subst this
  refine codeAny_builtin F.entry_extend_loop ?_
  refine wpAny_bind (It.done (A:=A.in1) hh hle I hJ hst hS fun s' hI'=>?_)
  refine wpAny_pure (hR s' (fun b=>if b=J then none else φ b) acc c (fun b h1 h2=>by exact if_neg h1) (by simp) (by simp [hSJ,hSo]) (hI' _ (fun b o e=>by by_cases hb:b=J<;>simp [hb] at e;exact e) (by simp)) (by simpa using hr))
 |succ k ih =>
  intro i s φ acc c o hk hi I hJ hst hSo hr hR
  refine codeAny_builtin F.entry_extend_loop ?_
  have hlt:i<l.length:=(N.a2 hk)
  refine wpAny_bind (It.item (A:=A.in1) (x:=l[i]) hh hle I hJ hst hS (List.getElem?_eq_getElem hlt) fun v o' s' hst' I' rv=>?_)
  have hSo':bh φ J o' S=some (seqObj "list" acc c):=by rw [ak hSJ];exact hSo
  have hSg:=I'.fr _ _ hSo'
  have hlen:acc.size=i:=by have:=hr.length;simp at this;exact N.j2 hi this hi
  refine wpAny_bind (wpAny_updateSeq hSg rfl ?_ (by delta sizeLine;delta big at hz;exact N.b4 hlen (N.j9 hlt (Nat.le_trans hz (of_decide_eq_true rfl)))) (by show (acc.push v).size≤sizeLine+1;rw [Array.size_push];delta sizeLine;delta big at hz;omega))
  have I2:=I'.frame (s':={ s' with heap:=s'.heap.update S (Obj.mapSeq (·.push v)) }) hSo' (Heap.SameBut.update ..) (get?_update_seq hSg (·.push v)) rfl rfl
  refine wpAny_pure ⟨plainId_quiet F.plain_extend_loop _,?_⟩
  refine ih (i+1) _ _ (acc.push v) _ o' (N.a1 hk) hlt I2 (by rw [ak (Ne.symm hSJ)];exact af ..) hst' (af ..) ?_ fun s2 φ2 acc2 c2 e1 e2 e3 e4 e5=>hR s2 φ2 acc2 c2 (fun b h1 h2=>by rw [e1 b h1 h2,ak h2,ak h1]) e2 e3 e4 e5
  simpa using hr.append (.one rv)
def Gives(prog:Program)(B:Base)(γ:Array GenState)(φ ι:Obs)(H:Hp)(good:List V→Prop)(it:Value)(s:Shared):Prop :=
 ∃ι' l J St o Stl,Le ι ι'∧it=.ref J∧good l∧Iter prog B ι' l Stl J St∧Stl H∧φ J=none∧Inv B γ (bh φ J o) ι' H s∧St 0 o∧l.length≤big
theorem ku{T:String}{good:List V→Prop}{S x:Addr}{c0:Nat}{res:Value}{R:Result→Shared→Prop}(hh:A.handled=none)(hT1:T="set"∨T="dict_values")(hSx:S≠x)(I:Inv B γ φ ι H s)(hS:φ S=some (seqObj "list" #[] c0))
  (hT:s.TypeIs (.ref x) T) (hty:∀{s' J o ι'},Le ι ι'→φ J=none→Inv B γ (bh φ J o) ι' H s'→s'.TypeIs (.ref x) T)
  (hit:wpAny (model prog B.w) A.in1 (pyIter (.ref x)) (Gives prog B γ φ ι H good) (fun e s'=>R (.error e) s') s)
  (hR:∀s' ι' l φ' acc' c',Le ι ι'→good l→(∀b,b≠S→φ' b=φ b)→φ' S=some (seqObj "list" acc' c')→Inv B γ φ' ι' H s'→az ι' acc'.toList l→R (.ok (.ret res)) s') :
  wpAny (model prog B.w) A.in1 (Builtin.List.listExtendWith (.ref S) (.ref x) res)
   (fun fin s'=>match fin with | .done f=>R (.ok f) s' | .again c'=>c'.quiet=true∧codeAny (model prog B.w) A c' R s') (fun e s'=>R (.error e) s') s:=by
 refine wpAny_bind (wpAny_typeOf hT ?_)
 have h2:(Value.type T==Value.type "list")=false:=by refine hT1.elim ?_ ?_<;>rintro rfl<;>decide
 simp only [(show Builtin.List.listSameRef (.ref S) (.ref x)=false from by exact if_neg ‹_›),h2,(show (Value.type T==Value.type "tuple")=false from by rcases hT1 with rfl | rfl<;>decide),Bool.false_eq_true,if_false]
 refine wpAny_bind (wpAny_mono hit (fun it s1 g=>?_) fun _ _ e=>e)
 obtain ⟨ι1,l,J,St,o,Stl,le,rfl,hg,It,hSt,hJ,I1,h0,hz⟩:=g
 have hSJ:S≠J:=by rintro rfl;replace hJ:=(hS).symm.trans hJ;injection hJ
 have hT2:=hty le hJ I1
 refine wpAny_bind (wpAny_holding ?_)
 have cont:wpAny (model prog B.w) A.in1 (do
   rule "list.extend.makes-room"
   Builtin.List.listTouch (.ref S)
   again (.builtin "list.extend.loop" ⟨[.ref S,.ref J,res],[]⟩)) (fun fin s'=>match fin with | .done f=>R (.ok f) s' | .again c'=>c'.quiet=true∧codeAny (model prog B.w) A c' R s') (fun e s'=>R (.error e) s') s1:=by
  refine wpAny_bind (wpAny_rule ?_)
  refine wpAny_bind ?_
  refine wpAny_bind (wpAny_updateSeq (I1.fr _ _ (by rw [ak hSJ];exact hS)) rfl ?_)
  refine wpAny_updateSeq (hz:=(of_decide_eq_true rfl)) (get?_update_seq (I1.fr _ _ (by rw [ak hSJ];exact hS)) (·.push Value.none)) rfl ?_
  refine wpAny_pure ⟨plainId_quiet F.plain_extend_loop _,?_⟩
  refine sy It hh hz hSJ (.refl _) hSt l.length 0 _ _ _ _ o (by solve_by_elim (maxDepth:=3) [Nat.le_trans,Nat.lt_of_lt_of_le,Nat.lt_of_le_of_lt,Nat.le_of_lt,Nat.ne_of_lt,Nat.ne_of_gt,Nat.succ_le_succ]) (Nat.zero_le _) (I1.frame (s':={ s1 with heap:=(s1.heap.update S (Obj.mapSeq (·.push Value.none))).update S (Obj.mapSeq (·.pop)) }) (by rw [ak hSJ];exact hS) ((Heap.SameBut.update ..).trans (Heap.SameBut.update ..)) (get?_update_seq (get?_update_seq (I1.fr _ _ (by rw [ak hSJ];exact hS)) (·.push Value.none)) (·.pop)) rfl rfl) (by rw [ak (Ne.symm hSJ)];exact af ..) h0 (af ..) (by rfl) fun s' φ' acc' c' e1 e2 e3 e4 e5=>?_
  refine hR s' ι1 l φ' acc' c' le hg (fun b hb=>?_) e3 e4 e5
  by_cases hbJ:b=J
  ·cases hbJ;exact (e2).trans (hJ).symm
  ·rw [e1 b hbJ hb,ak hb,ak hbJ]
 rcases hT1 with rfl | rfl
 ·exact vm hT2 F.slot_set_len.lookup rfl sub_set_self (.inl rfl) fun b=>by cases b<;>exact cont
 ·exact vm hT2 F.slot_dict_values_len.lookup rfl rfl (.inr rfl) fun b=>by cases b<;>exact cont
end
end Mine
end
section
namespace Mine
open PySem PyProof.Rows PySem.W
open scoped Classical
section
variable{B:Base}{γ:Array GenState}{φ ι:Obs}{H:Hp}{s:Shared}{prog:Program}{A:Around}{E:Value→Shared→Prop}{sc:Scope}{env:PySem.Env}{ρ:Env}{Fx:Fn}{k:Nat}
theorem xH{T:String}{good:List V→Prop}{S x:Addr}{c0:Nat}{R:Result→Shared→Prop}(hh:A.handled=none)(hT1:T="set"∨T="dict_values")(hSx:S≠x)(I:Inv B γ φ ι H s)(hS:φ S=some (seqObj "list" #[] c0))
  (hT:s.TypeIs (.ref x) T) (hty:∀{s' J o ι'},Le ι ι'→φ J=none→Inv B γ (bh φ J o) ι' H s'→s'.TypeIs (.ref x) T)
  (hit:wpAny (model prog B.w) A.in1 (pyIter (.ref x)) (Gives prog B γ φ ι H good) (fun e s'=>R (.error e) s') s)
  (hR:∀s' ι' l φ' acc' c',Le ι ι'→good l→(∀b,b≠S→φ' b=φ b)→φ' S=some (seqObj "list" acc' c')→Inv B γ φ' ι' H s'→az ι' acc'.toList l→R (.ok (.ret (.ref S))) s') :
  codeAny (model prog B.w) A (.builtin "list.__iadd__" ⟨[.ref S,.ref x],[]⟩) R s:=by
 refine codeAny_builtin F.entry_list_iadd ?_
 exact ku hh hT1 hSx I hS hT hty hit hR
theorem sD(hh:A.handled=none)(I:Inv B γ φ ι H s){a:Addr}{es:List V}{k0:aK}{Q:List Value→Shared→Prop}(ha:H a=some (.set es k0))(hz:es.length≤cG)(hes:∀e∈es,isTup e=true)
  (hQ:∀s' ι' l vs,Le ι ι'→l.Perm es→Inv B γ φ ι' H s'→az ι' vs l→Q vs s'):wpAny (model prog B.w) A (collect (.ref a)) Q aA s:=by
 refine wpAny_bind (wpAny_runValue (codeAny_builtin F.entry_proto_collect ?_))
 refine wpAny_bind (wpAny_newObj_type ?_)
 refine cX (I.gk (k:=s.toks) (o:=seqObj "list" #[] 0) rfl) fun hn I1=>?_
 have hne:s.heap.objs.size≠a:=fun e=>by
  have:=(I.new (Nat.le_refl s.heap.objs.size)).h
  rw [e,ha] at this;contradiction
 refine wpAny_pure ⟨plainId_quiet F.plain_list_iadd _,xH (s:={ s with heap:=s.heap.push (seqObj "list" #[] 0) }) (good:=fun l=>l.Perm es) (c0:=0) hh (.inl rfl) hne I1 (af ..) (dN I1 ha) (fun _ _ I'=>dN I' ha) ?_ fun s' ι' l φ' acc' c' le hp hφ hS I' hr=>?_⟩
 ·refine wpAny_mono (g8 I1 (v:=.ref a) rfl (by simp only [iterable,ha];exact ⟨hz,hes⟩)) (fun it s1 g=>?_) fun _ _ e=>e.elim
  cases g with | mk le hi It hJ I2 h0 =>
  rename_i ι' l J St o
  have hp:l.Perm es:=oq ha▸hi
  exact ⟨ι',l,J,St,o,_,le,rfl,hp,It,rfl,hJ,I2,h0,by have:=hp.length_eq;unfold big;delta cG at hz;exact N.b4 this (Nat.le_trans hz (of_decide_eq_true rfl))⟩
 ·refine wpAny_bind (wpAny_load (I'.fr _ _ hS) ?_)
  refine wpAny_pure (hQ s' ι' l _ le hp (I'.leave (s':=s') (a:=s.heap.objs.size) (fun b o e=>?_) hn (by rw [hS];exact Option.some_ne_none _) (fun _ _ _ e=>e) rfl rfl) hr)
  have hb:b≠s.heap.objs.size:=by rintro rfl;replace e:=(hn)▸e;injection e
  rw [hφ b hb,ak hb];exact e
theorem DP{vs:List Value}{l:List V}(I:Inv B γ φ ι H s)(hr:az ι vs l)(hl:∀e∈l,∃x y,e=.tup [.str x,.str y]):∀v∈vs,SP.ef s.heap v:=by
 refine az.two (ι:=ι) (P:=fun vs l=>(∀e∈l,∃x y,e=.tup [.str x,.str y])→∀v∈vs,SP.ef s.heap v) (fun _ _ h=>xm h) (fun v e vs l h1 _ ih hl u hu=>?_) hr hl
 refine (List.mem_cons.mp hu).elim (fun hu=>?_) fun hu=>ih (fun e he=>hl e (List.mem_cons_of_mem _ he)) u hu
 subst hu
 refine f5 (hl e List.mem_cons_self) fun x y he=>?_
 subst he
 refine bP (bJ h1) fun a n items e h3 h4=>aP h4 fun v1 r1 e1 g1 h5=>aP h5 fun v2 r2 e2 g2 e3=>ao (bA g1) fun t e4 _=>ao (bA g2) fun t' e5 _=>?_
 subst e e3 e2 e4 e5
 obtain ⟨il⟩:=items
 simp only at e1;subst e1
 exact ⟨a,n,_,t,_,t',rfl,I.data _ _ h3⟩
theorem az.perm{vs out:List Value}{l:List V}(h:out.Perm vs):az ι vs l→∃l',l'.Perm l∧az ι out l':=by
 induction h generalizing l with
 |nil=>intro h;exact ⟨l,.refl _,h⟩
 |@cons v a b _ ih =>
  intro h
  cases l with
  |nil=>cases (show _=[] from h)
  |cons x l =>
   refine aP h fun w ws e h1 h2=>?_
   cases e
   refine ao (ih h2) fun l' hp hr=>?_
   exact ⟨x::l',hp.cons _,.cons h1 hr⟩
 |swap v w t =>
  intro h
  match l,h with
  |[],h=>cases (show _=[] from h)
  |[x],h=>refine aP h fun _ _ e _ e2=>?_;subst e2;exact nomatch e
  |x::y::l,h =>
   obtain ⟨w1,ws,e,h1,w2,ws2,e2,h2,h3⟩:=h
   subst e2;cases e
   exact ⟨y::x::l,.swap _ _ _,.cons h2 (.cons h1 h3)⟩
 |trans _ _ ih1 ih2 =>
  intro h
  refine ao (ih2 h) fun l1 p1 r1=>?_
  refine ao (ih1 r1) fun l2 p2 r2=>?_
  exact ⟨l2,p2.trans p1,r2⟩
theorem wL(hh:A.handled=none)(I:Inv B γ φ ι H s){a:Addr}{es:List V}{k0:aK}{Q:PV}(ha:H a=some (.set es k0))(hz:es.length<64)(hes:∀e∈es,∃x y,e=.tup [.str x,.str y])
  (q:∀l,l.Perm es→Q (.lst l) H):wpAny (model prog B.w) A (call (.builtin "sorted") [.ref a]) (PE B γ φ ι Q) aA s:=by
 refine Calls.call_function_entry kind_sorted plain_sorted entry_sorted (args_sorted1 _) ?_
 refine wpAny_bind (m:=checkCount "sorted" 1 1 _) (wpAny_pure ?_)
 refine wpAny_bind (sD (A:=A.in1) hh I ha (N.j9 hz (of_decide_eq_true rfl)) (fun e he=>by refine f5 (hes e he) ?_;rintro x y rfl;rfl) fun s1 ι1 l vs le hp I1 hr=>?_)
 have hlen:vs.length<64:=by have:=hr.length;have:=hp.length_eq;exact N.b5 ‹_› (N.b5 this hz)
 refine wpAny_bind (wpAny_newList ?_)
 refine cX (I1.gk (k:=s1.toks) (o:=seqObj "list" vs.toArray 0) rfl) fun hn I2=>?_
 refine wpAny_bind (wpAny_holding (wpAny_call_entry (s:={ s1 with heap:=s1.heap.push (seqObj "list" vs.toArray 0) }) slot_list_sort ⟨_,(I2.fr _ _ (af ..)),rfl⟩ entry_list_sort (SP.nC (I2.fr _ _ (af ..)) (DP I2 hr fun e he=>hes e (hp.mem_iff.mp he)) hlen fun out hperm=>⟨_,rfl,?_⟩) (args_list_sort _)))
 refine wpAny_pure ⟨_,rfl,?_⟩
 refine ao (az.perm hperm hr) fun l' hp' hr'=>?_
 have J2:=(I2.frame (s':={ s1 with heap:=(s1.heap.push (seqObj "list" vs.toArray 0)).update s1.heap.objs.size (Obj.mapSeq fun _=>#[]),toks:=s1.toks }) (af ..) (Heap.SameBut.update ..) (get?_update_seq (I2.fr _ _ (af ..)) (fun _=>#[])) rfl rfl).keep (s':={ s1 with heap:=(((s1.heap.push (seqObj "list" vs.toArray 0)).update s1.heap.objs.size (Obj.mapSeq fun _=>#[])).push (seqObj "tuple" vs.toArray 0)).push (seqObj "list" #[] 0),toks:=s1.toks }) (fun b o e=>Heap.get?_push_of_some _ (Heap.get?_push_of_some _ e)) rfl rfl
 have J3:=J2.frame (s':={ s1 with heap:=sortedHeap (s1.heap.push (seqObj "list" vs.toArray 0)) s1.heap.objs.size vs out.toArray,toks:=s1.toks }) (af ..) (Heap.SameBut.update ..) (get?_update_seq (J2.fr _ _ (af ..)) (fun _=>out.toArray)) rfl rfl
 have J4:=J3.leave (s':={ s1 with heap:=sortedHeap (s1.heap.push (seqObj "list" vs.toArray 0)) s1.heap.objs.size vs out.toArray,toks:=s1.toks }) (φ₀:=φ) (a:=s1.heap.objs.size) (fun b o e=>by
  simp only [ak (show b≠s1.heap.objs.size from by rintro rfl;replace e:=(hn).symm.trans e;injection e),ak (show b≠s1.heap.objs.size from by rintro rfl;replace e:=(hn).symm.trans e;cases e)];exact e) hn (by rw [af];exact Option.some_ne_none _) (fun _ _ _ e=>e) rfl rfl
 exact ⟨_,H,.lst l',le.trans (Le.add (J3.newOf (a:=s1.heap.objs.size) (by rw [af];exact Option.some_ne_none _) hn).i),J4.note (J3.newOf (a:=s1.heap.objs.size) (by rw [af];exact Option.some_ne_none _) hn) (J3.fr _ _ (af ..)),by exact ⟨_,_,_,rfl,af ..,hr'.mono (Le.add (J3.newOf (a:=s1.heap.objs.size) (by rw [af];exact Option.some_ne_none _) hn).i)⟩,q l' (hp'.trans hp)⟩
end
end Mine
end
section
namespace Mine.Fz
open PySem PySem.F
open scoped Classical
set_option maxRecDepth 100000
theorem gb:entryFor table "dict_valueiterator.__iter__"=some Builtin.«dict_keyiterator.__iter__» :=
 entryFor_alias (id':="dict_keyiterator.__iter__") (by kernel_rfl) rfl (by decide +kernel) (by rfl)
end Mine.Fz
namespace Mine
open PySem PyProof.Rows
section
variable{prog:Program}{w:World}{A:Around}{E:Value→Shared→Prop}{s:Shared}
theorem qv{J d:Addr}{i n ep:Nat}{Q:Value→Shared→Prop}(hit:s.heap.IsValIter J d i n ep)(q:Q (.ref J) s):wpAny (model prog w) A (pyIter (.ref J)) Q E s:=by
 refine wpAny_pyIter_slot hit.typeIs F.slot_dict_valueiterator_iter (wpAny_call_entry F.slot_dict_valueiterator_iter hit.typeIs Fz.gb ?_ (F.args_dict_valueiterator_iter_1 _))
 exact wpAny_pure ⟨_,rfl,"dict_valueiterator",_,hit.typeIs,F.slot_dict_valueiterator_next.lookup,q⟩
theorem t9{v d:Addr}{o:Obj}{es:Array DictEntry}{ep:Nat}{Q:Value→Shared→Prop}(hv:s.heap.IsValuesView v d)(ho:s.heap.get? d=some o)(hdat:o.data=.dict es ep)
  (hQ:Q (.ref s.heap.objs.size) { s with heap:=s.heap.push { cls:=.type "dict_valueiterator",data:=.fields #[.ref d,.int 0 0,.int es.size 0,.int ep 0] } }) :
  wpAny (model prog w) A (pyIter (.ref v)) Q E s:=by
 refine br (id hv) fun ov hov hcv hdv=>?_
 refine wpAny_pyIter_slot hv.typeIs F.slot_dict_values_iter (wpAny_call_entry F.slot_dict_values_iter hv.typeIs F.entry_dict_values_iter ?_ (F.args_dict_values_iter_1 _))
 refine wbp ?_
 refine wpAny_bind ?_
 refine wpAny_bind (wpAny_field hov hdv (x:=.ref d) rfl (wpAny_pure ?_))
 refine wpAny_bind ?_
 refine wpAny_bind (wpAny_dictEntries ho hdat ?_)
 refine wpAny_bind (wpAny_dictEpoch ho hdat ?_)
 simp only [(show Builtin.Dict_items.ownsTuple "dict_valueiterator"=false from by decide),Bool.false_eq_true,if_false]
 refine wpAny_newObj_type (wpAny_pure ⟨_,rfl,"dict_valueiterator",_,⟨_,Heap.get?_push_size _ rfl,rfl⟩,F.slot_dict_valueiterator_next.lookup,?_⟩)
 exact hQ
theorem qz{it d:Addr}{i n ep:Nat}{od:Obj}{es:Array DictEntry}{e:DictEntry}{Q:Option Value→Shared→Prop}(hit:s.heap.IsValIter it d i n ep)(hod:s.heap.get? d=some od)(hdd:od.data=.dict es ep)(hn:es.size=n)(hx:es[i]?=some e)
  (hQ:∀h',h'.IsValIter it d (i+1) n ep→Heap.SameBut it s.heap h'→Q (some e.val) { s with heap:=h' }) :
  wpAny (model prog w) A (pyNext (.ref it)) Q E s:=by
 refine br (id hit) fun o ho hc hd=>?_
 refine wpAny_bind (wpAny_attempt (wpAny_callSpecial?_slot (name:=Str.ofString "__next__") hit.typeIs F.slot_dict_valueiterator_next
  (wpAny_call_entry F.slot_dict_valueiterator_next hit.typeIs F.entry_dict_valueiterator_next ?_ (F.args_dict_valueiterator_next_1 _))))
 refine wbp ?_
 refine wpAny_bind ?_
 refine wpAny_bind ?_
 refine wpAny_bind (wpAny_typeNameOfWhole_valiter hit.typeIs (wpAny_pure ?_))
 refine wpAny_bind (wpAny_fieldsOf ho hd ?_)
 refine wbp ?_
 refine wpAny_bind (wpAny_dictEntries hod hdd ?_)
 refine wn ((by rw [hn];simp)) ?_
 refine wbp ?_
 refine wpAny_bind (wpAny_dictEpoch hod hdd ?_)
 refine wn ((by simp)) ?_
 refine wpAny_pure ?_
 simp only [if_false,Int.toNat_natCast,hx]
 refine wpAny_bind ?_
 refine wpAny_bind (wpAny_typeNameOfWhole_valiter hit.typeIs (wpAny_pure ?_))
 refine wpAny_bind (wpAny_isOneOf_valiter hit.typeIs ?_)
 show wpAny _ _ (setField (.ref it) 1 (rawInt ((i:Int)+1))>>=_) _ _ s
 refine wpAny_bind (wpAny_setField ho hd (by simp) ?_)
 have hit':(s.heap.update it (Obj.mapFields (·.setIfInBounds 1 (rawInt ((i:Int)+1))))).IsValIter it d (i+1) n ep :=
  ⟨_,Heap.get?_update_self _ ho (Obj.isFreed_of_fields (Obj.data_mapFields hd _)),(Obj.cls_mapFields ..).trans hc,by rw [Obj.data_mapFields hd];rfl⟩
 refine wpAny_bind (wpAny_holding ?_)
 refine wpAny_bind (wpAny_isOneOf_valiter (s:={ s with heap:=s.heap.update it (Obj.mapFields (·.setIfInBounds 1 (rawInt ((i:Int)+1)))) }) hit'.typeIs ?_)
 refine wpAny_bind (wpAny_isOneOf_valiter (s:={ s with heap:=s.heap.update it (Obj.mapFields (·.setIfInBounds 1 (rawInt ((i:Int)+1)))) }) hit'.typeIs ?_)
 exact wpAny_pure (wpAny_pure ⟨_,rfl,wpAny_pure (hQ _ hit' (Heap.SameBut.update ..))⟩)
theorem sC{it d:Addr}{i n ep:Nat}{od:Obj}{es:Array DictEntry}{Q:Option Value→Shared→Prop}(hh:A.handled=none)(hit:s.heap.IsValIter it d i n ep)(hod:s.heap.get? d=some od)(hdd:od.data=.dict es ep)(hn:es.size=n)(hx:es[i]?=none)
  (hQ:∀h',Heap.ExtBut it s.heap h'→Q none { s with heap:=h' }):wpAny (model prog w) A (pyNext (.ref it)) Q E s:=by
 refine br (id hit) fun o ho hc hd=>?_
 refine wpAny_bind (wpAny_attempt (wpAny_callSpecial?_slot (name:=Str.ofString "__next__") hit.typeIs F.slot_dict_valueiterator_next
  (wpAny_call_entry F.slot_dict_valueiterator_next hit.typeIs F.entry_dict_valueiterator_next ?_ (F.args_dict_valueiterator_next_1 _))))
 refine wbp ?_
 refine wpAny_bind ?_
 refine wpAny_bind ?_
 refine wpAny_bind (wpAny_typeNameOfWhole_valiter hit.typeIs (wpAny_pure ?_))
 refine wpAny_bind (wpAny_fieldsOf ho hd ?_)
 refine wbp ?_
 refine wpAny_bind (wpAny_dictEntries hod hdd ?_)
 refine wn ((by rw [hn];simp)) ?_
 refine wbp ?_
 refine wpAny_bind (wpAny_dictEpoch hod hdd ?_)
 refine wn ((by simp)) ?_
 refine wpAny_pure ?_
 simp only [if_false,Int.toNat_natCast,hx]
 refine wpAny_bind ?_
 refine wpAny_bind (wpAny_typeNameOfWhole_valiter hit.typeIs (wpAny_pure ?_))
 show wpAny _ _ (setField (.ref it) 0 .none>>=_) _ _ s
 refine wpAny_bind (wpAny_setField ho hd (by simp) ?_)
 refine wpAny_bind ?_
 refine wpAny_bind (m:=firstArgMember _ _) (wpAny_of_eq (a:=Value.none) (by first | rfl | (rfl;rfl)) ?_)
 refine wpAny_newObj_type ?_ (by size_fits)
 refine wpAny_bind (wpAny_handled ?_)
 refine (show A.in1.handled=none from hh).symm▸?_
 refine wbp (wpAny_throw ?_)
 refine wpAny_bind (wpAny_isInstance (T:="StopIteration") (b:=true) ⟨_,Heap.get?_push_size _ rfl,rfl⟩ isSubtype_stop ?_)
 exact wpAny_pure (hQ _ (((Heap.SameBut.update ..).extBut.push _).push _))
end
end Mine
end
section
namespace Mine
open PySem PyProof.Rows PySem.W
open scoped Classical
section
variable{B:Base}{γ:Array GenState}{φ ι:Obs}{H:Hp}{s:Shared}{prog:Program}{A:Around}{E:Value→Shared→Prop}
def GV(a:Addr)(n ep i:Nat)(o:Obj):Prop:=o.cls=.type "dict_valueiterator"∧o.data=.fields #[.ref a,.int i 0,.int n 0,.int ep 0]
theorem wX{ι₀:Obs}{es:List (V×V)}{ep:Nat}{Stl:Hp→Prop}{a J:Addr}(hl:∀{γ:Array GenState} {φ ι:Obs} {H:Hp} {s:Shared},Le ι₀ ι→Inv B γ φ ι H s→Stl H→∃o en,s.heap.get? a=some o∧o.data=.dict en ep∧aI (gy B.w ι) en.toList es) :
  Iter prog B ι₀ (es.map (·.2)) Stl J (GV a es.length ep) where
 item:=by
  intro A γ φ ι H s E o i x Q hh le I hn hst hs hx hQ
  refine aP (hl le I hs) fun od en h1 h2 h3=>?_
  have hlen:en.size=es.length:=by exact h3.length
  rw [List.getElem?_map,Option.map_eq_some_iff] at hx
  refine ao hx ?_;clear hx;rintro e he rfl
  refine jF (h3.kU he) fun en1 g1 g2 _ g3=>?_
  refine qz ⟨o,I.fr _ _ hn,hst.1,hst.2⟩ h1 h2 hlen ((Array.getElem?_toList)▸g1) fun h' hi hsb=>?_
  refine br hi fun o' ho' hc' hd'=>?_
  exact hQ _ o' _ ⟨hc',hd'⟩ (I.turn (k:=s.toks) hn hsb ho') g3
 done:=by
  intro A γ φ ι H s E o Q hh le I hn hst hs hQ
  refine aP (hl le I hs) fun od en h1 h2 h3=>?_
  have hlen:en.size=es.length:=by exact h3.length
  rw [List.length_map] at hst
  refine sC hh ⟨o,I.fr _ _ hn,hst.1,hst.2⟩ h1 h2 hlen (Array.getElem?_eq_none (by solve_by_elim (maxDepth:=3) [Nat.le_antisymm,Nat.le_of_lt_succ,Nat.le_of_not_lt,Nat.lt_of_not_le,Nat.le_of_not_le,Nat.succ_le_of_lt,Nat.le_of_eq,Nat.lt_succ_of_le])) fun h' hx=>hQ _ (I.over hn hx)
 self:=fun {A s E o i Q} ho hst hQ=>qv ⟨o,ho,hst.1,hst.2⟩ hQ
 kind:=fun hst=>⟨_,_,hst.1,hst.2,rfl⟩
theorem ng(hh:A.handled=none)(I:Inv B γ φ ι H s){x a:Addr}{es:List (V×V)}{ep:Nat}{Q:PV}(ha:H a=some (.dict es ep))(hz:es.length≤big)(hx:ι x=some { cls:=.type "dict_values",data:=.fields #[.ref a] })
  (q:Q (.lst (es.map (·.2))) H):wpAny (model prog B.w) A (call (.type "list") [.ref x]) (PE B γ φ ι Q) aA s:=by
 refine callType_codes (Q₁:=fun obj s₁=>obj=.ref s.heap.objs.size∧s₁={ s with heap:=s.heap.push { cls:=.type "list",data:=.seq #[] } }) F.called_list (F.typeCall_list_1 _) F.entry_list_init
  (code_list_new _ ⟨rfl,rfl⟩) fun obj s₁ h₁=>?_
 obtain ⟨rfl,rfl⟩:=h₁
 have hS:(s.heap.push { cls:=.type "list",data:=.seq #[] }).get? s.heap.objs.size=some { cls:=.type "list",data:=.seq #[] }:=Heap.get?_push_size _ rfl
 refine ⟨⟨_,hS,rfl⟩,F.args_list_init_2 _ _,?_⟩
 refine cX (I.gk (k:=s.toks) (o:=seqObj "list" #[] 0) rfl) fun hn I1=>?_
 generalize hs1:({ s with heap:=s.heap.push { cls:=.type "list",data:=.seq #[] } }:Shared)=s1
 replace I1:Inv B γ (bh φ s.heap.objs.size (seqObj "list" #[] 0)) ι H s1:=(hs1)▸I1
 show wpAny _ A.in1.in1 (do let old ←Builtin.List.listItems (.ref s.heap.objs.size);Builtin.List.listUpdate (.ref s.heap.objs.size) (fun _=>#[]);letGo old.toList.reverse;Builtin.List.listExtendWith (.ref s.heap.objs.size) (.ref x) .none) _ _ s1
 refine wpAny_bind ?_
 refine wpAny_bind (wpAny_seqItems (I1.fr _ _ (af ..)) rfl (wpAny_pure ?_))
 refine wpAny_bind (wpAny_updateSeq (I1.fr _ _ (af ..)) rfl ?_)
 have g1:=get?_update_seq (I1.fr _ _ (af ..)) (fun _=>(#[]:Array Value))
 have I2:=I1.frame (s':={ s1 with heap:=s1.heap.update s.heap.objs.size (Obj.mapSeq fun _=>#[]) }) (af ..) (Heap.SameBut.update ..) g1 rfl rfl
 have hne:s.heap.objs.size≠x:=fun e=>by
  have:=(I.new (Nat.le_refl s.heap.objs.size)).i
  rw [e,hx] at this;contradiction
 have hview:∀{s' φ' ι'},Le ι ι'→Inv B γ φ' ι' H s'→s'.heap.IsValuesView x a:=fun le I'=>⟨_,I'.data _ _ (le _ _ hx),rfl,rfl⟩
 refine ku (A:=A.in1) (T:="dict_values") (good:=fun l=>l=es.map (·.2)) hh (.inr rfl) hne I2 (af ..) (hview (.refl _) I2).typeIs (fun {s' J o ι'} le hJ I'=>(hview le I').typeIs) ?_ fun s' ι' l φ' acc' c' le hp hφ hS I' hr=>?_
 ·obtain ⟨o,ho,hex,en,h1,h2,h3⟩:=I2.objs _ _ ha
  refine t9 (hview (.refl _) I2) ho h1 ?_
  refine cX (I2.gk (k:=s1.toks) (o:={ cls:=.type "dict_valueiterator",data:=.fields #[.ref a,.int 0 0,.int en.size 0,.int ep 0] }) rfl) fun hnJ I3=>?_
  refine ⟨ι,es.map (·.2),_,_,_,fun H'=>H' a=H a,.refl _,rfl,rfl,wX (a:=a) (es:=es) (ep:=ep) (fun {γ φ ι' H' s'} le I' hs=>?_),rfl,hnJ,I3,((show en.size=es.length from by exact h2.length))▸⟨rfl,rfl⟩,by simpa using hz⟩
  obtain ⟨o',ho',_,en',g1,g2,_⟩:=I'.objs a (.dict es ep) (hs.trans ha)
  exact ⟨o',en',ho',g1,g2⟩
 ·subst hp
  have n3:=I'.newOf (a:=s.heap.objs.size) ((hS)▸Option.some_ne_none _) hn
  have J4:=I'.leave (s':=s') (φ₀:=φ) (a:=s.heap.objs.size) (fun b o e=>by
   have hb:b≠s.heap.objs.size:=by rintro rfl;replace e:=(hn).symm.trans e;injection e
   simp only [hφ b hb,ak hb];exact e) hn ((hS)▸Option.some_ne_none _) (fun _ _ _ e=>e) rfl rfl
  exact ⟨rfl,_,H,.lst (es.map (·.2)),le.trans (Le.add n3.i),J4.note n3 (I'.fr _ _ hS),by exact ⟨_,_,_,rfl,af ..,hr.mono (Le.add n3.i)⟩,q⟩
end
section
variable{K:Kx}{X:Cx K}{φ ι ι':Obs}{ρ:Env}{H H':Hp}{s s':Shared}
theorem wz{e:ME}{x:Expr}{p pos:Pos}(hg:aU K.sc "sorted"=true)(hst:notStar x=true)(he:SE K e x):SE K (.sorted e) (.Call (.Name (sx "sorted") p) [x] [] pos):=fun X φ ρ ι H s Q O w =>
 wpAny_Call_ofName (fz O hg (v:=.builtin "sorted") rfl (Mine.callWith_of (bI (gz (by simp only [List.all_cons,hst];rfl)).1 rfl (wpAny_items_cons (he.run O w fun v s1 ι1 H1 y l1 O1 r1 w=>wpAny_items_nil (wpAny_pure ⟨fQ,by
  obtain ⟨ha,h1,h2,q⟩:=w
  obtain rfl:v=.ref _:=r1
  exact PE.up l1 (wL X.room.h O1.I ha h2 h1 q)⟩)) (eW hst)))))
theorem Bx{e:ME}{z:Expr}{p apos ipos pos:Pos}(hg:aU K.sc "list"=true)(hb:cZ z=true)(hf:bM 0 apos ipos=true)(he:SE K e z) :
  SE K (.vals e) (.Call (.Name (sx "list") p) [.Call (.Attribute z (sx "values") apos) [] [] ipos] [] pos):=fun X φ ρ ι H s Q O w =>
 wpAny_Call_ofName (fz O hg (v:=.type "list") rfl (Mine.callWith_of (bI rfl rfl (wpAny_items_cons (eZ (K:=K) (xs:=[]) (kws:=[]) (kn:=[]) (ks:=[]) hb rfl .nil hf (he.run O w fun ov s1 ι1 H1 y l1 O1 r1 w pl=>by
  obtain @⟨a,es,ep,ha,hz,q⟩:=w
  obtain rfl:ov=.ref a:=r1
  obtain ⟨o,ho,hex,en,h1,h2,h3⟩:=O1.I.objs _ _ ha
  have hT:s1.TypeIs (.ref a) "dict":=⟨_,ho,hex.1⟩
  refine getMethod_builtin (T:="dict") hT F.plainAttrs_dict F.slot_dict_values F.type_dict_values (fun b e=>by cases e;exact ⟨_,ho,hex.2.1⟩) (Mine.callWith_of (bI rfl rfl (wpAny_items_nil (wpAny_pure ⟨fQ,wpAny_call_entry F.slot_dict_values hT F.entry_dict_values ?_ (F.args_dict_values_1 _)⟩))))
  refine wpAny_bind ?_
  refine wpAny_bind (wpAny_notOrdered_dict hT (wpAny_pure (a:=a) ?_))
  delta Builtin.Dict.showsAll
  refine (if_neg ((O1.I.nJ ha)▸Bool.false_ne_true))▸?_
  refine wbp (wpAny_bind (wpAny_newObj_type (wpAny_pure ⟨_,rfl,?_⟩)))
  have n:=O1.I.new (Nat.le_refl s1.heap.objs.size)
  exact wpAny_items_nil (wpAny_pure ⟨⟨_,Looks.of_pure rfl⟩,PE.up (l1.trans (Le.add n.i)) (ng X.room.h ((O1.I.keep (s':={ s1 with heap:=s1.heap.push { cls:=.type "dict_values",data:=.fields #[.ref a] } }) (fun b o' e=>Heap.get?_push_of_some _ e) rfl rfl).note n (Heap.get?_push_size _ rfl)) ha hz (af ..) q)⟩))) rfl))))
end
end Mine
end
section
namespace Mine
open PySem PyProof.Rows PySem.W
open scoped Classical
noncomputable def cst(cells:List (Str×Addr))(acc:List (Str×Addr))(x:Str×NameKind):List (Str×Addr):=if x.2==.free then (x.1,(cells.lookup x.1).getD 0)::acc else acc
noncomputable def fW(cells:List (Str×Addr)):List (Str×NameKind)→List (Str×Addr)→List (Str×Addr)
 |[],acc=>acc
 |x::r,acc=>fW cells r (cst cells acc x)
section
variable{cells acc:List (Str×Addr)}{x:Str×NameKind}
theorem kQ(h:x.2=.free):cst cells acc x=(x.1,(cells.lookup x.1).getD 0)::acc:=if_pos (beq_iff_eq.mpr h)
theorem pI(h:¬x.2=.free):cst cells acc x=acc:=if_neg fun e=>h (eq_of_beq e)
end
theorem eX{α:Type}{o:Option α}{d:α}(h:o.isSome=true):o=some (o.getD d):=by
 cases o
 ·cases h
 ·rfl
theorem Ci{env:PySem.Env}{n:Str}(h:(env.cells.lookup n).isSome=true):cellOf env n=pure ((env.cells.lookup n).getD 0):=by
 delta cellOf;rw [eX (d:=0) h];rfl
theorem Cf{env:PySem.Env}(l:List (Str×NameKind)):∀(acc:List (Str×Addr)),(∀x∈l,x.2=.free→(env.cells.lookup x.1).isSome=true) →
  (forIn l acc fun (x:Str×NameKind) (r:List (Str×Addr))=>(if x.2==.free then do let c ←cellOf env x.1;pure (ForInStep.yield ((x.1,c)::r)) else pure (ForInStep.yield r):Sem (ForInStep (List (Str×Addr)))))=pure (fW env.cells l acc):=by
 induction l with
 |nil=>exact fun _ _=>rfl
 |cons x r ih =>
  intro acc h
  have ih:=ih (cst env.cells acc x) fun y hy=>h y (List.mem_cons_of_mem _ hy)
  rw [List.forIn_cons]
  by_cases hk:x.2=.free
  ·rw [if_pos (beq_iff_eq.mpr hk),Ci (h x List.mem_cons_self hk),pure_bind,pure_bind]
   show _=pure (fW env.cells r (cst env.cells acc x));rw [kQ hk] at ih ⊢;exact ih
  ·rw [if_neg fun e=>hk (eq_of_beq e),pure_bind]
   show _=pure (fW env.cells r (cst env.cells acc x));rw [pI hk] at ih ⊢;exact ih
theorem vF{sc:Scope}{env:PySem.Env}(h:∀x∈sc.names,x.2=.free→(env.cells.lookup x.1).isSome=true):closureFor sc env=pure (fW env.cells sc.names []):=by
 have:=Cf sc.names [] h
 first
  |exact rfl
  |(show (forIn sc.names [] _>>=_)=_;refine (this).symm▸?_;rfl)
theorem vE{cells:List (Str×Addr)}{P:Str→Addr→Prop}{l:List (Str×NameKind)}:∀{acc:List (Str×Addr)},(∀m c,(m,c)∈acc→P m c)→(∀x∈l,x.2=.free→P x.1 ((cells.lookup x.1).getD 0))→∀m c,(m,c)∈fW cells l acc→P m c:=by
 induction l with
 |nil=>exact fun ha _=>ha
 |cons x r ih =>
  refine fun {acc} ha h=>ih (fun m c hm=>?_) fun y hy=>h y (List.mem_cons_of_mem _ hy)
  by_cases hk:x.2=.free
  ·rw [kQ hk] at hm
   refine (List.mem_cons.mp hm).elim (fun e=>?_) (ha m c)
   cases e
   exact h x List.mem_cons_self hk
  ·rw [pI hk] at hm;exact ha m c hm
theorem Ce{cells acc:List (Str×Addr)}{x:Str×NameKind}{y:Str×Addr}(h:y∈acc):y∈cst cells acc x:=by
 by_cases hk:x.2=.free
 ·rw [kQ hk];exact List.mem_cons_of_mem _ h
 ·rw [pI hk];exact h
theorem AQ{cells:List (Str×Addr)}{l:List (Str×NameKind)}{n:Str}:∀{acc:List (Str×Addr)},((n,NameKind.free)∈l∨∃c,(n,c)∈acc)→∃c,(n,c)∈fW cells l acc:=by
 induction l with
 |nil=>exact fun h=>h.elim (fun h=>absurd h List.not_mem_nil) id
 |cons x r ih =>
  refine fun {acc} h=>ih (h.elim (fun h=>(List.mem_cons.mp h).elim (fun e=>.inr ⟨(cells.lookup x.1).getD 0,?_⟩) .inl) fun h=>.inr (h.imp fun c h=>Ce h))
  rw [kQ (e▸rfl)];exact e▸List.mem_cons_self
theorem kB{cells:List (Str×Addr)}(l:List (Str×NameKind))(acc:List (Str×Addr))(ha:∀m c,(m,c)∈acc→cells.lookup m=some c)(h:∀x∈l,x.2=.free→(cells.lookup x.1).isSome=true) :
  (∀m c,(m,c)∈fW cells l acc→cells.lookup m=some c)∧∀n,((n,NameKind.free)∈l∨∃c,(n,c)∈acc)→∃c,(n,c)∈fW cells l acc :=
 ⟨vE ha fun x hx hk=>eX (h x hx hk),fun _=>AQ⟩
theorem mem_lookup{α β:Type}[BEq α][LawfulBEq α]{l:List (α×β)}{a:α}{b:β}(h:(a,b)∈l):∃c,l.lookup a=some c:=by
 induction l with
 |nil=>exact absurd h List.not_mem_nil
 |cons p l ih =>
  skip
  rw [List.lookup_cons]
  by_cases e:(a==p.1)=true
  ·simp only [e];exact ⟨_,rfl⟩
  ·simp only [e]
   refine (List.mem_cons.mp h).elim (fun h=>?_) fun h=>?_
   ·subst h;simp at e
   ·exact ih h
theorem Cg{cells:List (Str×Addr)}{l:List (Str×NameKind)}(h:∀x∈l,x.2=.free→(cells.lookup x.1).isSome=true){n:Str}(hn:(n,NameKind.free)∈l):(fW cells l []).lookup n=cells.lookup n:=by
 refine cX (kB l [] (by simp) h) fun h1 h2=>?_
 obtain ⟨c,hc⟩:=h2 n (.inl hn)
 obtain ⟨c',hc'⟩:=mem_lookup hc
 exact (hc').trans (h1 n c' (lookup_mem hc')).symm
theorem m8{gs:Scope}{env:PySem.Env}{n:Str}:(relabel gs env).names.lookup n=(gs.names.lookup n).map fun k=>if (k==.free&&env.scope.kind==.function&&env.kindOf n==some .cell) then .cell else k:=by
 show (gs.names.map _).lookup n=_
 induction gs.names with
 |nil=>rfl
 |cons p l ih =>
  obtain ⟨x,y⟩:=p
  simp only [List.map_cons]
  by_cases e:(n==x)=true
  ·have e':n=x:=by simpa using e
   subst e'
   by_cases c:(y==NameKind.free&&env.scope.kind==.function&&env.kindOf n==some .cell)=true
   ·rw [if_pos c];simp only [List.lookup_cons,beq_self_eq_true,Option.map_some];rw [if_pos c]
   ·rw [if_neg c];simp only [List.lookup_cons,beq_self_eq_true,Option.map_some];rw [if_neg c]
  ·by_cases c:(y==NameKind.free&&env.scope.kind==.function&&env.kindOf x==some .cell)=true
   ·rw [if_pos c];simp only [List.lookup_cons,e];exact ih
   ·rw [if_neg c];simp only [List.lookup_cons,e];exact ih
inductive Tgt(sc:Scope):List String→Expr→Prop
 |one {x:String} {p:Pos} (h:bK sc x=true):Tgt sc [x] (.Name (sx x) p)
 |two {x y:String} {p q c:Pos} {k:Nat} (h:bK sc x=true) (h':bK sc y=true):Tgt sc [x,y] (.Tuple [.Name (sx x) p,.Name (sx y) q] k c)
structure bw(φ:Obs)(env:PySem.Env):Prop where
 loc:∃o m,φ env.locals=some o∧NsO o m
 ap:∀c,c∈env.cells.map (·.2)→c≠env.locals
 nsp:(env.scope.kind==.class||(env.scope.kind==.module&&env.locals !=env.globals))=false
theorem q8(ρ:Env)(x:String)(v:V):put ρ x v x=some v:=if_pos rfl
theorem lF{ρ:Env}{x y:String}{v:V}(h:y≠x):put ρ x v y=ρ y:=if_neg h
theorem bX{x:Str}{c:Addr}{l:List (Str×Addr)}(h:l.lookup x=some c):c∈l.map (·.2):=List.mem_map.mpr ⟨_,lookup_mem h,rfl⟩
theorem rL{h h':Heap}(hx:Heap.ExtBut h.objs.size h h'):∀b o,h.get? b=some o→h'.get? b=some o:=fun b o e=>hx b o (Nat.ne_of_lt (Heap.lt_size e)) e
section
variable{K:Kx}{X:Cx K}{φ φ' ι ι':Obs}{ρ:Env}{H H':Hp}{s s':Shared}
theorem bz(O:X.Ok φ ρ ι H s){x:String}(h:bK K.sc x=true):X.env.kindOf (sx x)=some .local:=by
 rcases O.Ev.names x (by delta iD;rw [(eq_of_beq h)]) with e | ⟨e,_⟩
 ·rw [e];exact (eq_of_beq h)
 ·replace e:=((eq_of_beq h)).symm.trans e;contradiction
theorem fM(O:X.Ok φ ρ ι H s)(Fr:bw φ X.env){x:String}{v:Value}{y:V}(r:Rep ι v y)(hx:X.env.kindOf (sx x)=some .local){Q:Unit→Shared→Prop}{E:Value→Shared→Prop}
  (h:∀φ' s',(∀b,b≠X.env.locals→φ' b=φ b)→X.Ok φ' (put ρ x y) ι H s'→bw φ' X.env→Q () s'):wpAny K.M X.A (storeName X.env (sx x) v) Q E s:=by
 obtain ⟨o,m,ho,es,ep,hd,hk,hm⟩:=Fr.loc
 refine wpAny_storeName_local hx ⟨o,es,ep,O.I.fr _ _ ho,hd,hk,hm⟩ (fun h' ⟨o',es',ep',ho',hd',hk',hm'⟩ hs=>?_) Fr.nsp
 have hns:NsO o' (fun n=>if n=sx x then some v else m n):=⟨es',ep',hd',hk',hm'⟩
 refine h _ _ (fun b hb=>ak hb) ⟨O.I.frame (s':={ s with heap:=h',toks:=s.toks+1 }) ho hs ho' rfl rfl,{ O.Ev with vars:=fun z u hz=>?_ }⟩ ⟨⟨o',_,af ..,hns⟩,Fr.ap,Fr.nsp⟩
 by_cases e:z=x
 ·cases e
  rw [q8] at hz;cases hz
  exact .loc v r hx o' _ (af ..) hns (if_pos rfl)
 ·replace hz:=(lF e).symm.trans hz
  cases O.Ev.vars z u hz with
  |loc v' r' hk2 o2 m2 ho2 hn2 hv2 =>
   replace ho2:=(ho).symm.trans ho2;cases ho2
   refine aP hn2 fun es2 ep2 hd3 hk3 hm3=>?_
   replace hd3:=(hd).symm.trans hd3;cases hd3
   exact .loc v' r' hk2 o' _ (af ..) hns ((if_neg fun h=>e (lD h)).trans (by rw [←hm,hm3];exact hv2))
  |cel v' r' hk2 c o2 hc ho2 hd2=>exact .cel v' r' hk2 c o2 hc ((ak (Fr.ap c (bX hc))).trans ho2) hd2
theorem iO(O:X.Ok φ ρ ι H s)(Fr:bw φ X.env){xs:List String}{t:Expr}{v:Value}{y:V}{ρ':Env}(ht:Tgt K.sc xs t)(r:Rep ι v y)(hb:eG xs y ρ=some ρ'){Q:Unit→Shared→Prop}{E:Value→Shared→Prop}
  (h:∀φ' s',(∀b,b≠X.env.locals→φ' b=φ b)→X.Ok φ' ρ' ι H s'→bw φ' X.env→Q () s'):wpAny K.M X.A (assign t X.env v) Q E s:=by
 cases ht with
 |one hk=>cases hb;exact wpAny_assign_Name (fM O Fr r (bz O hk) h)
 |@two x x' p q c k hk hk' =>
  cases y with
  |tup l =>
   match l,hb with
   |[u1,u2],hb =>
    cases hb
    refine bP (bJ r) ?_;rintro c n ⟨il⟩ rfl h1 h2
    refine qP h2 fun v1 v2 e r1 r2=>?_
    simp only at e;subst e
    refine wpAny_assign_Tuple X.room.h ⟨_,O.I.data _ _ h1,rfl,n,rfl⟩ rfl rfl fun h' hx=>?_
    exact wpAny_assignInOrder_more (wpAny_assign_Name (fM ⟨O.I.keep (s':={ s with heap:=h' }) (rL hx) rfl rfl,O.Ev⟩ Fr r1 (bz O hk) fun φ1 s1 e1 O1 Fr1 =>
     wpAny_assignInOrder_more (wpAny_assign_Name (fM O1 Fr1 r2 (bz O1 hk') fun φ2 s2 e2 O2 Fr2=>wpAny_assignInOrder_none (h φ2 s2 (fun b hb=>(e2 b hb).trans (e1 b hb)) O2 Fr2)))))
  |_=>injection hb
theorem cU.sub{B:Base}{sc:Scope}{env:PySem.Env}(Ev:cU B ι φ sc env ρ){ρ':Env}(h:∀x y,ρ' x=some y→ρ x=some y):cU B ι φ sc env ρ':={ Ev with vars:=fun x y hy=>Ev.vars x y (h x y hy) }
theorem cU.but{B:Base}{sc:Scope}{env:PySem.Env}(Ev:cU B ι φ sc env ρ){D:Addr}(h:∀b,b≠D→φ' b=φ b)(h1:D≠env.locals)(h2:D∉env.cells.map (·.2)):cU B ι φ' sc env ρ:={ Ev with vars:=fun x y hy=>match Ev.vars x y hy with
 |.loc v r k o m a n e=>.loc v r k o m ((h _ (Ne.symm h1)).trans a) n e
 |.cel v r k c o e a d=>.cel v r k c o e ((h c fun e'=>h2 (e'▸bX e)).trans a) d }
theorem bw.but{env:PySem.Env}(Fr:bw φ env){D:Addr}(h:∀b,b≠D→φ' b=φ b)(h1:D≠env.locals):bw φ' env :=
 let ⟨o,m,ho,hn⟩:=Fr.loc;⟨⟨o,m,(h _ (Ne.symm h1)).trans ho,hn⟩,Fr.ap,Fr.nsp⟩
noncomputable def bN(sc gs:Scope)(xs caps:List String):Bool :=
 gs.kind==.function&&gu sc&&(gs.names.all fun x=>x.2 !=.cell)&&(gs.names.all fun x=>x.2 !=.local||gs.names.lookup x.1==some .local) &&
 (gs.names.all fun x=>x.2 !=.free||(caps.any fun c=>sx c==x.1))&&(caps.all fun c=>gs.names.lookup (sx c)==some .free&&sc.names.lookup (sx c) !=some .local&&iD sc c && !xs.contains c)
structure lP(sc gs:Scope)(xs caps:List String):Prop where
 k:gs.kind=.function
 g:gu sc=true
 nc:∀x∈gs.names,x.2≠.cell
 nl:∀x∈gs.names,x.2=.local→gs.names.lookup x.1=some .local
 fr:∀x∈gs.names,x.2=.free→∃c∈caps,sx c=x.1
 cf:∀c∈caps,gs.names.lookup (sx c)=some .free
 cl:∀c∈caps,sc.names.lookup (sx c)≠some .local
 ck:∀c∈caps,iD sc c=true
 cx:∀c∈caps,c∉xs
theorem jZ{sc gs:Scope}{xs caps:List String}(h:bN sc gs xs caps=true):lP sc gs xs caps:=by
 simp only [bN,Bool.and_eq_true,List.all_eq_true,Bool.or_eq_true,List.any_eq_true,beq_iff_eq,bne_iff_ne,Bool.not_eq_true',List.contains_eq_mem,decide_eq_false_iff_not] at h
 obtain ⟨⟨⟨⟨⟨h1,h2⟩,h3⟩,h4⟩,h5⟩,h6⟩:=h
 exact ⟨h1,h2,h3,fun x hx e=>(h4 x hx).resolve_left fun n=>n e,fun x hx e=>let ⟨c,hc,e⟩:=(h5 x hx).resolve_left fun n=>n e;⟨c,hc,e⟩,fun c hc=>(h6 c hc).1.1.1,fun c hc=>(h6 c hc).1.1.2,fun c hc=>(h6 c hc).1.2,fun c hc=>(h6 c hc).2⟩
theorem ze{gs:Scope}{xs caps:List String}(S:lP K.sc gs xs caps)(O:X.Ok φ ρ ι H s){c:String}{y:V}(hc:c∈caps)(hy:ρ c=some y):∃v ca o,Rep ι v y∧X.env.cells.lookup (sx c)=some ca∧φ ca=some o∧o.data=.cell (some v):=by
 cases O.Ev.vars c y hy with
 |loc v r hk=>exact absurd hk (by
   rcases O.Ev.names c (S.ck c hc) with e1 | ⟨_,e1⟩<;>refine (e1)▸?_
   ·exact S.cl c hc
   ·exact fun e=>nomatch e)
 |cel v r hk ca o e ho hd=>exact ⟨v,ca,o,r,e,ho,hd⟩
end
end Mine
end
section
set_option backward.match.sparseCases false
namespace Mine
open PySem PyProof.Rows PySem.W
open scoped Classical
section
variable{prog:Program}{w:World}{A:Around}{R:Result→Shared→Prop}{s:Shared}
noncomputable abbrev tests(ifs:List Expr)(env:PySem.Env):Sem Bool:=forIn ifs true fun c r=>if r=true then do let ok ←isTrue c env (eval c env);pure (ForInStep.yield ok) else pure (ForInStep.yield r)
theorem ux{elt target iter:Expr}{ifs:List Expr}{scope:Scope}{pos:Pos}{it acc:Value}{env:PySem.Env}(I:Nat→Shared→Prop)
  (turn:∀n s,I n s→wpAny (model prog w) A (pyNext it) (fun r s₁=>match r with
   |none=>R (.ok .next) s₁
   |some v=>wpAny (model prog w) A (letOwnedTupleGo target it v) (fun _ s₁'=>wpAny (model prog w) A (assign target env v) (fun _ s₂ =>
     wpAny (model prog w) A (tests ifs env) (fun ok s₃ =>
      if ok=true then wpAny (model prog w) A (eval elt env) (fun x s₄ =>
       wpAny (model prog w) A (call (.builtin "list.append") [acc,x]) (fun _ s₅=>∃m,m<n∧I m s₅) aA s₄) aA s₃
      else ∃m,m<n∧I m s₃) aA s₂) aA s₁') aA s₁) aA s)
  (n:Nat) (h:I n s):codeAny (model prog w) A (.compLoop (.ListComp elt [⟨target,iter,ifs,0⟩] scope pos) 0 it acc env) R s:=by
 refine codeAny_loop rfl I (fun n s hI=>?_) n h
 show wpAny _ A ((compTurn (.ListComp elt [⟨target,iter,ifs,0⟩] scope pos) 0 it acc env).onRaise (fun x=>do noteFrame x env;theTreesLotGoes x)) _ _ s
 refine wpAny_noted ?_
 rw [compTurn_list]
 refine wpAny_bind (wpAny_standAt (wpAny_bind (wpAny_mono (turn n s hI) (fun r s₁ h₁=>?_) fun _ _ h'=>h'.elim)))
 cases r with
 |none=>exact wpAny_pure h₁
 |some v =>
  refine wpAny_bind (wpAny_mono h₁ (fun _ s₁' h₁'=>?_) fun _ _ h'=>h'.elim)
  refine wpAny_bind (wpAny_mono h₁' (fun _ s₂ h₂=>wpAny_bind (wpAny_mono h₂ (fun ok s₃ h₃=>?_) fun _ _ h'=>h'.elim)) fun _ _ h'=>h'.elim)
  cases ok with
  |false=>exact wpAny_pure ⟨rfl,h₃⟩
  |true =>
   exact wpAny_bind (wpAny_bind (wpAny_mono h₃ (fun x s₄ h₄=>wpAny_bind (wpAny_mono h₄ (fun _ s₅ h₅=>wpAny_pure (wpAny_pure ⟨rfl,h₅⟩)) fun _ _ h'=>h'.elim)) fun _ _ h'=>h'.elim))
end
theorem compTurn_dict(ke ve target iter:Expr)(scope:Scope)(pos:Pos)(it:Value)(d:Addr)(env:PySem.Env) :
  compTurn (.DictComp ke ve [⟨target,iter,[],0⟩] scope pos) 0 it (.ref d) env=(do
   standAt iter.pos
   match ←pyNext it with
   |none=>pure (.done .next)
   |some v =>
    letOwnedTupleGo target it v
    assign target env v
    (do
     let kv ←eval ke env
     let vv ←holding [kv] (eval ve env)
     standAt { ke.pos with endLine:=ve.pos.endLine,endCol:=ve.pos.endCol }
     holding [kv,vv] (dictSet d kv vv))
    again (.compLoop (.DictComp ke ve [⟨target,iter,[],0⟩] scope pos) 0 it (.ref d) env)):=rfl
section
variable{prog:Program}{w:World}{A:Around}{R:Result→Shared→Prop}{s:Shared}
theorem tR{ke ve target iter:Expr}{rest:List Comprehension}{scope:Scope}{pos:Pos}{it acc:Value}{env:PySem.Env}
  (h0:codeAny (model prog w) A (.compLoop (.DictComp ke ve (⟨target,iter,[],0⟩::rest) scope pos) 0 it acc env) R s)
  (h:wpAny (model prog w) A (pyIter it) (fun it' s'=>codeAny (model prog w) A (.compLoop (.DictComp ke ve (⟨target,iter,[],0⟩::rest) scope pos) 0 it' acc env) R s') aA s) :
  codeAny (model prog w) A (.compStart (.DictComp ke ve (⟨target,iter,[],0⟩::rest) scope pos) 0 it acc env) R s:=by
 refine codeAny_of_tree ?_
 refine wpAny_notedAt ?_
 refine wpAny_bind (wpAny_askSetting ?_)
 split
 ·exact wpAny_pure ⟨rfl,h0⟩
 ·refine wpAny_bind (wpAny_rule ?_)
  refine wpAny_bind (wpAny_standAt ?_)
  exact wpAny_bind (wpAny_mono h (fun it' s' h'=>wpAny_pure ⟨rfl,h'⟩) fun _ _ x=>x.elim)
theorem uu{ke ve target iter:Expr}{scope:Scope}{pos:Pos}{it:Value}{d:Addr}{env:PySem.Env}(I:Nat→Shared→Prop)
  (turn:∀n s,I n s→wpAny (model prog w) A (pyNext it) (fun r s₁=>match r with
   |none=>R (.ok .next) s₁
   |some v=>wpAny (model prog w) A (letOwnedTupleGo target it v) (fun _ s₁'=>wpAny (model prog w) A (assign target env v) (fun _ s₂ =>
     wpAny (model prog w) A (eval ke env) (fun kv s₃=>wpAny (model prog w) A (eval ve env) (fun vv s₄=>wpAny (model prog w) A (dictSet d kv vv) (fun _ s₅=>∃m,m<n∧I m s₅) aA s₄) aA s₃) aA s₂) aA s₁') aA s₁) aA s)
  (n:Nat) (h:I n s):codeAny (model prog w) A (.compLoop (.DictComp ke ve [⟨target,iter,[],0⟩] scope pos) 0 it (.ref d) env) R s:=by
 refine codeAny_loop rfl I (fun n s hI=>?_) n h
 show wpAny _ A ((compTurn (.DictComp ke ve [⟨target,iter,[],0⟩] scope pos) 0 it (.ref d) env).onRaise (fun x=>do noteFrame x env;theTreesLotGoes x)) _ _ s
 refine wpAny_noted ?_
 rw [compTurn_dict]
 refine wpAny_bind (wpAny_standAt (wpAny_bind (wpAny_mono (turn n s hI) (fun r s₁ h₁=>?_) fun _ _ h'=>h'.elim)))
 cases r with
 |none=>exact wpAny_pure h₁
 |some v =>
  refine wpAny_bind (wpAny_mono h₁ (fun _ s₁' h₁'=>?_) fun _ _ h'=>h'.elim)
  refine wpAny_bind (wpAny_mono h₁' (fun _ s₂ h₂=>wpAny_bind (wpAny_bind (wpAny_mono h₂ (fun kv s₃ h₃=>wpAny_bind (wpAny_holding (wpAny_mono h₃ (fun vv s₄ h₄=>wpAny_bind (wpAny_standAt (wpAny_holding (wpAny_mono h₄ (fun _ s₅ h₅=>?_) fun _ _ h'=>h'.elim)))) fun _ _ h'=>h'.elim))) fun _ _ h'=>h'.elim))) fun _ _ h'=>h'.elim)
  exact wpAny_pure ⟨rfl,h₅⟩
end
section
variable{B:Base}{γ:Array GenState}{φ φ' ι:Obs}{H:Hp}{s:Shared}{prog:Program}{A:Around}
theorem sE{E:Value→Shared→Prop}{D:Addr}{items:Array Value}{n:Nat}{v:Value}{Q:Value→Shared→Prop}{w:World}(hD:IsL s.heap D items n)(hz:items.size≤sizeLine)
  (h:Q .none { s with heap:=s.heap.update D (Obj.mapSeq fun xs=>xs.push v) }):wpAny (model prog w) A (call (.builtin "list.append") [.ref D,v]) Q E s :=
 call_meets F.slot_list_append ⟨_,hD,rfl⟩ F.entry_list_append (F.args_list_append_2 _ _) (list_append D items n v hz) ⟨hD,h⟩
noncomputable def dX(ps:List V):List (V×V):=ps.foldl (fun es p=>match p with | .tup [kv,wv]=>dput es kv wv | _=>es) []
theorem qC(ps:List V)(kv wv:V):dX (ps++[.tup [kv,wv]])=dput (dX ps) kv wv:=by
 delta dX;rw [List.foldl_append];rfl
theorem uv{E:Value→Shared→Prop}(hu:A.units+100<cLine)(I:Inv B γ φ ι H s){D:Addr}{o:Obj}{es:List (V×V)}{ep:Nat}{kv wv:V}{vk vv:Value}{Q:Unit→Shared→Prop}(hD:φ D=some o)(hr:iy B.w ι o (.dict es ep))(hes:∀e∈es,isAtoms e.1=true)(hk:isAtoms kv=true)(hz:es.length≤big)
  (rk:Rep ι vk kv) (rv:Rep ι vv wv) (q:∀h' o' ep' tk,Heap.SameBut D s.heap h'→h'.get? D=some o'→iy B.w ι o' (.dict (dput es kv wv) ep')→Q () { s with heap:=h',toks:=tk }):wpAny (model prog B.w) A (dictSet D vk vv) Q E s:=by
 refine ao (yc (prog:=prog) I rk hk) ?_;rintro a' rfl his
 refine ao (qT (prog:=prog) I.data (I.fr _ _ hD) hr hes) fun xs h1 h2=>?_
 refine wpAny_dictSet_heap (show A.units+10<cLine by exact N.g3 hu (of_decide_eq_true rfl)) his h1 (fun h' d' sb=>?_) (by have:=h2.length;delta sizeLine;exact N.b4 this (N.h3 hz))
 refine ez (mW d' (kj h2 rk rv) (bF (P:=fun v=>isAtoms v=true) hes hk)) fun o' ep' ho' hr'=>?_
 exact q h' o' ep' _ sb ho' hr'
end
section
variable{K:Kx}{X:Cx K}{φ φ' ι ι':Obs}{ρ:Env}{H H':Hp}{s s':Shared}{gs:Scope}{xs caps:List String}
noncomputable def compEnv(gs:Scope)(env:PySem.Env)(L:Addr):PySem.Env:={ newEnv gs L env.globals (fW env.cells gs.names []) env.qual none .none (some env) builtinsNs with scope:=relabel gs env }
theorem jY(S:lP K.sc gs xs caps)(O:X.Ok φ ρ ι H s)(hb:∀c∈caps,(ρ c).isSome=true){x:Str}(hx:(x,NameKind.free)∈gs.names):∃ca o,X.env.cells.lookup x=some ca∧φ ca=some o :=
 let ⟨c,hc,e⟩:=S.fr _ hx rfl
 let ⟨y,hy⟩:=Option.isSome_iff_exists.mp (hb c hc)
 let ⟨_,ca,o,_,h1,h2,_⟩:=ze S O hc hy
 ⟨ca,o,(show sx c=x from e)▸h1,h2⟩
theorem rO(S:lP K.sc gs xs caps)(O:X.Ok φ ρ ι H s)(hb:∀c∈caps,(ρ c).isSome=true)(hl:Le φ φ'){L:Addr}{lo:Obj}{m:Str→Option Value}(hL:φ' L=some lo)(hn:NsO lo m)(hf:φ L=none) :
  cU K.B ι φ' gs (compEnv gs X.env L) (only ρ caps)∧bw φ' (compEnv gs X.env L):=by
 have hsome:∀x∈gs.names,x.2=.free→(X.env.cells.lookup x.1).isSome=true:=fun x hx hf=>let ⟨ca,o,e,_⟩:=jY S O hb (x:=x.1) (hf▸hx);by refine (e)▸?_;rfl
 have kd:∀n,(compEnv gs X.env L).kindOf n=(gs.names.lookup n).map fun k=>if (k==.free&&X.env.scope.kind==.function&&X.env.kindOf n==some .cell) then .cell else k:=fun n=>m8
 refine ⟨⟨fun x hx=>?_,fun x hx=>by simp only [kd,hx];rfl,S.k,O.Ev.g,O.Ev.b,fun _=>O.Ev.code S.g,fun x y hy=>?_⟩,⟨⟨lo,m,hL,hn⟩,fun c hc e=>?_,by refine (show (compEnv gs X.env L).scope.kind=.function from S.k)▸?_;rfl⟩⟩
 ·rw [kd]
  cases e:gs.names.lookup (sx x) with
  |none=>exact .inl rfl
  |some k =>
   simp only [Option.map_some]
   split
   ·rename_i c;exact .inr ⟨congrArg some (eq_of_beq (Bool.and_eq_true_iff.mp (Bool.and_eq_true_iff.mp c).1).1),rfl⟩
   ·exact .inl rfl
 ·unfold only at hy
  split at hy
  ·rename_i hc
   refine kW (ze S O hc hy) fun v ca o r hca ho hd=>?_
   refine .cel v r ?_ ca o ((Cg hsome (lookup_mem (S.cf x hc))).trans hca) (hl _ _ ho) hd
   simp only [kd,(S.cf x hc),Option.map_some];split
   ·exact .inl rfl
   ·exact .inr rfl
  ·injection hy
 ·refine ao (List.mem_map.mp hc) ?_;rintro ⟨n,ca⟩ hp e2
  have hca:=(kB (cells:=X.env.cells) gs.names [] (fun _ _ h=>xm (h)) hsome).1 n ca hp
  refine ez (jY S O hb (vE (P:=fun m _=>(m,NameKind.free)∈gs.names) (acc:=[]) (fun _ _ h=>absurd h List.not_mem_nil) (fun x hx e=>e▸hx) _ _ hp)) fun ca' o h1 h2=>?_
  replace h1:=(hca).symm.trans h1;cases h1
  simp only at e2;rw [e2,e] at h2
  replace h2:=(hf).symm.trans h2;injection h2
inductive eo(K:Kx)(e:ME):List Expr→Prop
 |no (h:dB e=true):eo K e []
 |one {c:Expr} (h:dB e=false) (he:ST K e c):eo K e [c]
theorem rN{e:ME}{ifs:List Expr}(h:eo K e ifs)(O:X.Ok φ ρ ι H s){Q:Bool→Hp→Prop}{P:Bool→Shared→Prop}{E:Value→Shared→Prop}(w:kh (dB e) (wpE K.F e ρ H) H Q)(k:∀b s' ι' H',Le ι ι'→X.Ok φ ρ ι' H' s'→Q b H'→P b s') :
  wpAny K.M X.A (tests ifs X.env) P E s:=by
 cases h with
 |no h=>replace w:=(h)▸w;exact wpAny_pure (k _ _ _ _ (.refl _) O w)
 |one hn he =>
  replace w:=(hn)▸w
  show wpAny _ _ (forIn [_] true _) _ _ _
  rw [List.forIn_cons]
  exact wpAny_bind (wpAny_bind (he.run O w (fun _ _ q=>q) fun b s1 ι1 H1 l1 O1 q=>wpAny_pure (show wpAny _ _ (pure b) _ _ _ from wpAny_pure (k b s1 ι1 H1 l1 O1 q))))
structure Acc(K:Kx) where
 T:List V→Hp→Prop
 AR:Obs→Obj→List V→Prop
 step:V→Hp→(Option V→Hp→Prop)→Prop
 xs:List String
 t:Expr
 ρ:Env
 ht:Tgt K.sc xs t
 hρ:∀c y,ρ c=some y→c∉xs
 hb:∀x H R,step x H R→∃ρ',eG xs x ρ=some ρ'
 mono:∀{ι ι' o vs},Le ι ι'→AR ι o vs→AR ι' o vs
structure Turn{K:Kx}(G:Acc K) where
 Y:Cx K
 J:Addr
 D:Addr
 St:Nat→Obj→Prop
 l:List V
 Stl:Hp→Prop
 ι₀:Obs
 φ₀:Obs
 hJD:J≠D
 hJL:J≠Y.env.locals
 hDL:D≠Y.env.locals
 hJc:J∉Y.env.cells.map (·.2)
 hDc:D∉Y.env.cells.map (·.2)
 It:Iter K.prog K.B ι₀ l Stl J St
theorem uA{xs:List String}{v:V}{ρ ρ':Env}(h:eG xs v ρ=some ρ'){c:String}(hc:c∉xs):ρ' c=ρ c:=by
 cases xs with
 |nil=>injection h
 |cons x r =>
  cases r with
  |nil=>exact Option.some.inj h▸lF fun e=>hc (e▸.head _)
  |cons y r =>
   have one:r=[]→(∃a b,v=.tup [a,b])→ρ' c=ρ c:=fun e g=>f5 g fun a b g=>by
    subst e g
    exact Option.some.inj h▸(lF fun e=>hc (List.mem_cons_of_mem _ (List.mem_singleton.mpr e))).trans (lF fun e=>hc (List.mem_cons.mpr (.inl e)))
   cases r with
   |cons _ _=>cases v<;>injection h
   |nil =>
    cases v with
    |tup l =>
     cases l with
     |nil=>injection h
     |cons a l =>
      cases l with
      |nil=>injection h
      |cons b l =>
       cases l with
       |nil=>exact one rfl ⟨a,b,rfl⟩
       |cons _ _=>injection h
    |_=>injection h
inductive CS{G:Acc K}(Z:Turn G)(n:Nat)(s:Shared):Prop
 |mk (i:Nat) (φ ι:Obs) (H:Hp) (o oD:Obj) (acc:List V) (hn:n=Z.l.length-i) (hi:i≤Z.l.length) (le:Le Z.ι₀ ι) (hφ:∀b,b≠Z.J→b≠Z.D→b≠Z.Y.env.locals→φ b=Z.φ₀ b)
   (O:Z.Y.Ok φ G.ρ ι H s) (hJ:φ Z.J=some o) (hS:Z.St i o) (hD:φ Z.D=some oD) (hr:G.AR ι oD acc) (Fr:bw φ Z.Y.env) (w:fV G.step Z.Stl (Z.l.drop i) acc H G.T)
inductive CE{G:Acc K}(Z:Turn G)(r:Result)(s:Shared):Prop
 |mk (e:r=.ok .next) (φ ι:Obs) (H:Hp) (oD:Obj) (vs:List V) (le:Le Z.ι₀ ι) (hφ:∀b,b≠Z.J→b≠Z.D→b≠Z.Y.env.locals→φ b=Z.φ₀ b) (I:∀φ₁,Le φ₁ φ→φ₁ Z.J=none→Inv K.B Z.Y.γ φ₁ ι H s)
   (hD:φ Z.D=some oD) (hr:G.AR ι oD vs) (Fr:bw φ Z.Y.env) (w:G.T vs H)
theorem oN{G:Acc K}{Z:Turn G}{n:Nat}{P:Shared→Prop}
  (body:∀{x ρ' φ ι H oD acc s} {R:Option V→Hp→Prop},eG G.xs x G.ρ=some ρ'→Z.Y.Ok φ ρ' ι H s→bw φ Z.Y.env→φ Z.D=some oD→G.AR ι oD acc→acc.length≤big→G.step x H R →
   (∀ι' H' s',Le ι ι'→Inv K.B Z.Y.γ φ ι' H' s'→R none H'→∃m,m<n∧CS Z m s') →
   (∀ι' H' s' o' v,Le ι ι'→Inv K.B Z.Y.γ (bh φ Z.D o') ι' H' s'→G.AR ι' o' (acc++[v])→R (some v) H'→∃m,m<n∧CS Z m s')→P s)
  (C:CS Z n s):wpAny K.M Z.Y.A (pyNext (.ref Z.J)) (fun r s₁=>match r with
   |none=>CE Z (.ok .next) s₁
   |some v=>wpAny K.M Z.Y.A (letOwnedTupleGo G.t (.ref Z.J) v) (fun _ s₁'=>wpAny K.M Z.Y.A (assign G.t Z.Y.env v) (fun _ s₂=>P s₂) aA s₁') aA s₁) aA s:=by
 obtain ⟨i,φ,ι,H,o,oD,acc,hn,hi,le,hφ,O,hJ,hS,hD,hr,Fr,w⟩:=C
 rcases Nat.lt_or_eq_of_le hi with hlt | rfl
 ·rw [List.drop_eq_getElem_cons hlt] at w
  refine bG w fun hs hz w=>?_
  refine Z.It.item Z.Y.room.h le O.I hJ hS hs (List.getElem?_eq_getElem hlt) fun v o' s1 hS' I1 rv=>?_
  refine aP (Z.It.kind hS') fun T' vs' k1 k2 k3=>?_
  refine yt (I1.fr Z.J o' (af ..)) k1 k2 k3 ?_
  refine aL (G.hb _ _ _ w) fun ρ' hb=>?_
  refine iO ⟨I1,O.Ev.but (fun b hb=>ak hb) Z.hJL Z.hJc⟩ (Fr.but (fun b hb=>ak hb) Z.hJL) G.ht rv hb fun φ2 s2 e2 O2 Fr2=>?_
  have hJ2:=(e2 Z.J Z.hJL).trans (af ..)
  have hD2:=(e2 Z.D Z.hDL).trans ((ak (Ne.symm Z.hJD)).trans hD)
  have hφ2:=fun b h1 h2 h3=>(e2 b h3).trans ((ak h1).trans (hφ b h1 h2 h3))
  have hm:Z.l.length-(i+1)<n:=(N.a4 hn hlt)
  have Ev2:=O2.Ev.sub (ρ':=G.ρ) fun c y hy=>(uA hb (G.hρ c y hy)).trans hy
  exact body hb O2 Fr2 hD2 hr hz w (fun ι' H' s' l I' w'=>⟨_,hm,.mk (i+1) φ2 ι' H' o' oD acc rfl hlt (le.trans l) hφ2 ⟨I',Ev2.mono l⟩ hJ2 hS' hD2 (G.mono l hr) Fr2 w'⟩)
   fun ι' H' s' oE v l I' hr' w'=>⟨_,hm,.mk (i+1) _ ι' H' o' oE _ rfl hlt (le.trans l) (fun b h1 h2 h3=>(ak h2).trans (hφ2 b h1 h2 h3)) ⟨I',(Ev2.mono l).but (fun b hb=>ak hb) Z.hDL Z.hDc⟩ ((ak Z.hJD).trans hJ2) hS' (af ..) hr' (Fr2.but (fun b hb=>ak hb) Z.hDL) w'⟩
 ·rw [List.drop_length] at w
  exact Z.It.done Z.Y.room.h le O.I hJ hS w.1 fun s' hs'=>.mk rfl φ ι H oD acc le hφ hs' hD hr Fr w.2
end
end Mine
end
section
namespace Mine
open PySem PyProof.Rows PySem.W
open scoped Classical
section
variable{K:Kx}{X:Cx K}{φ φ' ι ι':Obs}{ρ:Env}{H H':Hp}{s s':Shared}{gs:Scope}{xs caps:List String}
noncomputable abbrev Kx.at(K:Kx)(gs:Scope):Kx:={ K with sc:=gs }
noncomputable def dH(x:Expr):Bool:=x.ctorIdx !=7
theorem vt{x:Expr}(h:dH x=true)(env:PySem.Env)(v:Value):foldedSetIterable x env v=pure v:=by
 cases x<;>first | rfl | exact xf h
def PEL(B:Base)(γ:Array GenState)(φ ι:Obs)(Q:PV)(L:Addr)(v:Value)(s:Shared):Prop:=φ L=none∧∃lo m,NsO lo m∧PE B γ (bh φ L lo) ι Q v s
theorem oO{E:Value→Shared→Prop}{use:Option (Value→Sem Unit)}{QQ:Value→Shared→Prop}{ipos:Pos}{Q:PV}{ce it:Expr}{iter:ME}{ifs:List Expr}{T:String}{data:Data}(G:Acc (K.at gs))(hcl:clausesOf ce=[⟨G.t,it,ifs,0⟩])(hset:dH it=true)
  (S:lP K.sc gs G.xs caps) (hρ:G.ρ=only ρ caps) (hit:SE K iter it) (O:X.Ok φ ρ ι H s) (hcaps:∀c∈caps,(ρ c).isSome=true) (w:wpE K.F iter ρ H fun v H1=>iterable H1 v∧∀l,bQ H1 v l→fV G.step (Still v H1) l [] H1 G.T)
  (hf:Obj.isFreed { cls:=.type T,data:=data }=false) (hsz:sizeOk data) (r0:∀ι,G.AR ι { cls:=.type T,data:=data } [])
  (fin:∀{φ ι H s D o vs},Inv K.B X.γ φ ι H s→New K.B φ ι H D→s.heap.get? D=some o→G.AR ι o vs→G.T vs H→PE K.B X.γ φ ι Q (.ref D) s)
  (loop:∀(Z:Turn G) n s,CS Z n s→codeAny K.M Z.Y.A (.compLoop ce 0 (.ref Z.J) (.ref Z.D) Z.Y.env) (CE Z) s)
  (start:∀{J D env R s},codeAny K.M X.A (.compLoop ce 0 (.ref J) (.ref D) env) R s→(∀{Q E},Q (.ref J) s→wpAny K.M X.A (pyIter (.ref J)) Q E s)→codeAny K.M X.A (.compStart ce 0 (.ref J) (.ref D) env) R s)
  (hend:∀L v s',PEL K.B X.γ φ ι Q L v s'→compPost K.M X.A E use QQ v L (.ok .next) s') :
  wpAny K.M X.A (comprehension ce gs X.env ipos (newObj (.type T) data) false (eval it X.env) use) QQ E s:=by
 refine wpAny_comprehension_free hcl (vt hset _) (vF (fun x hx hf=>let ⟨ca,o,e,_⟩:=jY S O hcaps (x:=x.1) (hf▸hx);by refine (e)▸?_;rfl)) S.k S.nl (hit.run O w fun v s1 ι0 H1 y l0 O1 r0' ⟨hable,w1⟩=>wpAny_mono (g8 O1.I r0' hable) (fun itv s2 g2=>?_) fun _ _ e=>e.elim)
 cases g2 with | mk li hitems It hJ I2 hSt =>
 rename_i ι1 l J St o
 have l1:=l0.trans li
 refine wpAny_newObj_type ?_ hsz
 refine cX (I2.gk (k:=s2.toks) (o:={ cls:=.type T,data:=data }) hf) fun hD I3=>?_
 have hJlt:=Heap.lt_size (I2.fr J o (af ..))
 have hDJ:=Nat.ne_of_gt hJlt
 have hD':=by replace hD:=(ak hDJ).symm.trans hD;exact hD
 generalize hs3:({ s2 with heap:=s2.heap.push { cls:=.type T,data:=data },toks:=s2.toks }:Shared)=s3 at I3
 have hsz3:s3.heap.objs.size=s2.heap.objs.size+1:=(hs3)▸Heap.size_push ..
 refine wpAny_newFunctionEnv S.nc (fun x hx=>xm (hx)) (fun h' hn hsb=>?_) S.k
 have nL:=I3.new (a:=s3.heap.objs.size) (Nat.le_refl _)
 refine kW hn fun lo es ep hlo hd hk1 hk2=>?_
 have I5:=(I3.keep (s':={ s3 with heap:=h',toks:=s3.toks+([]:List (Str×Value)).length }) (fun b o' e=>hsb.extBut b o' (Nat.ne_of_lt (Heap.lt_size e)) (Heap.get?_push_of_some _ e)) rfl rfl).yl nL hlo
 generalize s3.heap.objs.size=L at nL I5 hsz3 hlo
 have hLD:L≠s2.heap.objs.size:=hsz3▸Nat.succ_ne_self _
 have hLJ:L≠J:=hsz3▸Nat.ne_of_gt (Nat.lt_succ_of_lt hJlt)
 have hLn:=by have h:=nL.f;rw [ak hLD,ak hLJ] at h;exact h
 have lφ:Le φ (bh (bh (bh φ J o) s2.heap.objs.size { cls:=.type T,data:=data }) L lo):=((Le.add hJ).trans (Le.add hD)).trans (Le.add nL.f)
 have hns:NsO lo (fun x=>List.lookup x ([]:List (Str×Value)).reverse):=⟨es,ep,hd,hk1,hk2⟩
 refine cX (rO S O hcaps lφ (L:=L) (af ..) hns hLn) fun Evc Frc=>?_
 have hcl':∀c,φ c=none→c∉(compEnv gs X.env L).cells.map (·.2):=fun c hc hm =>
  (rO S O hcaps (φ':=bh φ c lo) (Le.add hc) (L:=c) (af ..) hns hc).2.ap c hm rfl
 let Z:Turn G:={ Y:={ A:=X.A,γ:=X.γ,env:=compEnv gs X.env L,room:=X.room },J:=J,D:=s2.heap.objs.size,St:=St,l:=l,Stl:=fun H'=>Still y H1 H',ι₀:=ι1,φ₀:=bh (bh (bh φ J o) s2.heap.objs.size { cls:=.type T,data:=data }) L lo,hJD:=Ne.symm hDJ,hJL:=Ne.symm hLJ,hDL:=Ne.symm hLD,hJc:=hcl' J hJ,hDc:=hcl' _ hD',It:=It }
 have hJ5:(bh (bh (bh φ J o) s2.heap.objs.size { cls:=.type T,data:=data }) L lo) J=some o:=(ak (Ne.symm hLJ)).trans ((ak (Ne.symm hDJ)).trans (af ..))
 refine start (codeAny_mono (loop Z l.length _ (.mk 0 _ ι1 H1 o _ [] rfl (Nat.zero_le _) (.refl _) (fun b _ _ _=>rfl) ⟨I5,hρ▸Evc.mono l1⟩ hJ5 hSt ((ak (Ne.symm hLD)).trans (af ..)) (r0 _) Frc (w1 l hitems))) fun r s' h=>?_) fun hq=>It.self (I5.fr J o hJ5) hSt hq
 obtain ⟨rfl,φ',ι',H',oD,vs,le,hφ,hI,hDo,hr,Fr,w3⟩:=h
 refine ez (Fr.loc) fun lo' m' hlo' hns'=>?_
 have I6:=hI (fun b=>if b=J then none else φ' b) (fun b o e=>by by_cases hb:b=J<;>simp [hb] at e;exact e) (if_pos rfl)
 refine hend _ _ _ ⟨hLn,lo',m',hns',(fin (I6.less fun b o e=>?_) (I6.newOf (a:=s2.heap.objs.size) (fun e=>Option.some_ne_none _ ((show (fun b=>if b=J then none else φ' b) s2.heap.objs.size=some oD from (if_neg hDJ).trans hDo).symm.trans e)) (φ₀:=bh φ L lo') ((ak (Ne.symm hLD)).trans hD')) (I6.fr _ _ (show (fun b=>if b=J then none else φ' b) s2.heap.objs.size=some oD from (if_neg hDJ).trans hDo)) hr w3).mono (l1.trans le) fun _ _ q=>q⟩
 by_cases h3:b=L
 ·cases h3;rw [af] at e;exact (if_neg hLJ).trans (hlo'.trans e)
 ·replace e:=(ak h3).symm.trans e
  exact (if_neg (show b≠J from fun h=>by simp only [h,hJ] at e;injection e)).trans ((hφ b (show b≠J from fun h=>by simp only [h,hJ] at e;injection e) (show b≠s2.heap.objs.size from fun h=>by simp only [h,hD'] at e;injection e) h3).trans ((ak h3).trans ((ak (show b≠s2.heap.objs.size from fun h=>by simp only [h,hD'] at e;injection e)).trans ((ak (show b≠J from fun h=>by simp only [h,hJ] at e;injection e)).trans e))))
theorem PEL.leave{B:Base}{γ:Array GenState}{Q:PV}{L:Addr}{v:Value}(h:PEL B γ φ ι Q L v s):∃m,s.heap.Ns L m∧∀h',Heap.SameBut L s.heap h'→PE B γ φ ι Q v { s with heap:=h' }:=by
 obtain ⟨hL,lo,m,⟨es,ep,h1,h2,h3⟩,ι',H',x,le,I,r,q⟩:=h
 refine ⟨m,⟨lo,es,ep,I.fr L lo (af ..),h1,h2,h3⟩,fun h' hs=>⟨ι',H',x,le,?_,r,q⟩⟩
 exact I.leave (a:=L) (Le.add hL) hL (by rw [af];exact Option.some_ne_none _) hs.extBut rfl rfl
end
end Mine
end
section
set_option backward.match.sparseCases false
namespace Mine
open PySem PyProof.Rows PySem.W
open scoped Classical
section
variable{K:Kx}{X:Cx K}{φ φ' ι ι':Obs}{ρ:Env}{H H':Hp}{s s':Shared}{gs:Scope}{xs caps:List String}
theorem nX{ρ:Env}{caps:List String}{c:String}{y:V}(h:only ρ caps c=some y):c∈caps:=Decidable.byContradiction fun n=>by replace h:=(show only ρ caps c=none from if_neg n).symm.trans h;injection h
def G9(F:Fn)(elt cond:ME)(xs:List String)(ρ:Env)(a:V)(H2:Hp)(R:Option V→Hp→Prop):Prop :=
 onS (eG xs a ρ) fun ρ'=>kh (dB cond) (wpE F cond ρ' H2) H2 fun b H3=>_root_.cond b (wpE F elt ρ' H3 fun r H4=>R (some r) H4) (R Option.none H3)
noncomputable def GJ(K:Kx){xs:List String}{t:Expr}(ht:Tgt K.sc xs t){ρ:Env}(hρ:∀c y,ρ c=some y→c∉xs)(elt cond:ME)(T:List V→Hp→Prop):Acc K where
 T:=T
 AR:=fun ι o acc=>∃items m,o={ cls:=.type "list",data:=.seq items m }∧az ι items.toList acc
 step:=G9 K.F elt cond xs ρ
 xs:=xs
 t:=t
 ρ:=ρ
 ht:=ht
 hρ:=hρ
 hb:=fun x H R w=>let ⟨ρ',h,_⟩:=bR w;⟨ρ',h⟩
 mono:=fun l ⟨items,m,e,r⟩=>⟨items,m,e,r.mono l⟩
theorem HO{t:Expr}{ht:Tgt K.sc xs t}{hρ:∀c y,ρ c=some y→c∉xs}{elt cond:ME}{T:List V→Hp→Prop}{z it:Expr}{ifs:List Expr}{scope:Scope}{pos:Pos}(helt:SE K elt z)(hcond:eo K cond ifs)(Z:Turn (GJ K ht hρ elt cond T))(n:Nat)(s:Shared)(C:CS Z n s) :
  codeAny K.M Z.Y.A (.compLoop (.ListComp z [⟨t,it,ifs,0⟩] scope pos) 0 (.ref Z.J) (.ref Z.D) Z.Y.env) (CE Z) s :=
 ux (fun n s=>CS Z n s) (fun n s C=>oN (fun {x ρ' φ ι H oD acc s R} hb O Fr hD hr hz w no yes=>by
  refine ao (bR w) fun ρ2 e w=>?_
  cases hb.symm.trans e
  refine rN hcond O w fun b s3 ι3 H3 l3 O3 w3=>?_
  cases b with
  |false=>exact no ι3 H3 s3 l3 O3.I w3
  |true =>
   refine helt.run O3 w3 fun u s4 ι4 H4 y l4 O4 r4 w4=>?_
   refine ez hr ?_;clear hr;rintro items m rfl hr
   have hg:=O4.I.fr Z.D _ hD
   refine sE hg (iF (cy hr▸hz)) (yes ι4 H4 _ _ y (l3.trans l4) (O4.I.frame (s':={ s4 with heap:=s4.heap.update Z.D (Obj.mapSeq fun xs=>xs.push u) }) hD (Heap.SameBut.update ..) (IsL.update hg _) rfl rfl) ⟨_,_,rfl,?_⟩ w4)
   simpa using (hr.mono (l3.trans l4)).append (.one r4)) C) n C
theorem mS{E:Value→Shared→Prop}{use:Option (Value→Sem Unit)}{QQ:Value→Shared→Prop}{ipos:Pos}{Q:PV}{mu:Bool}{elt iter cond:ME}{z t it:Expr}{ifs:List Expr}{pos:Pos}(hset:dH it=true)(hsc:bN K.sc gs xs caps=true)(ht:Tgt gs xs t)(hit:SE K iter it)(helt:SE (K.at gs) elt z)(hcond:eo (K.at gs) cond ifs)
  (O:X.Ok φ ρ ι H s) (w:wpE K.F (.comp mu elt xs iter cond caps) ρ H Q) (hend:∀L v s',PEL K.B X.γ φ ι Q L v s'→compPost K.M X.A E use QQ v L (.ok .next) s') :
  wpAny K.M X.A (comprehension (.ListComp z [⟨t,it,ifs,0⟩] gs pos) gs X.env ipos (newList []) false (eval it X.env) use) QQ E s :=
 have S:=jZ hsc
 oO (T:="list") (data:=.seq #[]) (GJ (K.at gs) ht (fun c y h=>S.cx c (nX h)) elt cond fun vs H'=>if mu then oZ (.list vs) H' Q else Q (.lst vs) H') rfl hset S rfl hit O w.1 w.2 rfl (Nat.zero_le _) (fun ι=>⟨#[],0,rfl,.nil⟩)
  (fun {φ ι H s D o vs} I n hg hr w=>by
   refine ez hr ?_;clear hr;rintro items m rfl hr
   cases mu with
   |false=>exact ⟨_,H,.lst vs,(Le.add (o:={ cls:=.type "list",data:=.seq items m }) n.i),I.note n hg,⟨_,_,_,rfl,af ..,hr.mono (Le.add (o:={ cls:=.type "list",data:=.seq items m }) n.i)⟩,w⟩
   |true=>exact ⟨ι,_,.ref D,.refl _,I.own (x:=.list vs) n hg ⟨items,m,rfl,hr⟩,rfl,w D n.h⟩)
  (fun Z n s C=>HO helt hcond Z n s C) (fun h hq=>codeAny_compStart_list h (hq h)) hend
theorem uV{mu:Bool}{elt iter cond:ME}{z t it:Expr}{ifs:List Expr}{pos:Pos}(hset:dH it=true)(hsc:bN K.sc gs xs caps=true)(ht:Tgt gs xs t)(hit:SE K iter it)(helt:SE (K.at gs) elt z)(hcond:eo (K.at gs) cond ifs) :
  SE K (.comp mu elt xs iter cond caps) (.ListComp z [⟨t,it,ifs,0⟩] gs pos):=fun X φ ρ ι H s Q O w=>by
 exact mS hset hsc ht hit helt hcond O w fun L v s' h=>h.leave
theorem AN(es:List (V×V))(kv wv:V):(dput es kv wv).length≤es.length+1:=by delta dput;split<;>simp
def Hf(F:Fn)(ke ve:ME)(x:String)(a:V)(H2:Hp)(R:Option V→Hp→Prop):Prop :=
 wpE F ke (put (fun _=>none) x a) H2 fun kv H3=>wpE F ve (put (fun _=>none) x a) H3 fun wv H4=>isAtoms kv=true∧R (some (.tup [kv,wv])) H4
noncomputable def GK(K:Kx){x:String}{t:Expr}(ht:Tgt K.sc [x] t)(ke ve:ME)(T:List V→Hp→Prop):Acc K where
 T:=T
 AR:=fun ι o acc=>∃ep,iy K.B.w ι o (.dict (dX acc) ep)∧(∀e∈dX acc,isAtoms e.1=true)∧(dX acc).length≤acc.length
 step:=Hf K.F ke ve x
 xs:=[x]
 t:=t
 ρ:=only (fun _=>none) []
 ht:=ht
 hρ:=fun c y h=>nomatch nX h
 hb:=fun a H R _=>⟨_,rfl⟩
 mono:=fun l ⟨ep,r,h⟩=>⟨ep,r.mono l,h⟩
theorem z5:only (fun _=>none) []=fun _=>none:=funext fun _=>if_neg List.not_mem_nil
theorem HP{x:String}{t:Expr}{ht:Tgt K.sc [x] t}{ke ve:ME}{T:List V→Hp→Prop}{z u it:Expr}{scope:Scope}{pos:Pos}(hke:SE K ke z)(hve:SE K ve u)(Z:Turn (GK K ht ke ve T))(n:Nat)(s:Shared)(C:CS Z n s) :
  codeAny K.M Z.Y.A (.compLoop (.DictComp z u [⟨t,it,[],0⟩] scope pos) 0 (.ref Z.J) (.ref Z.D) Z.Y.env) (CE Z) s :=
 uu (fun n s=>CS Z n s) (fun n s C=>oN (fun {a ρ' φ ι H oD acc s R} hb O Fr hD hr hz w no yes=>by
  cases hb
  refine hke.run O w fun vk s3 ι3 H3 kv l3 O3 r3 w3=>hve.run O3 w3 fun vv s4 ι4 H4 wv l4 O4 r4 w4=>?_
  refine br hr fun ep hr hat hln=>?_
  refine uv Z.Y.room.u0 O4.I hD (hr.mono (l3.trans l4)) hat w4.1 (Nat.le_trans hln hz) (r3.mono l4) r4 fun h' o' ep' tk hs hg hr'=>yes ι4 H4 _ o' (.tup [kv,wv]) (l3.trans l4) (O4.I.frame (s':={ s4 with heap:=h',toks:=tk }) hD hs hg rfl rfl) ⟨ep',?_⟩ w4.2
  rw [qC]
  exact ⟨hr',bF (P:=fun v=>isAtoms v=true) hat w4.1,by simp only [List.length_append];exact Nat.le_trans (AN ..) (Nat.succ_le_succ hln)⟩) C) n C
theorem zH{ke ve iter:ME}{z u t it:Expr}{x:String}{pos:Pos}(hset:dH it=true)(hsc:bN K.sc gs [x] []=true)(ht:Tgt gs [x] t)(hit:SE K iter it)(hke:SE (K.at gs) ke z)(hve:SE (K.at gs) ve u) :
  SE K (.dcomp ke ve x iter) (.DictComp z u [⟨t,it,[],0⟩] gs pos):=fun X φ ρ ι H s Q O w=>by
 exact oO (T:="dict") (data:=.dict #[] 0) (caps:=[]) (GK (K.at gs) ht ke ve fun vs H'=>∀ep,oZ (.dict (dX vs) ep) H' Q) rfl hset (jZ hsc) (z5.trans (funext fun _=>(if_neg List.not_mem_nil).symm)) hit O (fun c hc=>xm (hc)) w rfl (Nat.zero_le _)
  (fun ι=>⟨0,⟨⟨rfl,rfl,rfl⟩,#[],rfl,.nil,List.nodup_nil,.inl fun e he=>nomatch he⟩,fun e (he:e∈([]:List (V×V)))=>(xm (he)),Nat.le_refl _⟩)
  (fun {φ ι H s D o vs} I n hg ⟨ep,hr,_⟩ w=>⟨ι,_,.ref D,.refl _,I.own (x:=.dict (dX vs) ep) n hg hr,rfl,w ep D n.h⟩)
  (fun Z n s C=>HP hke hve Z n s C) (fun h hq=>tR h (hq h)) fun L v s' h=>h.leave
end
end Mine
end
section
namespace Mine
open PySem PyProof.Rows PySem.W
open scoped Classical
section
variable{B:Base}{γ:Array GenState}{φ φ' ι:Obs}{H:Hp}{s:Shared}{prog:Program}{A:Around}{ρ:Env}
theorem Inv.rebase(I:Inv B γ φ ι H s){s':Shared}(h:s'.heap=s.heap)(o:s'.os=s.os):Inv B s'.gens φ ι H s' where
 data:=(h)▸I.data
 fr:=(h)▸I.fr
 objs:=(h)▸I.objs
 dfr:=I.dfr
 dob:=I.dob
 fob:=I.fob
 base:=I.base
 tab:=(h)▸I.tab
 tdis:=I.tdis
 gens:=⟨#[],fun _ h=>by simp at h,rfl⟩
 os:=o.trans I.os
theorem uo{γ lx l':Array GenState}{g:Nat}(hg:γ.size≤g)(hlt:g<(γ++lx).size)(hx:AllBare lx)(hl':AllBare l'){gs':GenState}(hb:gs'.bare=true) :
  ∃lz,AllBare lz∧(((γ++lx).setIfInBounds g .running)++l').setIfInBounds g gs'=γ++lz:=by
 obtain ⟨γ⟩:=γ
 obtain ⟨lx⟩:=lx
 obtain ⟨l'⟩:=l'
 replace hg:=(List.size_toArray)▸hg
 simp at hlt
 refine ⟨((lx.set (g-γ.length) gs')++l').toArray,fun y hy=>?_,?_⟩
 ·rw [List.mem_toArray,List.mem_append] at hy
  rcases hy with hy | hy
  ·rcases List.mem_or_eq_of_mem_set hy with hy | rfl
   ·exact hx y (by simpa using hy)
   ·exact hb
  ·exact hl' y (by simpa using hy)
 ·apply Array.ext'
  simp only [Array.toList_setIfInBounds,Array.toList_append]
  rw [(show (γ++lx).set g .running=γ++lx.set (g-γ.length) .running from by exact (List.set_append).trans (if_neg (by omega))),List.append_assoc,List.set_append,if_neg (by omega),List.set_append,if_pos (by rw [List.length_set];exact N.h8 hg hlt),List.set_set]
theorem Inv.grow(I:Inv B γ φ ι H s){c P:Addr}{ps:Array Value}(hm:(c,P,ps)∈B.tabs){s':Shared}{old x:Array Value}(ho:s.heap.get? P=some { cls:=.none,data:=.fields old })(hx:Heap.ExtBut P s.heap s'.heap)(hn:s'.heap.get? P=some { cls:=.none,data:=.fields (old++x) })
  (htr:∀l,TriplesOk l→TriplesOk (l++x.toList)) (g:s'.gens=s.gens) (os:s'.os=s.os):Inv B γ φ ι H s':=by
 refine bG (I.tdis c P ps hm) fun d1 d2 d3=>?_
 refine { data:=fun a o e=>hx a o (fun h=>x2 d1 (h▸e)) (I.data a o e),fr:=fun a o e=>hx a o (fun h=>x2 d2 (h▸e)) (I.fr a o e),objs:=fun a y e=>(I.objs a y e).imp fun o h=>⟨hx a o (fun h'=>x2 d3 (h'▸e)) h.1,h.2⟩,dfr:=I.dfr,dob:=I.dob,fob:=I.fob,base:=I.base,tab:=fun c1 P1 ps1 hm1=>?_,tdis:=I.tdis,gens:=g▸I.gens,os:=os.trans I.os }
 have hc1:c1≠P:=by
  rintro rfl
  cases e:B.obs c1 with
  |none=>exact (B.tabsIn c1 P1 ps1 hm1) e
  |some o=>exact x2 d1 (I.base _ _ e)
 refine (I.tab c1 P1 ps1 hm1).elim fun more k=>if hP:P1=P then ⟨more++x,?_⟩ else ⟨more,k.mono (fun o=>hx c1 o hc1) fun o=>hx P1 o hP⟩
 subst hP
 exact Array.append_assoc▸k.grow ho (fun o=>hx c1 o hc1) hn htr
theorem qo{x:List Value}(hx:TriplesOk x):∀l:List Value,TriplesOk l→TriplesOk (l++x):=by
 intro l
 fun_induction TriplesOk l with
 |case1=>intro _;exact hx
 |case2 a t b u c rest ih=>intro h;exact ih h
 |case3=>intro h;exact h.elim
theorem AI{sc gs:Scope}{env:PySem.Env}{E:Value→Shared→Prop}(I:Inv B γ φ ι H s)(Ev:cU B ι φ sc env ρ)(hng:gu sc=true){pos:Pos}{qn:Str}{Q:Value→Shared→Prop}(q:∀code s',Inv B γ φ ι H s'→Q code s'):wpAny (model prog B.w) A (genexprCode env pos qn gs) Q E s:=by
 refine kX (Ev.code hng) fun c P ps hc hm=>?_
 refine aL (I.tab c P ps hm) fun more k=>?_
 cases k with | mk ho hcl hd h11 h2 h7 h9 h10 hop htr hne =>
 rename_i vs _ _ _ _ _ _ _
 have h11:vs.getD 11 .none=.ref P:=by simp only [Array.getD_eq_getD_getElem?,h11];rfl
 have hpd:(⟨.none,none,.fields (ps++more),#[]⟩:Obj).data=.fields (ps++more):=rfl
 dsimp only [genexprCode,codeAt]
 rw [hc]
 refine wpAny_bind (wpAny_fieldsOf ho hd ?_)
 refine (h11)▸?_
 refine wpAny_bind (wpAny_fieldsOf hop hpd ?_)
 cases hnf:codeAmong pos (ps++more).toList with
 |some cv=>exact wpAny_pure (q cv s I)
 |none =>
  rw [h2,h7,h9,h10]
  refine wpAny_bind (wpAny_newCode fun c' P' h' tk hk hc' hP' hcode' hrec'=>?_)
  refine wpAny_bind (wpAny_updateFieldsOfTheText (hk _ _ hop) hpd ?_)
  have hob:Obj.mapFields (fun vs=>if (codeAmong pos vs.toList).isSome=true then vs else vs++#[rawInt pos.line,rawInt pos.col,.ref c']) ({ cls:=.none,data:=.fields (ps++more) }:Obj)={ cls:=.none,data:=.fields (ps++more++#[rawInt pos.line,rawInt pos.col,.ref c']) }:=by
   show ({ cls:=.none,data:=.fields (if (codeAmong pos (ps++more).toList).isSome=true then (ps++more) else (ps++more)++#[rawInt pos.line,rawInt pos.col,.ref c']) }:Obj)=_
   refine (hnf)▸?_;rfl
  have hget:=Heap.get?_update_self (h:=h') (fun o=>Obj.mapFields (fun vs=>if (codeAmong pos vs.toList).isSome=true then vs else
   vs++#[rawInt pos.line,rawInt pos.col,.ref c']) o) (hk _ _ hop) rfl
  simp only [hob] at hget
  refine wpAny_bind (wpAny_fieldsOf hget rfl ?_)
  simp only [(show ((ps++more)++#[rawInt pos.line,rawInt pos.col,Value.ref c']).toList=(ps++more).toList++[rawInt pos.line,rawInt pos.col,.ref c'] from by simp),codeAmong_snoc _ htr hnf]
  refine wpAny_pure (q _ _ (I.grow hm hop (x:=#[rawInt pos.line,rawInt pos.col,.ref c']) (fun b o' hb e=>(Heap.SameBut.update ..).extBut b o' hb (hk b o' e)) hget (fun l h=>qo (by trivial) l h) rfl rfl))
theorem Cy{E:Value→Shared→Prop}(D:Facts B.aZ)(I:Inv B γ φ ι H s){running:Addr}{Q:Addr→Shared→Prop}(h:Q builtinsNs s):wpAny (model prog B.w) A (builtinsFor mainGlobals running) Q E s:=by
 refine o5 (D.bm) fun bm o h1 h2 h3 h4 h5 h6=>?_
 refine wpAny_bind ((looks_nsIn I.inK h1).here ?_)
 show wpAny _ A (if (bm==builtinsNs)=true then _ else _) Q E s
 refine wn ((by simpa using h2)) ?_
 refine wpAny_bind (wpAny_load (I.inK _ _ h3) ?_)
 rw [h6,h5,h4]
 exact wpAny_pure h
end
noncomputable def frameOf(φ₀:Obs)(S:Addr)(s:Shared):Obs:=fun b=>if b=S then s.heap.get? S else φ₀ b
theorem aS{φ₀:Obs}{S b:Addr}{s:Shared}(h:b≠S):frameOf φ₀ S s b=φ₀ b:=if_neg h
noncomputable abbrev kg(z t it:Expr)(ifs:List Expr)(scope:Scope)(pos:Pos)(J:Addr)(cenv:PySem.Env):Code:=.compLoop (.GeneratorExp z [⟨t,it,ifs,0⟩] scope pos) 0 (.ref J) .none cenv
def gm(F:Fn)(elt cond:ME)(x:String)(a:V)(H2:Hp)(R:Option V→Hp→Prop):Prop :=
 kh (dB cond) (wpE F cond (put (fun _=>none) x a) H2) H2 fun b H3=>_root_.cond b (wpE F elt (put (fun _=>none) x a) H3 fun r H4=>R (some r) H4) (R Option.none H3)
set_option genInjectivity false in
set_option genSizeOfSpec false in
structure Gx(K:Kx) where
 A0:Around
 ex:Bool
 x:String
 elt:ME
 cond:ME
 z:Expr
 t:Expr
 it:Expr
 ifs:List Expr
 scope:Scope
 pos:Pos
 S:Addr
 J:Addr
 cenv:PySem.Env
 l:List V
 φ₀:Obs
 ι₀:Obs
 P:List V→Hp→Prop
 Rs:V→List V→Option V→Hp→Prop
 En:Hp→Prop
 St:Nat→Obj→Prop
 Stl:Hp→Prop
 R:bx (A0.in1.over (kg z t it ifs scope pos J cenv) []) (K.d+4+K.k)
 hh:A0.handled=none
 ht:Tgt K.sc [x] t
 helt:SE K elt z
 hcond:eo K cond ifs
 It:Iter K.prog K.B ι₀ l Stl J St
 hStl:∀H,Stl H
 hco:cenv.scope.isCoroutine=false
 hJL:J≠cenv.locals
 hJc:J∉cenv.cells.map (·.2)
 hSJ:S≠J
 hSL:S≠cenv.locals
 hSc:S∉cenv.cells.map (·.2)
 hex:ex=true→dB cond=true
 hK0:∀H,P [] H→En H
 hK1:∀a xs H,P (a::xs) H→gm K.F elt cond x a H (Rs a xs)
 hK2:∀a xs H,Rs a xs none H→P xs H
section
variable{K:Kx}{φ φ' ι ι':Obs}{ρ:Env}{H H':Hp}{s s':Shared}
noncomputable abbrev Gx.A(G:Gx K):Around:=G.A0.in1
noncomputable def Gx.code(G:Gx K):Code:=kg G.z G.t G.it G.ifs G.scope G.pos G.J G.cenv
noncomputable def Gx.Y(G:Gx K)(γ:Array GenState):Cx K:=⟨G.A.over G.code [],γ,G.cenv,G.R⟩
inductive GY(G:Gx K)(m:Nat)(s₀:Shared)(v:Value)(s:Shared)(kap:Resume→Shared→Prop):Prop
 |mk (i:Nat) (a y:V) (ι':Obs) (H':Hp) (φ':Obs) (hi:G.l[i]?=some a) (hm:if G.ex then (G.l.drop (i+1)).length=m else (G.l.drop (i+1)).length≤m) (le:Le G.ι₀ ι') (r:Rep ι' v y) (hφ:∀b,b≠G.J→b≠G.cenv.locals→φ' b=frameOf G.φ₀ G.S s₀ b)
   (I:Inv K.B s₀.gens φ' ι' H' s) (w:G.Rs a (G.l.drop (i+1)) (some y) H') (k:∀s'':Shared,Inv K.B s''.gens (frameOf φ' G.S s'') ι' H' s''→G.P (G.l.drop (i+1)) H'→kap (.send .none) s'')
inductive GP(G:Gx K)(n:Nat)(s₀ s₁:Shared):Prop
 |mk (ι':Obs) (H':Hp) (φ':Obs) (e:G.ex=true→n=0) (le:Le G.ι₀ ι') (hφ:∀b,b≠G.J→b≠G.cenv.locals→φ' b=frameOf G.φ₀ G.S s₀ b) (I:∀φ₁,Le φ₁ φ'→φ₁ G.J=none→Inv K.B s₀.gens φ₁ ι' H' s₁) (w:G.En H')
noncomputable abbrev Gx.seg(G:Gx K)(n:Nat)(s₀:Shared)(c:Code)(s:Shared):Prop:=Seg K.M G.A (fun n s₀ r s₁=>r=.ok .next∧GP G n s₀ s₁) (GY G) n s₀ c (K.M.den c) [] s
theorem rJ(G:Gx K):∀(j i n:Nat) (s₀ s:Shared) (φ ι:Obs) (H:Hp) (o:Obj),G.l.length-i=j→i≤G.l.length→(if G.ex then n=G.l.length-i else G.l.length-i≤n)→Le G.ι₀ ι→(∀b,b≠G.J→b≠G.cenv.locals→φ b=frameOf G.φ₀ G.S s₀ b) →
   (G.Y s₀.gens).Ok φ (fun _=>none) ι H s→φ G.J=some o→G.St i o→bw φ G.cenv→G.P (G.l.drop i) H→G.seg n s₀ G.code s:=by
 intro j
 induction j with
 |zero =>
  intro i n s₀ s φ ι H o hj hi hn le hφ O hJ hSt Fr w
  obtain rfl:i=G.l.length:=(N.a3 hj hi)
  show Seg _ G.A _ _ _ s₀ _ ((compTurn (.GeneratorExp G.z [⟨G.t,G.it,G.ifs,0⟩] G.scope G.pos) 0 (.ref G.J) .none G.cenv).onRaise (leaving G.cenv)) [] s
  rw [compTurn_gen,Sem.onRaise_eq_wrap]
  rw [List.drop_length] at w
  exact seg_bind_wrap (wpAny_standAt (seg_bind_wrap (G.It.done G.hh le O.I hJ hSt (G.hStl H) fun s' hs'=>seg_end (.ok .next) ⟨rfl,.mk ι H φ (fun e=>by rw [e] at hn;exact hn.trans (Nat.sub_self _)) le hφ hs' (G.hK0 H w)⟩)))
 |succ j ih =>
  intro i n s₀ s φ ι H o hj hi hn le hφ O hJ hSt Fr w
  have hlt:i<G.l.length:=(N.a2 hj)
  replace w:=(List.drop_eq_getElem_cons hlt)▸w
  show Seg _ G.A _ _ _ s₀ _ ((compTurn (.GeneratorExp G.z [⟨G.t,G.it,G.ifs,0⟩] G.scope G.pos) 0 (.ref G.J) .none G.cenv).onRaise (leaving G.cenv)) [] s
  rw [compTurn_gen,Sem.onRaise_eq_wrap]
  refine seg_bind_wrap (wpAny_standAt (seg_bind_wrap (G.It.item G.hh le O.I hJ hSt (G.hStl H) (List.getElem?_eq_getElem hlt) fun v o' s1 hSt' I1 rv=>?_)))
  refine aP (G.It.kind hSt') fun T' vs' k1 k2 k3=>?_
  refine seg_bind_wrap (yt (I1.fr G.J o' (af ..)) k1 k2 k3 (seg_bind_wrap (iO (X:=G.Y s₀.gens) ⟨I1,O.Ev.but (fun b hb=>ak hb) G.hJL G.hJc⟩ (Fr.but (fun b hb=>ak hb) G.hJL) G.ht rv (ρ':=put (fun _=>none) G.x G.l[i]) rfl fun φ2 s2 e2 O2 Fr2=>?_)))
  have hJ2:=(e2 G.J G.hJL).trans (af ..)
  have hφ2:∀b,b≠G.J→b≠G.cenv.locals→φ2 b=frameOf G.φ₀ G.S s₀ b:=fun b h1 h3=>(e2 b h3).trans ((ak h1).trans (hφ b h1 h3))
  have Evc:=O2.Ev.sub (ρ':=fun _=>none) fun c y hy=>xn (hy)
  have key:wpAny K.M (G.Y s₀.gens).A (tests G.ifs G.cenv) (fun ok s3=>(G.ex=true→ok=true)∧∃ι3 H3,Le ι ι3∧(G.Y s₀.gens).Ok φ2 (put (fun _=>none) G.x G.l[i]) ι3 H3 s3 ∧
    cond ok (wpE K.F G.elt (put (fun _=>none) G.x G.l[i]) H3 fun r H4=>G.Rs G.l[i] (G.l.drop (i+1)) (some r) H4) (G.Rs G.l[i] (G.l.drop (i+1)) none H3)) aA s2:=by
   have w1:=G.hK1 _ _ _ w
   by_cases hno:dB G.cond=true
   ·have hc:=G.hcond
    generalize G.ifs=ifs at hc
    cases hc with
    |no _ =>
     dsimp only [gm,kh] at w1
     simp only [hno] at w1
     exact wpAny_pure ⟨fun _=>rfl,ι,H,.refl _,O2,w1⟩
    |one hn' _=>exact xt (hno.symm.trans hn')
   ·exact rN (X:=G.Y s₀.gens) G.hcond O2 w1 fun b s3 ι3 H3 l3 O3 q=>⟨fun e=>absurd (G.hex e) hno,ι3,H3,l3,O3,q⟩
  refine seg_bind_wrap (wpAny_mono key (fun ok s3 ⟨hok,ι3,H3,l3,O3,w3⟩=>?_) fun _ _ e=>e.elim)
  cases ok with
  |false =>
   have hnx:G.ex=false:=by
    cases hx:G.ex with
    |false=>rfl
    |true=>exact absurd (hok hx) Bool.false_ne_true
   exact seg_again rfl (ih (i+1) n s₀ s3 φ2 ι3 H3 o' (N.a1 hj) hlt (by rw [hnx] at hn ⊢;exact Nat.le_trans (Nat.sub_le_sub_left (Nat.le_succ i) _) hn) (le.trans l3) hφ2 ⟨O3.I,Evc.mono l3⟩ hJ2 hSt' Fr2 (G.hK2 _ _ _ w3))
  |true =>
   obtain ⟨n,rfl⟩:∃m,n=m+1:=⟨n-1,by cases hx:G.ex<;>rw [hx] at hn<;>simp at hn<;>omega⟩
   simp only [if_true,(show ∀v,yieldOut G.cenv v=yieldValue v from fun v=>by simp only [yieldOut,G.hco,Bool.false_eq_true,if_false])]
   rw [Sem.bind_eq_wrap',Sem.bind_eq_wrap',Sem.wrap_wrap,Sem.wrap_wrap]
   refine seg_wrap (G.helt.run (X:=G.Y s₀.gens) O3 w3 fun u s4 ι4 H4 y l4 O4 r4 w4=>seg_at (seg_yield rfl rfl rfl (.mk i G.l[i] y ι4 H4 φ2 (List.getElem?_eq_getElem hlt) ?_ (le.trans (l3.trans l4)) r4 hφ2 O4.I w4 fun s'' I5 hk=>?_)))
   ·rw [←(show (G.l.drop (i+1)).length+1=G.l.length-i from by rw [List.length_drop];exact N.a5 hj)] at hn
    cases hx:G.ex<;>rw [hx] at hn
    ·exact Nat.le_of_succ_le_succ hn
    ·exact (Nat.succ.inj hn).symm
   ·refine seg_again rfl (ih (i+1) n s'' s'' _ ι4 H4 o' (N.a1 hj) hlt (by rw [←(show (G.l.drop (i+1)).length+1=G.l.length-i from by rw [List.length_drop];exact N.a5 hj)] at hn;refine (show G.l.length-(i+1)=(G.l.drop (i+1)).length from (List.length_drop ..).symm)▸?_;cases hx:G.ex<;>rw [hx] at hn<;>first | exact Nat.le_of_succ_le_succ hn | exact Nat.succ.inj hn) (le.trans (l3.trans l4)) (fun b h1 h2=>?_)
     ⟨I5,(Evc.mono (l3.trans l4)).but (D:=G.S) (fun b hb=>aS hb) G.hSL G.hSc⟩ ((aS (Ne.symm G.hSJ)).trans hJ2) hSt' (Fr2.but (D:=G.S) (fun b hb=>aS hb) G.hSL) hk)
    by_cases hb:b=G.S
    ·exact (hb)▸(if_pos rfl).trans (if_pos rfl).symm
    ·exact (aS hb).trans ((hφ2 b h1 h2).trans ((aS hb).trans (aS hb).symm))
theorem xq(G:Gx K){s₀ s:Shared}{o:Obj}(hφ:∀b,b≠G.J→b≠G.cenv.locals→φ b=frameOf G.φ₀ G.S s₀ b)(le:Le G.ι₀ ι)(O:(G.Y s₀.gens).Ok φ (fun _=>none) ι H s)(hJ:φ G.J=some o)(hSt:G.St 0 o)(Fr:bw φ G.cenv)(w:G.P G.l H) :
  G.seg G.l.length s₀ (.compStart (.GeneratorExp G.z [⟨G.t,G.it,G.ifs,0⟩] G.scope G.pos) 0 (.ref G.J) .none G.cenv) s:=by
 show Seg _ G.A _ _ _ s₀ _ ((compStart (.GeneratorExp G.z [⟨G.t,G.it,G.ifs,0⟩] G.scope G.pos) 0 (.ref G.J) .none G.cenv).onRaise (leaving G.cenv)) [] s
 rw [Sem.onRaise_eq_wrap]
 refine seg_bind_wrap (wpAny_askSetting ?_)
 split
 ·exact seg_again rfl (rJ G G.l.length 0 G.l.length s₀ s φ ι H o (Nat.sub_zero _) (Nat.zero_le _) (by cases G.ex<;>first | exact Nat.le_refl _ | rfl) le hφ O hJ hSt Fr w)
 ·refine seg_bind_wrap (wpAny_rule ?_)
  exact seg_bind_wrap (wpAny_standAt (seg_bind_wrap (G.It.self (O.I.fr _ _ hJ) hSt (seg_again rfl (rJ G G.l.length 0 G.l.length s₀ s φ ι H o (Nat.sub_zero _) (Nat.zero_le _) (by cases G.ex<;>first | exact Nat.le_refl _ | rfl) le hφ O hJ hSt Fr w)))))
end
end Mine
end
section
namespace Mine
open PySem PyProof.Rows PySem.W
open scoped Classical
section
variable{K:Kx}{φ φ' ι ι':Obs}{ρ:Env}{H H':Hp}{s s':Shared}{γ:Array GenState}{a g:Nat}{oG:Obj}
noncomputable abbrev Gx.Goes(G:Gx K)(gs:GenState)(m:Nat)(s:Shared):Prop:=gs.Goes K.M G.A (fun n s₀ r s₁=>r=.ok .next∧GP G n s₀ s₁) (GY G) m (.send .none) s
structure GS(G:Gx K)(γ:Array GenState)(a g:Nat)(oG:Obj)(m:Nat)(xs:List V)(φ ι:Obs)(H:Hp)(s:Shared):Prop where
 off:∀b,b≠G.J→b≠G.cenv.locals→b≠G.S→φ b=G.φ₀ b
 le:Le G.ι₀ ι
 I:Inv K.B γ φ ι H s
 oS:∃o,φ G.S=some o
 ga:φ a=some oG
 go:∃gs,s.gens[g]?=some gs∧∀s'':Shared,Inv K.B γ (frameOf φ G.S s'') ι H s''→G.Goes gs m (s''.setGen g .running)
 w:G.P xs H
theorem jz{B:Base}(I:Inv B γ φ ι H s){S:Addr}{o:Obj}(h:φ S=some o):frameOf φ S s=φ:=by
 funext b;delta frameOf;split
 ·rename_i hb;subst hb;exact (h)▸I.fr _ _ h
 ·rfl
theorem rI(G:Gx K){Q:Option Value→Shared→Prop}{E:Value→Shared→Prop}{m:Nat}{xs:List V}(hγ:γ.size≤g)(hroom:G.A0.depth<recursionLimit)(isG:∀h:Heap,h.get? a=some oG→h.IsGen a g)(T:GS G γ a g oG m xs φ ι H s)
  (item:∀v s1 φ' ι' H' i x y,G.l[i]?=some x→(G.ex=true→(G.l.drop (i+1)).length=m-1)→Rep ι' v y→(∀b,b≠G.J→b≠G.cenv.locals→φ' b=frameOf G.φ₀ G.S s b)→Inv K.B γ φ' ι' H' s1→G.Rs x (G.l.drop (i+1)) (some y) H'→Le G.ι₀ ι' →
   (∀φ2 s2,(∀b,b≠G.S→φ2 b=φ' b)→φ2 a=some oG→(∃o,φ2 G.S=some o)→s2.gens=s1.gens→Inv K.B γ φ2 ι' H' s2→G.P (G.l.drop (i+1)) H'→∃m',m=m'+1∧GS G γ a g oG m' (G.l.drop (i+1)) φ2 ι' H' s2)→Q (some v) s1)
  (done:∀s1 ι' H' φ',(G.ex=true→m=0)→Le G.ι₀ ι'→(∀b,b≠G.J→b≠G.cenv.locals→φ' b=frameOf G.φ₀ G.S s b)→(∀φ₁,Le φ₁ φ'→φ₁ G.J=none→Inv K.B γ φ₁ ι' H' s1)→G.En H'→Q none s1) :
  wpAny K.M G.A0 (pyNext (.ref a)) Q E s:=by
 obtain ⟨off,le,I,⟨oS,hφS⟩,ga,⟨gs,hgs,hgo⟩,w⟩:=T
 refine ao (I.gens) fun lx hbx hγe=>?_
 have hlt:=(Array.getElem?_eq_some_iff.mp hgs).1
 have after:∀{φ' ι':Obs} {H':Hp} {s₁:Shared} {gs':GenState},gs'.bare=true→Inv K.B (s.setGen g .running).gens φ' ι' H' s₁→Inv K.B γ φ' ι' H' (s₁.setGen g gs')∧(s₁.setGen g gs').gens[g]?=some gs':=fun {φ' ι' H' s₁ gs'} hb I'=>by
  refine ao (I'.gens) fun l' hb' he=>?_
  have he':s₁.gens=((γ++lx).setIfInBounds g .running)++l':=by rw [he];rw [Shared.setGen,hγe]
  refine ao (uo hγ ((hγe)▸hlt) hbx hb' hb) fun lz hz hez=>?_
  have hrun:s₁.gens[g]?=some .running:=by
   rw [he',Array.getElem?_append_left (by rw [Array.size_setIfInBounds,←hγe];exact hlt)]
   refine (hγe)▸?_;simp [hlt]
  exact ⟨{ data:=I'.data,fr:=I'.fr,objs:=I'.objs,dfr:=I'.dfr,dob:=I'.dob,fob:=I'.fob,base:=I'.base,tab:=I'.tab,tdis:=I'.tdis,gens:=⟨lz,hz,by simp only [Shared.setGen];exact (he')▸hez⟩,os:=I'.os },setGen_self hrun⟩
 refine wpAny_pyNext_genexpQ (P:=GP G) G.hh I.noLimit hroom (isG _ (I.fr _ _ ga)) hgs (hgo s ((jz I hφS).symm▸I)) (fun v s₁ gs' hb hv=>?_) fun s₁ hp h' hk=>?_
 ·obtain ⟨i,x,y,ι',H',φ',hi,hm,le',r,hφ,I1,hw,hn⟩:=hv
  refine cX (after hb I1) fun I2 g1=>?_
  refine item v _ φ' ι' H' i x y hi (fun e=>by rw [if_pos e] at hm;exact hm) r hφ I2 hw le' fun φ2 s2 e2 ga2 oS2 hg2 I3 hp=>?_
  have hfr:∀s'',frameOf φ2 G.S s''=frameOf φ' G.S s'':=fun s''=>by
   funext b;delta frameOf;split
   ·rfl
   ·rename_i hb;exact e2 b hb
  cases m with
  |zero =>
   have hS':=(hφ G.S G.hSJ G.hSL).trans ((if_pos rfl).trans (I.fr _ _ hφS))
   exact (hn (s₁.setGen g gs') ((jz I2 hS').symm▸I2.rebase rfl rfl) hp).elim
  |succ m'=>exact ⟨m',rfl,fun b h1 h2 h3=>(e2 b h3).trans ((hφ b h1 h2).trans (aS h3)),le',I3,oS2,ga2,⟨gs',hg2▸g1,fun s'' I4=>hn (s''.setGen g .running) (I4.rebase (s':=s''.setGen g .running) rfl rfl|>fun I=>hfr s''▸I) hp⟩,hp⟩
 ·obtain ⟨ι',H',φ',e0,le',hφ,hI,hw⟩:=hp
  exact done _ ι' H' φ' e0 le' hφ (fun φ₁ h1 h2=>((after (gs':=.finished) rfl (hI φ₁ h1 h2)).1).keep hk rfl rfl) hw
theorem Gx.less(G:Gx K)(hJ:G.φ₀ G.J=none)(hC:G.φ₀ G.cenv.locals=none){s:Shared}(h:∀b,b≠G.J→b≠G.cenv.locals→φ' b=frameOf G.φ₀ G.S s b){φ₁:Obs}(h1:Le φ₁ G.φ₀)(hS:∀o,φ₁ G.S=some o→s.heap.get? G.S=some o):Le φ₁ φ':=fun b o e=>by
 refine (h b (fun e'=>by replace e:=(e')▸e;replace hJ:=(h1 _ _ e).symm.trans hJ;injection hJ) (fun e'=>by replace e:=(e')▸e;replace hC:=(h1 _ _ e).symm.trans hC;injection hC))▸?_
 by_cases hb:b=G.S
 ·rw [hb] at e ⊢;exact (if_pos rfl).trans (hS _ e)
 ·exact (aS hb).trans (h1 _ _ e)
theorem A7{A:Around}(hroom:A.depth+1<recursionLimit){Q:PV}{R:Result→Shared→Prop}(G:Gx K)(hA:G.A0=A.in1)(hSa:G.S=a)(hγ:γ.size≤g)(isG:∀h:Heap,h.get? a=some oG→h.IsGen a g)(hJ:G.φ₀ G.J=none)(hC:G.φ₀ G.cenv.locals=none)(h₀:G.φ₀ a=some oG)
  (hRs:∀x xs v H',G.Rs x xs (some v) H'→∃b,v=.bool b∧(if b=true then G.P xs H' else Q (.bool false) H')) (hEn:∀H',G.En H'→Q (.bool true) H')
  (hR:∀s' b ι' H',Le G.ι₀ ι'→Inv K.B γ G.φ₀ ι' H' s'→Q (.bool b) H'→R (.ok (.ret (.bool b))) s') :
  ∀(m:Nat) (xs:List V) (s:Shared) (φ ι:Obs) (H:Hp),GS G γ a g oG m xs φ ι H s→codeAny K.M A (.builtin "all.loop" ⟨[.ref a],[]⟩) R s:=by
 intro m
 induction m using Nat.strongRecOn with
 |ind m ih =>
  intro xs s φ ι H T
  have hS:∀o,G.φ₀ G.S=some o→s.heap.get? G.S=some o:=fun o e=>by rw [hSa] at e ⊢;simp only [←e,h₀];exact T.I.fr _ _ T.ga
  refine codeAny_builtin F.entry_all_loop ?_
  show wpAny _ A.in1 (pyNext (.ref a)>>=_) _ _ s
  refine (hA)▸?_
  refine wpAny_bind (rI G hγ ((hA)▸Nat.lt_of_succ_lt hroom) isG T (fun v s1 φ' ι' H' i x y hi hm r hφ I1 w le' next=>?_) fun s1 ι' H' φ' e0 le' hφ hI w=>wpAny_bind (wpAny_rule (wpAny_pure (hR _ true ι' H' le' (hI _ (G.less hJ hC hφ (.refl _) hS) hJ) (hEn _ w)))))
  refine ao (hRs _ _ _ _ w) ?_;rintro b rfl hb
  obtain rfl:v=.bool b:=r
  refine wpAny_bind (wpAny_holding (wpAny_truthy_bool (wpAny_bind (wpAny_letGo ?_))))
  cases b with
  |true =>
   refine ao (next φ' s1 (fun _ _=>rfl) (by have h:=hφ G.S G.hSJ G.hSL;rw [hSa] at h;exact h.trans ((if_pos rfl).trans (T.I.fr _ _ T.ga))) ⟨oG,hSa▸(by have h:=hφ G.S G.hSJ G.hSL;rw [hSa] at h;exact h.trans ((if_pos rfl).trans (T.I.fr _ _ T.ga)))⟩ rfl I1 hb) ?_;rintro m' rfl T'
   exact wpAny_pure ⟨plainId_quiet F.plain_all_loop _,ih m' (Nat.lt_succ_self _) _ s1 φ' ι' H' T'⟩
  |false=>exact wpAny_bind (wpAny_rule (wpAny_pure (hR _ false ι' H' le' (I1.less (G.less hJ hC hφ (.refl _) hS)) hb)))
structure kZ(le:Int→Int→Prop)(l:List V)(f:V→Int)(b:Int):Prop where
 mem:b∈l.map f
 all:∀y∈l.map f,le y b
theorem kZ.one{le:Int→Int→Prop}{l:List V}{f:V→Int}{x:V}(hr:le (f x) (f x))(h:l[0]?=some x):kZ le (l.take 1) f (f x):=by
 exact ((show l.take 1=[x] from by cases l<;>cases h;rfl))▸⟨.head _,fun y hy=>(List.mem_singleton.mp hy).symm▸hr⟩
theorem kZ.step{le:Int→Int→Prop}{l:List V}{f:V→Int}{b c:Int}{x:V}{i:Nat}(B:kZ le (l.take i) f b)(h:l[i]?=some x)(h1:∀y,le y b→le y c)(h2:le (f x) c)(h3:c=b∨c=f x):kZ le (l.take (i+1)) f c:=by
 have e:(l.take (i+1)).map f=(l.take i).map f++[f x]:=by simp only [List.take_add_one,h];simp
 refine ⟨?_,?_⟩<;>refine (e)▸?_
 ·exact List.mem_append.mpr (h3.imp (fun e=>by simpa only [e] using B.mem) fun e=>by simpa only [e] using .head _)
 ·exact fun y hy=>(List.mem_append.mp hy).elim (fun h=>h1 y (B.all y h)) fun h=>List.mem_singleton.mp h▸h2
noncomputable def bY:Option (Int×Tok)→Array Value
 |none=>#[]
 |some (b,t)=>#[.int b t,.int b t]
theorem oX{A:Around}(hroom:A.depth+1<recursionLimit){f:V→Int}{Qf:Hp→Prop}{R:Result→Shared→Prop}{le:Int→Int→Prop}{Q:Option Value→Shared→Prop}{E:Value→Shared→Prop}(G:Gx K)(hA:G.A0=A.in1)(hSa:a≠G.S)(hγ:γ.size≤g)(isG:∀h:Heap,h.get? a=some oG→h.IsGen a g)(hex:G.ex=true)
  (hJ:G.φ₀ G.J=none) (hC:G.φ₀ G.cenv.locals=none) (hS₀:G.φ₀ G.S=none) (haJ:a≠G.J) (haC:a≠G.cenv.locals) (h₀:G.φ₀ a=some oG)
  (hRs:∀x xs v H',G.Rs x xs (some v) H'→v=.int (f x)∧G.P xs H') (hEn:∀H',G.En H'→Qf H') {m j c:Nat} {b:Option (Int×Tok)} (hm:m=G.l.length-j) (hj:j≤G.l.length)
  (T:GS G γ a g oG m (G.l.drop j) φ ι H s) (hφS:φ G.S=some (seqObj "list" (bY b) c))
  (item:∀s1 x u,G.l[j]?=some x→s1.heap.get? G.S=some (seqObj "list" (bY b) c) →
   (∀c' b' h',Heap.SameBut G.S s1.heap h'→h'.get? G.S=some (seqObj "list" (bY b') c')→∃φ2 ι2 H2,φ2 G.S=some (seqObj "list" (bY b') c')∧GS G γ a g oG (G.l.length-(j+1)) (G.l.drop (j+1)) φ2 ι2 H2 { s1 with heap:=h' })→Q (some (.int (f x) u)) s1)
  (done:∀s1,j=G.l.length→s1.heap.get? G.S=some (seqObj "list" (bY b) c)→(∀h',Heap.SameBut G.S s1.heap h'→∃ι' H',Le G.ι₀ ι'∧Inv K.B γ G.φ₀ ι' H' { s1 with heap:=h' }∧Qf H')→Q none s1):wpAny K.M A.in1 (pyNext (.ref a)) Q E s:=by
 have hS:=T.I.fr _ _ hφS
 refine (hA)▸?_
 refine rI G hγ ((hA)▸Nat.lt_of_succ_lt hroom) isG T (fun v s1 φ' ι' H' i x y hi hm' r hφ I1 w le' next=>?_) fun s1 ι' H' φ' e0 le' hφ hI w=>?_
 ·obtain ⟨rfl,hP⟩:=hRs _ _ _ _ w
  refine aL r ?_;clear r;rintro u rfl
  have hil:=(List.getElem?_eq_some_iff.mp hi).1
  have hm':=hm' hex
  have hS':=(hφ G.S G.hSJ G.hSL).trans ((if_pos rfl).trans hS)
  have ga:=(hφ a haJ haC).trans ((aS hSa).trans h₀)
  obtain rfl:i=j:=by
   refine ao (next φ' s1 (fun _ _=>rfl) ga ⟨_,hS'⟩ rfl I1 hP) fun m' e _=>?_
   grind
  refine item s1 x u hi (I1.fr _ _ hS') fun c' b' h' hsb hg=>?_
  refine ao (next (bh φ' G.S (seqObj "list" (bY b') c')) { s1 with heap:=h' } (fun b hb=>ak hb) ((ak hSa).trans ga) ⟨_,af ..⟩ rfl (I1.frame (s':={ s1 with heap:=h' }) hS' hsb hg rfl rfl) hP) fun m' e T'=>?_
  obtain rfl:m'=G.l.length-(i+1):=(N.a7 hm e)
  exact ⟨_,ι',H',af ..,T'⟩
 ·have hj':j=G.l.length:=by grind
  have I2:=hI (fun b=>if b=G.J then none else φ' b) (fun b o e=>by by_cases hb:b=G.J<;>simp [hb] at e;exact e) (if_pos rfl)
  have hS2:(fun b=>if b=G.J then none else φ' b) G.S=some (seqObj "list" (bY b) c):=(if_neg G.hSJ).trans ((hφ G.S G.hSJ G.hSL).trans ((if_pos rfl).trans hS))
  refine done s1 hj' (I2.fr _ _ hS2) fun h' hsb=>⟨ι',H',le',?_,hEn _ w⟩
  exact (I2.leave (s':={ s1 with heap:=h' }) (φ₀:=G.φ₀) (a:=G.S) (fun b o e=>(if_neg fun h=>by simp only [h,hJ] at e;injection e).trans (G.less hJ hC hφ (.refl _) (fun o e=>by replace e:=(hS₀).symm.trans e;injection e) b o e)) hS₀ (fun e=>Option.some_ne_none _ (hS2.symm.trans e)) hsb.extBut rfl rfl)
theorem pq{b:Int}{t:Tok}:(bY (some (b,t))).size≤sizeLine:=(by decide:2≤sizeLine)
theorem Ae{A:Around}(hroom:A.depth+1<recursionLimit){f:V→Int}{Qf:Hp→Prop}{R:Result→Shared→Prop}(G:Gx K)(hA:G.A0=A.in1)(hSa:a≠G.S)(hγ:γ.size≤g)(isG:∀h:Heap,h.get? a=some oG→h.IsGen a g)(hex:G.ex=true)
  (hJ:G.φ₀ G.J=none) (hC:G.φ₀ G.cenv.locals=none) (hS₀:G.φ₀ G.S=none) (haJ:a≠G.J) (haC:a≠G.cenv.locals) (h₀:G.φ₀ a=some oG) (hRs:∀x xs v H',G.Rs x xs (some v) H'→v=.int (f x)∧G.P xs H') (hEn:∀H',G.En H'→Qf H') (hne:G.l≠[])
  (hR:∀s' ι' H' m t,Le G.ι₀ ι'→Inv K.B γ G.φ₀ ι' H' s'→Qf H'→kZ (fun y m=>y≤m) G.l f m→R (.ok (.ret (.int m t))) s') :
  ∀(m j:Nat) (s:Shared) (φ ι:Obs) (H:Hp) (b:Option (Int×Tok)) (c:Nat),m=G.l.length-j→j≤G.l.length→GS G γ a g oG m (G.l.drop j) φ ι H s→φ G.S=some (seqObj "list" (bY b) c)→(match b with | none=>j=0 | some (b,t)=>kZ (fun y m=>y≤m) (G.l.take j) f b) →
   codeAny K.M A (.builtin "max.loop" ⟨[.ref a,.none,.ref G.S],[]⟩) R s:=by
 intro m
 induction m using Nat.strongRecOn with
 |ind m ih =>
  intro j s φ ι H b c hm hj T hφS hb
  refine codeAny_builtin F.entry_max_loop ?_
  refine wpAny_bind (wpAny_seqItems (T.I.fr _ _ hφS) rfl ?_)
  refine wpAny_bind (wpAny_tryCatch (oX hroom (R:=R) (le:=fun y m=>y≤m) G hA hSa hγ isG hex hJ hC hS₀ haJ haC h₀ hRs hEn hm hj T hφS (fun s1 x u hi hg next=>?_) fun s1 hj' hg fin=>?_))
  ·have hlt:=(List.getElem?_eq_some_iff.mp hi).1
   have go:∀b' c' h',Heap.SameBut G.S s1.heap h'→h'.get? G.S=some (seqObj "list" (bY (some b')) c')→kZ (fun y m=>y≤m) (G.l.take (j+1)) f b'.1→codeAny K.M A (.builtin "max.loop" ⟨[.ref a,.none,.ref G.S],[]⟩) R { s1 with heap:=h' }:=fun b' c' h' h1 h2 h3 =>
    let ⟨φ2,ι2,H2,e,T2⟩:=next c' (some b') h' h1 h2;ih _ (N.a4 hm hlt) (j+1) _ φ2 ι2 H2 (some b') c' rfl hlt T2 e h3
   match b,hb with
   |none,e =>
    subst e
    show wpAny _ A.in1 (updateSeq G.S (fun _=>#[.int (f x) u,.int (f x) u])>>=_) _ _ _
    refine wpAny_bind (wpAny_updateSeq hg rfl ?_)
    exact wpAny_pure ⟨plainId_quiet F.plain_max_loop _,go (f x,u) _ _ (Heap.SameBut.update ..) (get?_update_seq hg _) (.one (Int.le_refl _) hi)⟩
   |some (b,t),hb =>
    show wpAny _ A.in1 (tryCatch (holding [.int (f x) u,.int (f x) u] (richCompare .Gt (.int (f x) u) (.int b t)>>=_)) _>>=_) _ _ _
    refine wpAny_bind (wpAny_tryCatch (wpAny_holding (wpAny_bind ?_)))
    refine P.gt_int (wpAny_bind (wpAny_holding (wpAny_truthy_bool (wpAny_bind (wpAny_letGo (wpAny_pure ?_))))))
    by_cases hlt':b<f x
    ·rw [decide_eq_true hlt']
     exact wpAny_bind (wpAny_updateSeq hg rfl (wpAny_bind (wpAny_letGo (wpAny_pure ⟨plainId_quiet F.plain_max_loop _,go (f x,u) _ _ (Heap.SameBut.update ..) (get?_update_seq hg _) (hb.step hi (fun y h=>Int.le_trans h (Int.le_of_lt hlt')) (Int.le_refl _) (.inr rfl))⟩))) pq)
    ·rw [decide_eq_false hlt']
     exact wpAny_bind (wpAny_letGo (wpAny_pure ⟨plainId_quiet F.plain_max_loop _,go (b,t) c _ (Heap.SameBut.refl ..) hg (hb.step hi (fun y h=>h) (Int.not_lt.mp hlt') (.inl rfl))⟩))
  ·match b,hb with
   |none,e=>exact absurd (List.length_eq_zero_iff.mp (hj'.symm.trans e)) hne
   |some (b,t),hb =>
    simp only [hj',List.take_length] at hb
    exact wpAny_bind (wpAny_updateSeq hg rfl (wpAny_bind (wpAny_letGo (wpAny_pure (let ⟨ι',H',le',I',q⟩:=fin _ (Heap.SameBut.update ..);hR _ ι' H' b t le' I' q hb)))) pq)
theorem Ac{A:Around}(hroom:A.depth+1<recursionLimit){f:V→Int}{Qf:Hp→Prop}{R:Result→Shared→Prop}(G:Gx K)(hA:G.A0=A.in1)(hSa:a≠G.S)(hγ:γ.size≤g)(isG:∀h:Heap,h.get? a=some oG→h.IsGen a g)(hex:G.ex=true)
  (hJ:G.φ₀ G.J=none) (hC:G.φ₀ G.cenv.locals=none) (hS₀:G.φ₀ G.S=none) (haJ:a≠G.J) (haC:a≠G.cenv.locals) (h₀:G.φ₀ a=some oG) (hRs:∀x xs v H',G.Rs x xs (some v) H'→v=.int (f x)∧G.P xs H') (hEn:∀H',G.En H'→Qf H') (hne:G.l≠[])
  (hR:∀s' ι' H' m t,Le G.ι₀ ι'→Inv K.B γ G.φ₀ ι' H' s'→Qf H'→kZ (fun y m=>m≤y) G.l f m→R (.ok (.ret (.int m t))) s') :
  ∀(m j:Nat) (s:Shared) (φ ι:Obs) (H:Hp) (b:Option (Int×Tok)) (c:Nat),m=G.l.length-j→j≤G.l.length→GS G γ a g oG m (G.l.drop j) φ ι H s→φ G.S=some (seqObj "list" (bY b) c)→(match b with | none=>j=0 | some (b,t)=>kZ (fun y m=>m≤y) (G.l.take j) f b) →
   codeAny K.M A (.builtin "min.loop" ⟨[.ref a,.none,.ref G.S],[]⟩) R s:=by
 intro m
 induction m using Nat.strongRecOn with
 |ind m ih =>
  intro j s φ ι H b c hm hj T hφS hb
  refine codeAny_builtin F.entry_min_loop ?_
  refine wpAny_bind (wpAny_seqItems (T.I.fr _ _ hφS) rfl ?_)
  refine wpAny_bind (wpAny_tryCatch (oX hroom (R:=R) (le:=fun y m=>m≤y) G hA hSa hγ isG hex hJ hC hS₀ haJ haC h₀ hRs hEn hm hj T hφS (fun s1 x u hi hg next=>?_) fun s1 hj' hg fin=>?_))
  ·have hlt:=(List.getElem?_eq_some_iff.mp hi).1
   have go:∀b' c' h',Heap.SameBut G.S s1.heap h'→h'.get? G.S=some (seqObj "list" (bY (some b')) c')→kZ (fun y m=>m≤y) (G.l.take (j+1)) f b'.1→codeAny K.M A (.builtin "min.loop" ⟨[.ref a,.none,.ref G.S],[]⟩) R { s1 with heap:=h' }:=fun b' c' h' h1 h2 h3 =>
    let ⟨φ2,ι2,H2,e,T2⟩:=next c' (some b') h' h1 h2;ih _ (N.a4 hm hlt) (j+1) _ φ2 ι2 H2 (some b') c' rfl hlt T2 e h3
   match b,hb with
   |none,e =>
    subst e
    show wpAny _ A.in1 (updateSeq G.S (fun _=>#[.int (f x) u,.int (f x) u])>>=_) _ _ _
    refine wpAny_bind (wpAny_updateSeq hg rfl ?_)
    exact wpAny_pure ⟨plainId_quiet F.plain_min_loop _,go (f x,u) _ _ (Heap.SameBut.update ..) (get?_update_seq hg _) (.one (Int.le_refl _) hi)⟩
   |some (b,t),hb =>
    show wpAny _ A.in1 (tryCatch (holding [.int (f x) u,.int (f x) u] (richCompare .Lt (.int (f x) u) (.int b t)>>=_)) _>>=_) _ _ _
    refine wpAny_bind (wpAny_tryCatch (wpAny_holding (wpAny_bind ?_)))
    refine P.lt_int (wpAny_bind (wpAny_holding (wpAny_truthy_bool (wpAny_bind (wpAny_letGo (wpAny_pure ?_))))))
    by_cases hlt':f x<b
    ·rw [decide_eq_true hlt']
     exact wpAny_bind (wpAny_updateSeq hg rfl (wpAny_bind (wpAny_letGo (wpAny_pure ⟨plainId_quiet F.plain_min_loop _,go (f x,u) _ _ (Heap.SameBut.update ..) (get?_update_seq hg _) (hb.step hi (fun y h=>Int.le_trans (Int.le_of_lt hlt') h) (Int.le_refl _) (.inr rfl))⟩))) pq)
    ·rw [decide_eq_false hlt',if_neg Bool.false_ne_true]
     exact wpAny_bind (wpAny_letGo (wpAny_pure ⟨plainId_quiet F.plain_min_loop _,go (b,t) c _ (Heap.SameBut.refl ..) hg (hb.step hi (fun y h=>h) (Int.not_lt.mp hlt') (.inl rfl))⟩))
  ·match b,hb with
   |none,e=>exact absurd (List.length_eq_zero_iff.mp (hj'.symm.trans e)) hne
   |some (b,t),hb =>
    simp only [hj',List.take_length] at hb
    exact wpAny_bind (wpAny_updateSeq hg rfl (wpAny_bind (wpAny_letGo (wpAny_pure (let ⟨ι',H',le',I',q⟩:=fin _ (Heap.SameBut.update ..);hR _ ι' H' b t le' I' q hb)))) pq)
end
end Mine
end
section
namespace Mine
open PySem PyProof.Rows PySem.W
open scoped Classical
theorem Ai{gs:Scope}{y:Str}{k:NameKind}(h:gs.names.lookup y=some k):(nK gs).names.lookup y=some k:=by
 show (gs.names++[(sx "<gen>",NameKind.globalExplicit)]).lookup y=some k
 rw [List.lookup_append,h];rfl
theorem n7{gs:Scope}{y:Str}{k:NameKind}(h:(nK gs).names.lookup y=some k)(hk:k≠.globalExplicit):gs.names.lookup y=some k:=by
 have h':(gs.names++[(sx "<gen>",NameKind.globalExplicit)]).lookup y=some k:=h
 rw [List.lookup_append] at h'
 cases e:gs.names.lookup y with
 |some k'=>rw [e] at h';exact h'
 |none =>
  rw [e] at h'
  simp only [Option.none_or,List.lookup_cons,List.lookup_nil] at h'
  split at h'
  ·cases h';exact absurd rfl hk
  ·injection h'
theorem Bl{gs:Scope}{x:String}{t:Expr}(h:Tgt gs [x] t):Tgt (nK gs) [x] t:=by
 cases h with
 |one h=>exact .one (beq_iff_eq.mpr (Ai (eq_of_beq h)))
noncomputable def kN(x:Expr):Bool:=x.ctorIdx==20||x.ctorIdx==23
theorem AF{x:Expr}(h:kN x=true)(env:PySem.Env)(v:Value):genFold x env v=pure v:=by
 cases x<;>first | rfl | exact xf h
section
variable{K:Kx}{X:Cx K}{φ φ' ι ι':Obs}{ρ:Env}{H H':Hp}{s s':Shared}{gs:Scope}
theorem xK{cells:List (Str×Addr)}(l:List (Str×NameKind)):∀(acc:List (Str×Addr)),(∀x∈l,x.2≠.free)→fW cells l acc=acc:=by
 induction l with
 |nil=>exact fun _ _=>rfl
 |cons x r ih=>exact fun acc h=>(ih _ fun y hy=>h y (List.mem_cons_of_mem _ hy)).trans (pI (h x List.mem_cons_self))
structure CJ(K:Kx)(γ:Array GenState)(φ:Obs)(gs:Scope)(z t it:Expr)(ifs:List Expr)(pos:Pos)(l:List V)(ι₁:Obs)(H:Hp)(J C a g:Nat)(cenv:PySem.Env)(φg:Obs)(oG:Obj)(s:Shared):Prop where
 iter:∃St Stl o,Iter K.prog K.B ι₁ l Stl J St∧(∀H,Stl H)∧φg J=some o∧St 0 o
 JC:J≠C
 aJ:a≠J
 aC:a≠C
 fJ:φ J=none
 fC:φ C=none
 fa:φ a=none
 off:∀b,b≠J→b≠C→φg b=bh φ a oG b
 I:Inv K.B γ φg ι₁ H s
 gn:s.gens[g]?=some (.fresh (.compStart (.GeneratorExp z [⟨t,it,ifs,0⟩] gs pos) 0 (.ref J) .none cenv))
 ge:γ.size≤g
 isG:∀h:Heap,h.get? a=some oG→h.IsGen a g
 loc:cenv.locals=C
 cel:cenv.cells=[]
 co:cenv.scope.isCoroutine=false
 ev:cU K.B ι₁ φg (nK gs) cenv (fun _=>none)
 fr:bw φg cenv
theorem AH{x:String}{iter:ME}{z t it:Expr}{ifs:List Expr}{gpos:Pos}{W:PV}{Ql:List V→Hp→Prop}{P:Value→Shared→Prop}{E:Value→Shared→Prop}(hsc:bN K.sc gs [x] []=true)(hco:gs.isCoroutine=false)(h0:gs.names.lookup (sx ".0")=some .local)(hnm:kN it=true)(hmk:gs.names.lookup (sx "<gen>")=none)
  (hit:SE K iter it) (O:X.Ok φ ρ ι H s) (w:wpE K.F iter ρ H W) (hW:∀v H1,W v H1→∃l,(v=.lst l∨v=.tup l)∧Ql l H1)
  (hP:∀(l:List V) (ι₁:Obs) (H1:Hp) (J C a g:Nat) (cenv:PySem.Env) (φg:Obs) (oG:Obj) (s':Shared),Ql l H1→Le ι ι₁→CJ K X.γ φ gs z t it ifs gpos l ι₁ H1 J C a g cenv φg oG s'→P (.ref a) s') :
  wpAny K.M X.A (eval (.GeneratorExp z [⟨t,it,ifs,0⟩] gs gpos) X.env) P E s:=by
 have S:=jZ hsc
 have hnf:∀x∈gs.names,x.2≠.free:=fun x hx e=>let ⟨c,hc,_⟩:=S.fr x hx e;xm (hc)
 refine wpAny_GeneratorExp_make hco (by rw [vF (fun x hx hf=>absurd hf (hnf x hx)),xK _ _ hnf]) S.nc h0 S.k (Nat.lt_trans (Nat.lt_of_le_of_lt (Nat.le_trans (Nat.le_add_right ..) (Nat.le_add_right ..):X.A.depth≤X.A.depth+3*(K.d+4+K.k)+3) X.room.d) (of_decide_eq_true rfl)) ?_ (AF hnm _)
 refine hit.run O w fun xv s1 ι0 H1 v l0 O0 r0 q=>?_
 refine ao (hW _ _ q) fun l hl q=>?_
 refine wpAny_mono (g8 O0.I r0 (by rcases hl with rfl | rfl<;>trivial)) (fun itv s2 g2=>?_) fun _ _ e=>e.elim
 cases g2 with | mk li hitems It hJ I1 hSt =>
 rename_i ι1 l' J St o
 obtain rfl:l'=l:=by rcases hl with rfl | rfl<;>exact hitems
 refine ⟨I1.noLimit,AI I1 ((O0.Ev.mono li).grow (Le.add hJ)) S.g fun code s3 I3=>?_⟩
 simp only [O.Ev.g]
 refine Cy K.D I3 fun h' hn hsb=>?_
 have hsz:h'.objs.size=s3.heap.objs.size+1:=by simp only [hsb.1,Heap.size_push]
 have I4:Inv K.B X.γ (bh φ J o) ι1 H1 { s3 with heap:=h',toks:=s3.toks+1+1+1 }:=I3.keep (fun b o' e=>hsb.extBut b o' (Nat.ne_of_lt (Heap.lt_size e)) (Heap.get?_push_of_some _ e)) rfl rfl
 refine kW hn fun lo es ep hlo hd hk1 hk2=>?_
 have hJlt:=Heap.lt_size (I3.fr J o (af ..))
 generalize hoG:({ cls:=.type "generator",data:=.fields #[.int s3.gens.size 0,.str "<genexpr>" (s3.toks+1),.str (X.env.qual++"<genexpr>") (s3.toks+1+1)] }:Obj)=oG
 obtain ⟨hna,I6⟩:=(I4.yl (a:=s3.heap.objs.size) (I3.new (a:=s3.heap.objs.size) (Nat.le_refl _)) hlo).gk (k:=s3.toks+1+1+1) (o:=oG) (by subst hoG;rfl)
 simp only at hna I6
 have haJ:h'.objs.size≠J:=Nat.ne_of_gt ((hsz)▸Nat.lt_succ_of_lt hJlt)
 have haC:h'.objs.size≠s3.heap.objs.size:=(hsz)▸Nat.succ_ne_self _
 refine ao (I6.gens) fun lx hbx hge=>?_
 simp only at hge
 refine hP l' ι1 H1 J s3.heap.objs.size h'.objs.size s3.gens.size (genEnv gs [] s3.heap.objs.size code builtinsNs X.env) (bh (bh (bh φ J o) s3.heap.objs.size lo) h'.objs.size oG) oG _ q (l0.trans li) ?_
 generalize hgs:GenState.fresh (.compStart (.GeneratorExp z [⟨t,it,ifs,0⟩] gs gpos) 0 (.ref J) .none (genEnv gs [] s3.heap.objs.size code builtinsNs X.env))=st
 exact {
  iter:=⟨St,_,o,It,fun H=>by rcases hl with rfl | rfl<;>trivial,by rw [ak (Ne.symm haJ),ak (Ne.symm (Nat.ne_of_gt hJlt))];exact af ..,hSt⟩
  JC:=Ne.symm (Nat.ne_of_gt hJlt)
  aJ:=haJ
  aC:=haC
  fJ:=hJ
  fC:=(by have:=(I3.new (a:=s3.heap.objs.size) (Nat.le_refl _)).f;rwa [ak (Nat.ne_of_gt hJlt)] at this)
  fa:=(by rwa [ak haC,ak haJ] at hna)
  off:=fun b e1 e2=>by
   delta bh;by_cases hb:b=h'.objs.size
   ·exact (if_pos hb).trans (if_pos hb).symm
   ·rw [if_neg hb,if_neg hb,if_neg e2,if_neg e1]
  I:={ data:=I6.data,fr:=I6.fr,objs:=I6.objs,dfr:=I6.dfr,dob:=I6.dob,fob:=I6.fob,base:=I6.base,tab:=I6.tab,tdis:=I6.tdis,gens:=⟨lx.push st,AllBare.push hbx (by subst hgs;rfl),by rw [hge];simp⟩,os:=I6.os }
  gn:=by subst hgs;exact Array.getElem?_push_size ..
  ge:=by rw [hge];simp
  isG:=fun h e=>⟨oG,_,_,e,by subst hoG;rfl,by subst hoG;rfl,by subst hoG;rfl⟩
  loc:=rfl
  cel:=rfl
  co:=hco
  ev:={
   names:=fun y hy=>.inl (by
    delta iD at hy
    split at hy
    all_goals first
     |(rename_i e;simp only [e];exact n7 e (fun e=>nomatch e))
     |injection hy)
   dS:=fun y hy=>n7 hy (fun e=>nomatch e)
   kind:=S.k
   g:=O.Ev.g
   b:=rfl
   code:=fun h=>by
    exfalso
    have:(nK gs).names.lookup (sx "<gen>")=some .globalExplicit:=by
     show (gs.names++[(sx "<gen>",NameKind.globalExplicit)]).lookup (sx "<gen>")=_
     rw [List.lookup_append,hmk];rfl
    delta gu at h;replace h:=(this)▸h;injection h
   vars:=fun y u hy=>nomatch hy }
  fr:=⟨⟨lo,_,by
   exact (ak (Ne.symm haC))▸af ..,es,ep,hd,hk1,hk2⟩,fun c hc=>(xm (hc)),by show (gs.kind==.class||(gs.kind==.module&&_))=false;refine (S.k)▸?_;rfl⟩ }
theorem zO{A:Around}{n:Nat}(R:bx A (n+1)){z t it:Expr}{ifs:List Expr}{pos:Pos}{J:Addr}{cenv:PySem.Env}:bx (A.in1.in1.over (kg z t it ifs gs pos J cenv) []) n:=by
 have hf:(kg z t it ifs gs pos J cenv).frames≤1:=by
  show (if Code.isFrame (kg z t it ifs gs pos J cenv)=true then 1 else 0)≤1
  split<;>decide
 refine ⟨R.h,?_,?_⟩
 ·have:=R.d
  show A.depth+0+((kg z t it ifs gs pos J cenv).frames+0+0+0)+3*n+3<700
  lia
 ·have:=R.u
  show A.units+1+1+0+3*(kg z t it ifs gs pos J cenv).frames+100*n+100<cLine
  lia
end
end Mine
end
section
namespace Mine
open PySem PyProof.Rows PySem.W
open scoped Classical
section
variable{K:Kx}{φ φ' ι ι':Obs}{ρ:Env}{H H':Hp}{s s':Shared}{gs:Scope}
theorem mh{γ:Array GenState}{a g:Nat}{oG o oS:Obj}(G:Gx K)(off:∀b,b≠G.J→b≠G.cenv.locals→b≠G.S→φ b=G.φ₀ b)(le:Le G.ι₀ ι)(I:Inv K.B γ φ ι H s)(hS:φ G.S=some oS)(ga:φ a=some oG)
  (gn:s.gens[g]?=some (.fresh (.compStart (.GeneratorExp G.z [⟨G.t,G.it,G.ifs,0⟩] G.scope G.pos) 0 (.ref G.J) .none G.cenv))) (hJ:φ G.J=some o) (hSt:G.St 0 o) (ev:cU K.B ι φ K.sc G.cenv (fun _=>none)) (fr:bw φ G.cenv) (w:G.P G.l H):GS G γ a g oG G.l.length G.l φ ι H s :=
 ⟨off,le,I,⟨_,hS⟩,ga,⟨_,gn,fun s'' I2=>⟨rfl,xq G (φ:=frameOf φ G.S s'') (s₀:=s''.setGen g .running) (s:=s''.setGen g .running) (fun b e1 e2=>by
  by_cases hb:b=G.S
  ·exact (hb)▸(if_pos rfl).trans (if_pos rfl).symm
  ·exact (aS hb).trans ((off b e1 e2 hb).trans (aS hb).symm)) le ⟨I2.rebase rfl rfl,ev.but (D:=G.S) (fun b hb=>aS hb) G.hSL G.hSc⟩ ((aS (Ne.symm G.hSJ)).trans hJ) hSt (fr.but (D:=G.S) (fun b hb=>aS hb) G.hSL) w⟩⟩,w⟩
noncomputable abbrev Kx.gen(K:Kx)(d:Nat)(gs:Scope):Kx:={ K with d:=d,sc:=nK gs }
theorem zG{K:Kx}{d:Nat}(hd:K.d=d+1){q:QK}{x:String}{elt iter cond:ME}{z t it:Expr}{ifs:List Expr}{p gpos pos:Pos}(hg:aU K.sc q.name=true)(hbl:nk.lookup q.name=some (.builtin q.name))(hsc:bN K.sc gs [x] []=true)(hco:gs.isCoroutine=false)(h0:gs.names.lookup (sx ".0")=some .local)
  (hnm:kN it=true) (hmk:gs.names.lookup (sx "<gen>")=none) (ht:Tgt gs [x] t) (hit:SE K iter it) (helt:SE (K.gen d gs) elt z) (hcond:eo (K.gen d gs) cond ifs) :
  SE K (.quant q elt x iter cond) (.Call (.Name (sx q.name) p) [.GeneratorExp z [⟨t,it,ifs,0⟩] gs gpos] [] pos):=fun X φ ρ ι H s Q O w =>
 wpAny_Call_ofName (fz O hg hbl (Mine.callWith_of (bI rfl rfl (wpAny_items_cons (AH hsc hco h0 hnm hmk hit O w (Ql:=fun l H1=>(q=.all∨dB cond=true)∧yI (gm K.F elt cond x) l H1 Q q) (fun v H1 h=>h) fun l ι₁ H1 J C a g cenv φg oG s1 hw le M=>wpAny_items_nil (wpAny_pure ⟨⟨_,Looks.of_pure rfl⟩,by
  refine cX hw ?_;clear hw;rintro hqn hw
  refine kW (M.iter) fun St Stl o It hStl hJo hSt=>?_
  obtain rfl:=M.loc
  have hφa:=(M.off a M.aJ M.aC).trans (af ..)
  have hgn:=M.isG _ (M.I.fr a oG hφa)
  have hR:bx (X.A.in1.in1.over (kg z t it ifs gs gpos J cenv) []) (d+4+K.k):=zO (X.room.le (by rw [hd];omega))
  have hroom:X.A.depth+1<recursionLimit:=Nat.lt_trans (Nat.lt_of_le_of_lt ((Nat.add_le_add (Nat.le_add_right X.A.depth (3*(K.d+4+K.k))) (of_decide_eq_true rfl)):X.A.depth+1≤X.A.depth+3*(K.d+4+K.k)+3) X.room.d) (of_decide_eq_true rfl)
  have hφJ:(bh φ a oG) J=none:=(ak (Ne.symm M.aJ)).trans M.fJ
  have hφC:(bh φ a oG) cenv.locals=none:=(ak (Ne.symm M.aC)).trans M.fC
  have hnc:∀b,b∉cenv.cells.map (·.2):=fun b h=>by replace h:=(M.cel)▸h;exact xm h
  have less:∀{ι' H' s'},Inv K.B X.γ (bh φ a oG) ι' H' s'→Inv K.B X.γ φ ι' H' s':=fun I'=>I'.less (Le.add M.fa)
  let G:(S:Addr)→S≠J→S≠cenv.locals→(P:List V→Hp→Prop)→(Rs:V→List V→Option V→Hp→Prop)→(En:Hp→Prop)→(ex:Bool)→(ex=true→dB cond=true)→(∀H,P [] H→En H)→(∀a xs H,P (a::xs) H→gm K.F elt cond x a H (Rs a xs))→(∀a xs H,Rs a xs none H→P xs H)→Gx (K.gen d gs) :=
   fun S h1 h2 P Rs En ex hex k0 k1 k2=>{ A0:=X.A.in1,ex:=ex,x:=x,elt:=elt,cond:=cond,z:=z,t:=t,it:=it,ifs:=ifs,scope:=gs,pos:=gpos,S:=S,J:=J,cenv:=cenv,l:=l,φ₀:=bh φ a oG,ι₀:=ι₁,P:=P,Rs:=Rs,En:=En,St:=St,Stl:=Stl,R:=hR,hh:=X.room.h,ht:=Bl ht,helt:=helt,hcond:=hcond,It:=It,hStl:=hStl,hco:=M.co,hJL:=M.JC,hJc:=hnc _,hSJ:=h1,hSL:=h2,hSc:=hnc _,hex:=hex,hK0:=k0,hK1:=k1,hK2:=k2 }
  cases q with
  |all =>
   refine call_function_tree F.kind_all F.plain_all F.entry_all (F.args_all1 _) ?_
   refine wpAny_bind (m:=oneArg "all" _) (wpAny_pure (wpAny_bind (wpAny_pyIter_gen hgn (wpAny_pure ⟨plainId_quiet F.plain_all_loop _,?_⟩))))
   let G0:=G a M.aJ M.aC (fun xs H=>sN (gm K.F elt cond x) xs H Q) (fun _ xs r H'=>match r with | some v=>∃b,v=.bool b∧(if b then sN (gm K.F elt cond x) xs H' Q else Q (.bool false) H') | none=>sN (gm K.F elt cond x) xs H' Q) (fun H=>Q (.bool true) H) false (fun e=>xf (e)) (fun _ h=>h) (fun _ _ _ h=>h) (fun _ _ _ h=>h)
   exact A7 hroom G0 rfl rfl M.ge M.isG hφJ hφC (af ..) (fun _ xs v H' h=>h) (fun _ h=>h) (fun s' b ι' H' l1 I' hQ=>⟨ι',H',.bool b,le.trans l1,less I',bq,hQ⟩) l.length l s1 φg ι₁ H1
    (mh G0 (fun b e1 e2 _=>M.off b e1 e2) (.refl _) M.I hφa hφa M.gn hJo hSt M.ev M.fr hw)
  |min =>
   obtain ⟨hne,f,hw⟩:=hw
   refine call_function_tree F.kind_min F.plain_min F.entry_min (F.args_min1 _) ?_
   show wpAny _ X.A.in1 (Builtin.Builtins.bindParams "min" ["key","default"] 0 ⟨[],[]⟩>>=_) _ _ s1
   refine wpAny_bind (wpAny_of_eq (show Builtin.Builtins.bindParams "min" ["key","default"] 0 ⟨[],[]⟩=pure [none,none] from rfl) (wbp (wpAny_bind (wpAny_pyIter_gen hgn (wpAny_bind (wpAny_newObj_type ?_))))))
   refine wpAny_pure ⟨plainId_quiet F.plain_min_loop _,?_⟩
   refine cX (M.I.gk (k:=s1.toks) (o:=seqObj "list" #[] 0) rfl) fun hnS I2=>?_
   obtain ⟨lo,lm,hlo,_⟩:=M.fr.loc
   have hSJ:s1.heap.objs.size≠J:=fun e=>by rw [e,hJo] at hnS;injection hnS
   have hSC:s1.heap.objs.size≠cenv.locals:=fun e=>by rw [e,hlo] at hnS;injection hnS
   have hSa:a≠s1.heap.objs.size:=fun e=>by rw [←e,hφa] at hnS;injection hnS
   let G0:=G s1.heap.objs.size hSJ hSC (fun xs H=>ki f (gm K.F elt cond x) xs H fun H'=>∀m,m∈l.map f→(∀y∈l.map f,m≤y)→Q (.int m) H') (fun y xs r H'=>r=some (.int (f y))∧ki f (gm K.F elt cond x) xs H' fun H'=>∀m,m∈l.map f→(∀y∈l.map f,m≤y)→Q (.int m) H')
    (fun H'=>∀m,m∈l.map f→(∀y∈l.map f,m≤y)→Q (.int m) H') true (fun _=>hqn.resolve_left fun e=>nomatch e) (fun _ h=>h) (fun _ _ _ h=>h) (fun _ _ _ h=>xn (h.1))
   exact Ac hroom G0 rfl hSa M.ge M.isG rfl hφJ hφC ((M.off _ hSJ hSC).symm.trans hnS) M.aJ M.aC (af ..) (fun y xs v H' h=>⟨Option.some.inj h.1,h.2⟩) (fun _ h=>h) hne (fun s' ι' H' m t l1 I' hQ hb=>⟨ι',H',.int m,le.trans l1,less I',bV,hQ m hb.mem hb.all⟩) l.length 0 _ _ ι₁ H1 none 0 rfl (Nat.zero_le _)
    (mh G0 (fun b e1 e2 e3=>(ak e3).trans (M.off b e1 e2)) (.refl _) I2 (af ..) ((ak hSa).trans hφa) M.gn ((ak (Ne.symm hSJ)).trans hJo) hSt (M.ev.but (fun b hb=>ak hb) hSC (hnc _)) (M.fr.but (fun b hb=>ak hb) hSC) hw) (af ..) rfl
  |max =>
   obtain ⟨hne,f,hw⟩:=hw
   refine call_function_tree F.kind_max F.plain_max F.entry_max (F.args_max1 _) ?_
   show wpAny _ X.A.in1 (Builtin.Builtins.bindParams "max" ["key","default"] 0 ⟨[],[]⟩>>=_) _ _ s1
   refine wpAny_bind (wpAny_of_eq (show Builtin.Builtins.bindParams "max" ["key","default"] 0 ⟨[],[]⟩=pure [none,none] from rfl) (wbp (wpAny_bind (wpAny_pyIter_gen hgn (wpAny_bind (wpAny_newObj_type ?_))))))
   refine wpAny_pure ⟨plainId_quiet F.plain_max_loop _,?_⟩
   refine cX (M.I.gk (k:=s1.toks) (o:=seqObj "list" #[] 0) rfl) fun hnS I2=>?_
   obtain ⟨lo,lm,hlo,_⟩:=M.fr.loc
   have hSJ:s1.heap.objs.size≠J:=fun e=>by rw [e,hJo] at hnS;injection hnS
   have hSC:s1.heap.objs.size≠cenv.locals:=fun e=>by rw [e,hlo] at hnS;injection hnS
   have hSa:a≠s1.heap.objs.size:=fun e=>by rw [←e,hφa] at hnS;injection hnS
   let G0:=G s1.heap.objs.size hSJ hSC (fun xs H=>ki f (gm K.F elt cond x) xs H fun H'=>∀m,m∈l.map f→(∀y∈l.map f,y≤m)→Q (.int m) H') (fun y xs r H'=>r=some (.int (f y))∧ki f (gm K.F elt cond x) xs H' fun H'=>∀m,m∈l.map f→(∀y∈l.map f,y≤m)→Q (.int m) H')
    (fun H'=>∀m,m∈l.map f→(∀y∈l.map f,y≤m)→Q (.int m) H') true (fun _=>hqn.resolve_left fun e=>nomatch e) (fun _ h=>h) (fun _ _ _ h=>h) (fun _ _ _ h=>xn (h.1))
   exact Ae hroom G0 rfl hSa M.ge M.isG rfl hφJ hφC ((M.off _ hSJ hSC).symm.trans hnS) M.aJ M.aC (af ..) (fun y xs v H' h=>⟨Option.some.inj h.1,h.2⟩) (fun _ h=>h) hne (fun s' ι' H' m t l1 I' hQ hb=>⟨ι',H',.int m,le.trans l1,less I',bV,hQ m hb.mem hb.all⟩) l.length 0 _ _ ι₁ H1 none 0 rfl (Nat.zero_le _)
    (mh G0 (fun b e1 e2 e3=>(ak e3).trans (M.off b e1 e2)) (.refl _) I2 (af ..) ((ak hSa).trans hφa) M.gn ((ak (Ne.symm hSJ)).trans hJo) hSt (M.ev.but (fun b hb=>ak hb) hSC (hnc _)) (M.fr.but (fun b hb=>ak hb) hSC) hw) (af ..) rfl⟩)) rfl))))
end
end Mine
end
section
namespace Mine
open PySem PyProof.Rows PySem.W
open scoped Classical
def fE(env:PySem.Env)(c:Addr):Prop:=∃x,env.kindOf x=some .cell∧env.cells.lookup x=some c
structure eg(φ:Obs)(env:PySem.Env):Prop where
 at_:bw φ env
 ap:∀x y c,env.cells.lookup x=some c→env.cells.lookup y=some c→x=y
 mine:∀x,env.kindOf x=some .cell→∃c o v,env.cells.lookup x=some c∧φ c=some o∧o.data=.cell v
 stand:∀c,c∈env.cells.map (·.2)→φ c≠none
inductive lO(ι:Obs):Out→Flow→Prop
 |next:lO ι .next .next
 |cont:lO ι .cont .cont
 |ret {v:V} {r:Value} (h:Rep ι r v):lO ι (.ret v) (.ret r)
section
variable{K:Kx}{X:Cx K}{φ φ' ι ι':Obs}{ρ ρ':Env}{H H':Hp}{s s':Shared}{Q Q':PS}
structure Cx.OkS(X:Cx K)(φ:Obs)(ρ:Env)(ι:Obs)(H:Hp)(s:Shared):Prop where
 O:X.Ok φ ρ ι H s
 Fr:eg φ X.env
def Cx.Off(X:Cx K)(φ φ':Obs):Prop:=∀b,b≠X.env.locals→¬fE X.env b→φ' b=φ b
theorem Cx.Off.refl(φ:Obs):X.Off φ φ:=fun _ _ _=>rfl
theorem Cx.Off.trans{φ'':Obs}(h:X.Off φ φ')(h':X.Off φ' φ''):X.Off φ φ'':=fun b h1 h2=>(h' b h1 h2).trans (h b h1 h2)
inductive SP(X:Cx K)(φ ι:Obs)(Q:PS)(f:Flow)(s:Shared):Prop
 |mk (φ' ι':Obs) (H':Hp) (ρ':Env) (o:Out) (l:Le ι ι') (e:X.Off φ φ') (O:X.OkS φ' ρ' ι' H' s) (hf:lO ι' o f) (q:Q o ρ' H')
inductive SX(X:Cx K)(φ ι:Obs)(Q:PS)(s:Shared):Value→Prop
 |mk (φ' ι':Obs) (H':Hp) (ρ':Env) (a:Addr) (h₀:Heap) (args:List Value) (l:Le ι ι') (e:X.Off φ φ') (O:X.OkS φ' ρ' ι' H' { s with heap:=h₀ }) (q:Q .exc ρ' H') (hm:Heap.MadeExcOf h₀ s.heap a (.type "ValueError") args):SX X φ ι Q s (.ref a)
noncomputable abbrev SXv(X:Cx K)(φ ι:Obs)(Q:PS)(v:Value)(s:Shared):Prop:=SX X φ ι Q s v
def SS(K:Kx)(m:MS)(x:Stmt):Prop:=∀(X:Cx K) (φ:Obs) (ρ:Env) (ι:Obs) (H:Hp) (s:Shared) (Q:PS),X.OkS φ ρ ι H s→wpS K.F m ρ H Q→wpAny K.M X.A (exec x X.env) (SP X φ ι Q) (SXv X φ ι Q) s
def SSs(K:Kx)(ms:List MS)(xs:List Stmt):Prop:=∀(X:Cx K) (φ:Obs) (ρ:Env) (ι:Obs) (H:Hp) (s:Shared) (Q:PS),X.OkS φ ρ ι H s→aO K.F ms ρ H Q→wpAny K.M X.A (execs xs X.env) (SP X φ ι Q) (SXv X φ ι Q) s
theorem SX.up{e:Value}(h:SX X φ' ι' Q' s e)(l:Le ι ι')(o:X.Off φ φ')(hq:∀ρ H,Q' .exc ρ H→Q .exc ρ H):SX X φ ι Q s e:=match h with
 |.mk φ2 ι2 H2 ρ2 a h₀ args l2 o2 O q hm=>.mk φ2 ι2 H2 ρ2 a h₀ args (l.trans l2) (o.trans o2) O (hq _ _ q) hm
theorem SP.up{f:Flow}(l:Le ι ι')(o:X.Off φ φ')(h:SP X φ' ι' Q f s):SP X φ ι Q f s:=match h with
 |.mk φ2 ι2 H2 ρ2 oo l2 o2 O hf q=>.mk φ2 ι2 H2 ρ2 oo (l.trans l2) (o.trans o2) O hf q
theorem qO{t:Sem Flow}(l:Le ι ι')(o:X.Off φ φ')(h:wpAny K.M X.A t (SP X φ' ι' Q) (SXv X φ' ι' Q) s):wpAny K.M X.A t (SP X φ ι Q) (SXv X φ ι Q) s :=
 wpAny_mono h (fun _ _ h=>h.up l o) fun _ _ h=>SX.up h l o fun _ _ q=>q
theorem SP.here{o:Out}{f:Flow}(l:Le ι ι')(O:X.OkS φ ρ ι' H' s)(hf:lO ι' o f)(q:Q o ρ H'):SP X φ ι Q f s:=.mk φ ι' H' ρ o l (.refl _) O hf q
theorem Cx.OkS.step(O:X.OkS φ ρ ι H s){ι':Obs}{H':Hp}{s':Shared}(h:X.Ok φ ρ ι' H' s'):X.OkS φ ρ ι' H' s':=⟨h,O.Fr⟩
theorem Br{p:Pos}:SS K .cont (.Continue p):=fun X φ ρ ι H s Q O w=>wpAny_Continue (.here (.refl _) O .cont w)
theorem DU{e:ME}{x:Expr}{p:Pos}(he:SE K e x):SS K (.ret e) (.Return (some x) p):=fun X φ ρ ι H s Q O w =>
 wpAny_Return_some (he.run O.O w fun v s1 ι1 H1 y l1 O1 r1 q=>.here l1 (O.step O1) (.ret r1) q)
theorem DV{c:ME}{t e:List MS}{x:Expr}{a b:List Stmt}{p:Pos}(hc:ST K c x)(ht:SSs K t a)(he:SSs K e b):SS K (.ite c t e) (.If x a b p):=fun X φ ρ ι H s Q O w =>
 wpAny_If (hc.run (Q:=fun b H'=>cond b (aO K.F t ρ H' Q) (aO K.F e ρ H' Q)) O.O w (fun _ _ h=>h) fun v s1 ι1 H1 l1 O1 q=>match v,q with
  |false,q=>qO l1 (.refl _) (he X φ ρ ι1 H1 s1 Q (O.step O1) q)
  |true,q=>qO l1 (.refl _) (ht X φ ρ ι1 H1 s1 Q (O.step O1) q))
theorem Bq{x:Stmt}:SS K .dead x:=fun X φ ρ ι H s Q O w=>w.elim
theorem zA{ms:List MS}{xs:List Stmt}:SSs K (.dead::ms) xs:=fun X φ ρ ι H s Q O w=>w.elim
theorem Bm:SSs K [] []:=fun X φ ρ ι H s Q O w=>wpAny_execs_nil (.here (.refl _) O .next w)
theorem zB{m:MS}{ms:List MS}{x:Stmt}{xs:List Stmt}(h:SS K m x)(hs:SSs K ms xs):SSs K (m::ms) (x::xs):=fun X φ ρ ι H s Q O w =>
 wpAny_execs_cons (wpAny_mono (h X φ ρ ι H s _ O w) (fun f s1 h1=>by
  obtain ⟨φ1,ι1,H1,ρ1,o,l1,e1,O1,hf,q⟩:=h1
  cases hf with
  |next=>exact qO l1 e1 (hs X φ1 ρ1 ι1 H1 s1 Q O1 q)
  |cont=>exact .mk φ1 ι1 H1 ρ1 .cont l1 e1 O1 .cont q
  |ret r=>exact .mk φ1 ι1 H1 ρ1 _ l1 e1 O1 (.ret r) q) fun e s1 h1=>SX.up h1 (.refl _) (.refl _) fun _ _ q=>q)
theorem eg.set(Fr:eg φ X.env){b:Addr}{o:Obj}(h:∀c,c≠b→φ' c=φ c)(hb:φ' b=some o)(h1:bw φ' X.env)(h2:∀x,X.env.kindOf x=some .cell→X.env.cells.lookup x=some b→∃v,o.data=.cell v):eg φ' X.env :=
 ⟨h1,Fr.ap,fun z hz=>let ⟨c,o2,v2,g1,g2,g3⟩:=Fr.mine z hz;by
  by_cases e:c=b
  ·subst e;exact let ⟨v,hv⟩:=h2 z hz g1;⟨c,o,v,g1,hb,hv⟩
  ·exact ⟨c,o2,v2,g1,(h c e).trans g2,g3⟩,fun c hc=>by
  by_cases e:c=b
  ·subst e;rw [hb];exact Option.some_ne_none _
  ·rw [h c e];exact Fr.stand c hc⟩
theorem eg.but(Fr:eg φ X.env){L:Addr}(h:∀b,b≠L→φ' b=φ b)(hl:L≠X.env.locals)(hc:L∉X.env.cells.map (·.2)):eg φ' X.env :=
 ⟨Fr.at_.but h hl,Fr.ap,fun z hz=>let ⟨c,o,v',h1,h2,h3⟩:=Fr.mine z hz;⟨c,o,v',h1,(h c fun e=>hc (e▸bX h1)).trans h2,h3⟩,fun c hm=>(h c fun e=>hc (e▸hm))▸Fr.stand c hm⟩
theorem OkS.but(O:X.OkS φ ρ ι H s){L:Addr}(I:Inv K.B X.γ φ' ι H s')(h:∀b,b≠L→φ' b=φ b)(hl:L≠X.env.locals)(hc:L∉X.env.cells.map (·.2)):X.OkS φ' ρ ι H s':=⟨⟨I,O.O.Ev.but h hl hc⟩,O.Fr.but h hl hc⟩
theorem eg.apart(Fr:eg φ X.env){J:Addr}(hJ:φ J=none):J≠X.env.locals∧J∉X.env.cells.map (·.2)∧¬fE X.env J :=
 ⟨fun e=>(let ⟨o,m,ho,_⟩:=Fr.at_.loc;by simp only [←e,hJ] at ho;injection ho),(fun hm=>Fr.stand J hm hJ),fun q_=>ao q_ fun z _ hz=>(fun hm=>Fr.stand J hm hJ) (bX hz)⟩
noncomputable def storeOk(sc:Scope)(x:String):Bool:=match sc.names.lookup (sx x) with
 |some .local=>true
 |some .cell=>true
 |_=>false
theorem mT(O:X.Ok φ ρ ι H s){x:String}(h:storeOk K.sc x=true):X.env.kindOf (sx x)=some .local∨X.env.kindOf (sx x)=some .cell:=by
 delta storeOk at h
 split at h
 ·rename_i e;exact .inl (bz O (beq_iff_eq.mpr e))
 ·rename_i e
  rcases O.Ev.names x (by delta iD;rw [e]) with e1 | ⟨e1,_⟩
  ·exact .inr (e1.trans e)
  ·replace e1:=(e).symm.trans e1;contradiction
 ·injection h
theorem eT(O:X.OkS φ ρ ι H s){x:String}{v:Value}{y:V}(r:Rep ι v y)(hx:X.env.kindOf (sx x)=some .local∨X.env.kindOf (sx x)=some .cell){Q:Unit→Shared→Prop}{E:Value→Shared→Prop}
  (h:∀φ' s',X.Off φ φ'→X.OkS φ' (put ρ x y) ι H s'→Q () s'):wpAny K.M X.A (storeName X.env (sx x) v) Q E s:=by
 obtain ⟨O,Fr⟩:=O
 rcases hx with hx | hx
 ·refine fM O Fr.at_ r hx fun φ' s' e O' Fr'=>h φ' s' (fun b hb _=>e b hb) ⟨O',?_⟩
  refine ez (Fr'.loc) fun o m ho _=>?_
  exact Fr.set e ho Fr' fun z _ hz=>absurd rfl (Fr.at_.ap _ (bX hz))
 ·refine bP (Fr.mine _ hx) fun c o v' h1 h2 h3=>?_
  refine wpAny_storeName_cell (v₀:=v') O.Ev.kind hx h1 ⟨o,O.I.fr c o h2,h3⟩ fun h' ⟨o',ho',hd'⟩ hs=>?_
  have hcl:=Ne.symm (Fr.at_.ap c (bX h1))
  have ne:∀b,b≠c→bh φ c o' b=φ b:=fun b hb=>ak hb
  refine h _ _ (fun b hb hm=>ne b fun e=>hm ⟨_,hx,e▸h1⟩) ⟨⟨O.I.frame (s':={ s with heap:=h' }) h2 hs ho' rfl rfl,{ O.Ev with vars:=fun z u hz=>?_ }⟩,Fr.set ne (af ..) (Fr.at_.but ne (Ne.symm hcl)) fun _ _ _=>⟨_,hd'⟩⟩
  by_cases e:z=x
  ·cases e
   rw [q8] at hz;cases hz
   exact .cel v r (.inl hx) c o' h1 (af ..) hd'
  ·rw [lF e] at hz
   exact match O.Ev.vars z u hz with
    |.loc v2 r2 hk2 o2 m2 ho2 hn2 hv2=>.loc v2 r2 hk2 o2 m2 ((ne _ hcl).trans ho2) hn2 hv2
    |.cel v2 r2 hk2 c2 o2 hc2 ho2 hd2=>.cel v2 r2 hk2 c2 o2 hc2 ((ne _ fun e'=>e (lD (Fr.ap _ _ _ hc2 (by simpa only [e'] using h1)))).trans ho2) hd2
noncomputable def iE(x:Expr):Bool:=x.ctorIdx==8||x.ctorIdx==9||x.ctorIdx==10
theorem lS{x:Expr}(h:iE x=false)(t:Option Expr)(l:Nat)(env:PySem.Env):swapsWith x t l env=pure false:=by
 cases x<;>first | rfl | injection h
theorem rU{x:String}{e:ME}{y:Expr}{np pos:Pos}(hx:storeOk K.sc x=true)(he:SE K e y)(O:X.OkS φ ρ ι H s)(w:wpS K.F (.asg x e) ρ H Q)(hs:swapsWith y (some (.Name (sx x) np)) pos.line X.env=pure false) :
  wpAny K.M X.A (exec (.Assign [.Name (sx x) np] y pos) X.env) (SP X φ ι Q) (SXv X φ ι Q) s :=
 wpAny_Assign_Name (he.run O.O w fun v s1 ι1 H1 u l1 O1 r1 q=>eT (O.step O1) r1 (mT O1 hx) fun φ' s' e O'=>.mk φ' ι1 H1 _ .next l1 e O' .next q) hs
theorem DX{x:String}{e:ME}{y:Expr}{np pos:Pos}(hx:storeOk K.sc x=true)(he:SE K e y)(hc:iE y=false):SS K (.asg x e) (.Assign [.Name (sx x) np] y pos):=fun X φ ρ ι H s Q O w=>rU hx he O w (lS hc _ _ _)
theorem rX{gs:Scope}{xs caps:List String}{x:String}{mu:Bool}{elt iter cond:ME}{z t it:Expr}{ifs:List Expr}{np pos cpos:Pos}(hx:storeOk K.sc x=true)(hset:dH it=true)(hsc:bN K.sc gs xs caps=true)(ht:Tgt gs xs t)(hit:SE K iter it)(helt:SE (K.at gs) elt z)(hcond:eo (K.at gs) cond ifs) :
  SS K (.asg x (.comp mu elt xs iter cond caps)) (.Assign [.Name (sx x) np] (.ListComp z [⟨t,it,ifs,0⟩] gs cpos) pos):=by
 intro X φ ρ ι H s Q O w
 have e:∃b:Bool,swapsWith (.ListComp z [⟨t,it,ifs,0⟩] gs cpos) (some (.Name (sx x) np)) pos.line X.env=pure b:=⟨_,rfl⟩
 refine aL e fun b hs=>?_
 cases b with
 |false=>exact rU hx (uV hset hsc ht hit helt hcond) O w hs
 |true =>
  refine (exec_Assign_Name_used _ _ _ _ hs)▸?_
  refine wpAny_bind (wpAny_standAt (wpAny_bind (m:=do let _ ←comprehension (.ListComp z [⟨t,it,ifs,0⟩] gs cpos) gs X.env _ (newList []) false (eval it X.env) (some (assign (.Name (sx x) np) X.env))) (wpAny_bind (wpAny_mono
   (mS (QQ:=fun _ s'=>SP X φ ι Q .next s') (E:=SXv X φ ι Q) hset hsc ht hit helt hcond O.O w fun L v s1 h=>?_) (fun _ s' hq=>wpAny_pure (wpAny_pure hq)) fun _ _ e=>e))))
  obtain ⟨hL,lo,m,⟨es,ep,h1,h2,h3⟩,ι',H',u,le,I1,r,q⟩:=h
  refine bG (O.Fr.apart hL) fun hLl hLc hLm=>?_
  refine wpAny_assign_Name (eT (OkS.but (O.step ⟨(I1.less (Le.add hL)),O.O.Ev.mono le⟩) I1 (fun b hb=>ak hb) hLl hLc) r (mT (OkS.but (O.step ⟨(I1.less (Le.add hL)),O.O.Ev.mono le⟩) I1 (fun b hb=>ak hb) hLl hLc).O hx) fun φ' s2 e2 O2=>?_)
  have hL2:=(e2 L hLl hLm).trans (af ..)
  refine ⟨m,⟨lo,es,ep,O2.O.I.fr L lo hL2,h1,h2,h3⟩,fun h' hs=>?_⟩
  have I3:Inv K.B X.γ (fun b=>if b=L then none else φ' b) ι' H' { s2 with heap:=h' }:=O2.O.I.leave (a:=L) (fun b o e=>by by_cases hb:b=L<;>simp [hb] at e;exact e) (if_pos rfl) ((hL2)▸Option.some_ne_none _) hs.extBut rfl rfl
  refine .mk _ ι' H' _ .next le (fun b h1 h2=>?_) (OkS.but O2 I3 (fun b hb=>if_neg hb) hLl hLc) .next q
  by_cases hb:b=L
  ·rw [hb,hL];exact if_pos rfl
  ·exact (if_neg hb).trans ((e2 b h1 h2).trans (ak hb))
theorem Bp{e:ME}{x:Expr}{pos:Pos}(he:SE K e x)(hc:iE x=false):SS K (.expr e) (.Expr x pos):=fun X φ ρ ι H s Q O w =>
 wpAny_Expr (he.run O.O w fun v s1 ι1 H1 u l1 O1 r1 w=>let ⟨_,e,q⟩:=bR w;by cases none_of e;obtain rfl:v=.none:=r1;exact .here l1 (O.step O1) .next q) (by dsimp only [interactive];refine (O.O.Ev.kind)▸?_;rfl) (lS hc _ _ _)
end
end Mine
end
section
namespace Mine
open PySem PyProof.Rows PySem.W
open scoped Classical
theorem zX{od:Obj}{m:Str→Option Value}{n:String}{f:String→Option V}{y:V}{hsh:Int}{t:Tok}{v:Value}(hE:od.ExactDict)(hF:uO od f)(hN:NsO od m)(hf:m (sx n)=none→f n=none) :
  let od':=Obj.putName (sx n) hsh (.str (sx n) t) v od
  od'.ExactDict∧uO od' (fun z=>if z=n then some y else f z)∧NsO od' (fun z=>if z=sx n then some v else m z):=by
 refine kW hF ?_;clear hF;rintro es ep names h1 h2 h3 h4
 refine aP hN ?_;clear hN;rintro es' ep' g1 g2 g3
 obtain ⟨c,d,dt,sl⟩:=od
 simp only at h1 g1
 subst h1
 cases g1
 refine bG hE ?_;clear hE;rintro hc hd hs
 simp only at hc hd hs
 subst hc hd hs
 cases hi:es.findIdx? (·.key.isStr (sx n)) with
 |some i =>
  rw [Obj.putName_eq,Obj.putNameByArray,hi]
  refine ⟨⟨rfl,rfl,rfl⟩,⟨_,_,names,rfl,by simpa using h2,h3,fun z hz=>?_⟩,⟨_,_,rfl,g2.modify _ _,fun x=>?_⟩⟩
  ·by_cases e:z=n
   ·simp [e]
   ·simp [e,h4 z hz]
  ·show _=if x=sx n then some v else m x
   rw [←g3];exact findBy_modify (fun n v=>v.isStr n) Value.isStr_inj es (sx n) x v i hi
 |none =>
  rw [Obj.putName_eq,Obj.putNameByArray,hi]
  have hnone:m (sx n)=none:=by
   rw [←g3]
   simp only [nsFind,findBy]
   rw [Array.findIdx?_eq_none_iff] at hi
   rw [Option.map_eq_none_iff,Array.find?_eq_none]
   intro e he
   have:=hi e he
   simpa using this
  refine ⟨⟨rfl,rfl,rfl⟩,?_,⟨_,_,rfl,g2.push _ _ _ _,fun x=>?_⟩⟩
  ·have hn:n∉names:=fun hm=>by have:=h4 n hm;replace this:=(hf hnone)▸this;contradiction
   refine ⟨_,_,n::names,rfl,by simpa using h2,List.nodup_cons.mpr ⟨hn,h3⟩,fun z hz=>?_⟩
   by_cases e:z=n
   ·simp [e]
   ·simp only [e];exact h4 z ((List.mem_cons.mp hz).resolve_left e)
  ·show _=if x=sx n then some v else m x
   rw [←g3]
   exact findBy_push (fun n v=>v.isStr n) es (sx n) x _ _ v (fun y=>by
    show (sx n==y)=decide (y=sx n)
    by_cases h:y=sx n
    ·subst h;rfl
    ·have:¬sx n=y:=fun e=>h e.symm
     simp [h,this]) hi
section
variable{B:Base}{γ:Array GenState}{φ ι:Obs}{H:Hp}{s:Shared}{prog:Program}{A:Around}
theorem BN{R:Result→Shared→Prop}{K:Frag}{w:World}{x dx:Addr}{od:Obj}{es:Array DictEntry}{ep:Nat}{m:Str→Option Value}{n c:String}{tk:Tok}{v:Value}(Sf:Facts K)(X:K.In s.heap)(hc:aM c∈classes)(hn:cR c n=true)
  (hx:s.heap.get? x=some (fU (aM c) dx)) (hd:s.heap.get? dx=some od) (hN:NsO od m) (hsz:od.data=.dict es ep) (hz:es.size≤100)
  (hfr:(Obj.putName (sx n) (PyData.keyHash w.params (sx n)) (.str (sx n) s.toks) v od).isFreed=false)
  (h:R (.ok (.ret .none)) { s with heap:=s.heap.update dx (Obj.putName (sx n) (PyData.keyHash w.params (sx n)) (.str (sx n) s.toks) v),toks:=s.toks+1 }) :
  codeAny (model prog w) A (.call (.builtin "object.__setattr__") ⟨[.ref x,.str (sx n) tk,v],[]⟩) R s:=by
 refine osa_open X (show InstAt s.heap x (fU (aM c) dx) (aM c) (some od) from ⟨hx,rfl,rfl,hd⟩) (aQ Sf.po hc) (aQ Sf.tk (jb hn)) fun b=>?_
 refine ao (Option.map_eq_some_iff.mp (aQ Sf.hd hc)) fun cd hcd hd'=>?_
 refine wbp (wpAny_bind (wpAny_bind (wpAny_loadPart hx (wpAny_bind ((looks_clsIn X hcd).here ?_)))))
 refine (hd').symm▸?_
 refine wpAny_pure (a:=some dx) (wbp (wpAny_bind ?_))
 refine wpAny_bind (wpAny_bind (wpAny_askSetting (wpAny_pure (wpAny_bind (wpAny_mkText (wpAny_bind (wpAny_loadPart hd ?_)))))))
 rw [hsz]
 dsimp only
 refine aP hN ?_;clear hN;rintro es' ep' g1 g2 g3
 replace g1:=(hsz).symm.trans g1;cases g1
 have hany:es.any (·.refKey)=false:=by
  rw [Array.any_eq_false'];intro e he;refine f5 (g2 e he) fun n t h=>?_;simp [DictEntry.refKey,h]
 rw [aRefKeyMayBeTheName_at,hany,Bool.and_false]
 refine wpAny_updatePart hd ?_
 refine wpAny_bind (wpAny_lookBehind (Heap.get?_update_self (Obj.putName (sx n) (PyData.keyHash w.params (sx n)) (.str (sx n) s.toks) v) hd hfr) ?_ ?_)
 ·obtain ⟨c,d,dt,sl⟩:=od
  simp only at hsz;subst hsz
  cases hi:es.findIdx? (·.key.isStr (sx n)) with
  |some i=>simp only [Obj.putName_eq,Obj.putNameByArray,hi];exact pastItsLine_dict (by simp [sizeLine_eq];exact Nat.le_trans hz (of_decide_eq_true rfl))
  |none=>simp only [Obj.putName_eq,Obj.putNameByArray,hi];exact pastItsLine_dict (by simp [sizeLine_eq];exact Nat.le_trans hz (of_decide_eq_true rfl))
 ·exact wpAny_pure h
theorem qu{E:Value→Shared→Prop}{w:World}{l:Addr}{items:Array Value}{n:Nat}{k:Int}{t:Tok}{v:Value}{Q:Unit→Shared→Prop}(hl:IsL s.heap l items n)(h0:0≤k)(hfit:k<2^63)(hn:k<items.size)
  (hQ:Q () { s with heap:=s.heap.update l (Obj.mapSeq fun xs=>xs.setIfInBounds k.toNat v) }):wpAny (model prog w) A (setItem (.ref l) (.int k t) v) Q E s:=by
 delta setItem
 try with_reducible refine wpAny_holding ?_
 refine wpAny_bind (wpAny_sequenceKey hl.isList.typeIs (by rfl) ?_)
 refine wpAny_bind (wpAny_callSpecial?_slot (name:=Str.ofString "__setitem__") hl.isList.typeIs slot_list_setitem
  (wpAny_call_entry slot_list_setitem hl.isList.typeIs PySem.entry_list_setitem ?_ (args_list_setitem _ _ _)))
 show wpAny _ _ (Builtin.List.listSubscript? (.int k t)>>=_) _ _ s
 refine wpAny_bind (wpAny_listSubscript_int (fitsIndex_of h0 hfit) ?_)
 clear hfit
 obtain ⟨j,rfl⟩:=Int.eq_ofNat_of_zero_le h0
 have hj:j<items.size:=Int.ofNat_lt.mp hn
 refine wpAny_bind (wpAny_bind (wpAny_seqItemAt hl rfl (wpAny_pure ?_)))
 refine ((Array.getElem?_eq_getElem hj))▸?_
 refine wpAny_bind (wpAny_setSeqItemAt hl rfl ?_)
 first
  |exact wbp (wpAny_pure ⟨.none,rfl,wpAny_pure hQ⟩)
  |exact wpAny_pure ⟨.none,rfl,wpAny_pure hQ⟩
theorem mR{E:Value→Shared→Prop}(I:Inv B γ φ ι H s)(R:bx A 0){d i v:V}{vd vi vv:Value}{Q:Hp→Prop}{P:Unit→Shared→Prop}(rd:Rep ι vd d)(ri:Rep ι vi i)(rv:Rep ι vv v)(w:yg H Q v d i)
  (h:∀s' H',Inv B γ φ ι H' s'→Q H'→P () s'):wpAny (model prog B.w) A (setItem vd vi vv) P E s:=by
 cases w with
 |@list a l k hl hk hz q =>
  refine (show vd=.ref a from rd)▸I.listAt hl fun items n ho hi=>aL ri fun t e=>?_
  subst e
  have hlen:items.size=l.length:=Array.length_toList.symm.trans hi.length
  exact qu ho (Int.natCast_nonneg k) (Int.lt_of_le_of_lt (Int.ofNat_le.mpr (Nat.le_trans (Nat.le_of_lt hk) hz)) (of_decide_eq_true rfl)) (Int.ofNat_lt.mpr (hlen▸hk)) (h _ _ (I.change (x:=.list (l.set k v)) hl (Heap.SameBut.update ..) (IsL.update ho _) ⟨_,_,rfl,by simpa using hi.set k rv⟩ rfl rfl) q)
 |@dict a es ep i hl hk hz q =>
  refine (show vd=.ref a from rd)▸I.dictAt hl fun o ho hr _ _=>?_
  rcases hk with ⟨hk,hes⟩ | ⟨hk,hes⟩
  ·refine fm (dQ (prog:=prog) (B:=B) ri hk) ?_;rintro l t rfl rfl hl' his
   refine ao (uJ (prog:=prog) ho hr hes) fun kvs h1 h2=>?_
   refine wpAny_setItem_pairs his h1 (fun h' d' sb=>?_) (h2.length▸(fun h=>Nat.le_trans h (by decide)) hz)
   refine ez (mV d' (jv h2 hl' rv) (bF (P:=fun v=>isStr v=true) hes hk)) fun o' ep' ho' hr'=>?_
   exact h _ _ (I.change (x:=.dict (dput es (.str l) v) ep') hl sb ho' hr' rfl rfl) (q _)
  ·refine ao (yc (prog:=prog) I ri hk) ?_;rintro a' rfl his
   refine ao (qT (prog:=prog) I.data ho hr hes) fun xs h1 h2=>?_
   refine wpAny_setItem_heap (Dw R) his h1 (fun h' d' sb=>?_) (h2.length▸(fun h=>Nat.le_trans h (by decide)) hz)
   refine ez (mW d' (kj h2 ri rv) (bF (P:=fun v=>isAtoms v=true) hes hk)) fun o' ep' ho' hr'=>?_
   exact h _ _ (I.change (x:=.dict (dput es i v) ep') hl sb ho' hr' rfl rfl) (q _)
noncomputable def yG(names:List Str)(vs:List Expr):Sem (Option (List Str)):=do
 if names.length !=2||names.eraseDups.length !=names.length then return none
 if vs.all (foldedForSure 8) then return none
 if vs.all (constantsAlone 8) then unsupported "assign.tuple-of-constant-expressions:order-of-the-stores"
 return some names
noncomputable def pN(x:Expr):Bool:=swappedStores.match_5 (fun _=>Bool) x (fun _ _=>true) fun _=>false
theorem uT{x:Expr}(h:notStar x=true):pN x=false:=by
 cases x<;>first | rfl | exact xf h
noncomputable def sR(env:PySem.Env)(line:Nat)(x:Expr):Option Str:=swappedStores.match_8 (fun _=>Option Str) x (fun id pos=>if env.kindOf id==some .local&&pos.line==line then some id else none) fun _=>none
theorem rW{env:PySem.Env}{a b:Str}{pa pb p p':Pos}{m m':Nat}{y z:Expr}(hl:(pb.line==pa.line)=true)(hab:a≠b)(h1:notStar y=true)(h2:notStar z=true)(h3:[y,z].all (foldedForSure 8)=false)(h4:[y,z].all (constantsAlone 8)=false)
  (ka:env.kindOf a=some .local) (kb:env.kindOf b=some .local) (hk:env.scope.kind=.function):swappedStores [.Tuple [.Name a pa,.Name b pb] m p] (.Tuple [y,z] m' p') env=pure (some [a,b]):=by
 have hb:(env.blockKind !=.function)=false:=by
  have:env.blockKind=.function:=by delta Env.blockKind;rw [hk];rfl
  rw [this];rfl
 have hst:([y,z].any pN)=false:=Bool.or_eq_false_iff.mpr ⟨uT h1,Bool.or_eq_false_iff.mpr ⟨uT h2,rfl⟩⟩
 have q1:sR env pa.line (.Name a pa)=some a:=if_pos (Bool.and_eq_true_iff.mpr ⟨beq_iff_eq.mpr ka,beq_self_eq_true _⟩)
 have q2:sR env pa.line (.Name b pb)=some b:=if_pos (Bool.and_eq_true_iff.mpr ⟨beq_iff_eq.mpr kb,hl⟩)
 have q3:[a,b].eraseDups.length=2:=by
  simp [List.eraseDups_cons,(show ¬b=a from fun e=>hab e.symm)]
 show (if (!(2==2||2==3)||2 !=2||env.blockKind !=.function)=true then pure none else if ([y,z].any pN)=true then pure none else yG ([Expr.Name a pa,.Name b pb].filterMap (sR env pa.line)) [y,z])=_
 rw [hb,if_neg (by decide),hst,if_neg Bool.false_ne_true,List.filterMap_cons_some q1,List.filterMap_cons_some q2]
 delta yG
 rw [List.filterMap_nil,q3,h3,h4]
 rfl
end
section
variable{K:Kx}{X:Cx K}{φ φ' ι ι':Obs}{ρ ρ':Env}{H H':Hp}{s s':Shared}{Q Q':PS}
theorem z9{o:Obj}{es:Array DictEntry}{ep:Nat}(h:o.data=.dict es ep):o.isFreed=false:=by cases o;subst h;rfl
theorem xy{f:String→Option V}(h:∀z y,f z=some y→anyAttr z=true){names:List String}(hn:names.Nodup)(hs:∀n∈names,(f n).isSome=true):names.length≤19 :=
 ST.gC (m:=jc.map (·.2)) hn fun z hz=>let ⟨y,hy⟩:=Option.isSome_iff_exists.mp (hs z hz);List.contains_iff_mem.mp (show (jc.map (·.2)).contains z=true from h z y hy)
theorem tZ{E:Value→Shared→Prop}(I:Inv K.B X.γ φ ι H s){i dx:Addr}{f:String→Option V}{n c:String}{v:Value}{y:V}{Q:Unit→Shared→Prop}(hn:cR c n=true)(h1:H i=some (.inst c dx))(h2:H dx=some (.attrs f))(r:Rep ι v y)
  (h:∀s',Inv K.B X.γ φ ι (upd H dx (.attrs fun m=>if m=n then some y else f m)) s'→Q () s'):wpAny K.M X.A (setAttr (.ref i) (sx n) v) Q E s:=by
 refine br (I.objs _ _ h1) fun o1 g1 hcc e=>jF (I.objs _ _ h2) fun od g2 g3 g4 g=>ao g fun m g5 g6=>kW (id g4) fun es ep names e1 e2 e3 e4=>?_
 subst e
 have hC:aM c∈classes:=hcc.elim (fun e=>e▸(of_decide_eq_true rfl)) fun h=>h.elim (fun e=>e▸(of_decide_eq_true rfl)) fun e=>e▸(of_decide_eq_true rfl)
 have hat:∀z y,f z=some y→anyAttr z=true∧∃u,m (sx z)=some u∧Rep ι u y:=fun z y h=>by have:=g6 z;rw [h] at this;exact this
 refine bG (zX (n:=n) (y:=y) (hsh:=PyData.keyHash K.B.w.params (sx n)) (t:=s.toks+1) (v:=v) g3 g4 g5 fun hm=>?_) fun p1 p2 p3=>?_
 ·cases e:f n with
  |none=>rfl
  |some u=>exact ao (hat n u e).2 fun u' hu _=>x2 hm hu
 have hfr:(Obj.putName (sx n) (PyData.keyHash K.B.w.params (sx n)) (.str (sx n) (s.toks+1)) v od).isFreed=false:=ez p3 fun es' ep' q4 _=>z9 q4
 refine set_plain (X:=I.inK) (od:=some od) ⟨g1,rfl,rfl,g2⟩ (aQ K.D.sa hC) (BN (s:={ s with toks:=s.toks+1 }) K.D I.inK hC hn g1 g2 g5 e1 (Nat.le_trans e2 (Nat.le_trans (xy (fun z y e=>(hat z y e).1) e3 e4) (of_decide_eq_true rfl))) hfr ?_)
 refine h _ (I.change (x:=.attrs fun m=>if m=n then some y else f m) h2 (Heap.SameBut.update ..) (Heap.get?_update_self _ g2 hfr) ⟨p1,p2,_,p3,fun z=>?_⟩ rfl rfl)
 by_cases e:z=n
 ·cases e;dsimp only;rw [if_pos rfl];exact ⟨A6 hn,v,if_pos rfl,r⟩
 ·dsimp only;rw [if_neg e,if_neg fun h=>e (lD h)]
  exact g6 z
theorem tQ{y:Expr}{o:Expr}{a:Str}{p:Pos}{l:Nat}{env:PySem.Env}:swapsWith y (some (.Attribute o a p)) l env=pure false:=by cases y<;>rfl
theorem tS{x n:String}{e:ME}{y:Expr}{np ap pos:Pos}(hv:iA K.sc x=true)(he:SE K e y):SS K (.asgAttr x n e) (.Assign [.Attribute (.Name (sx x) np) (sx n) ap] y pos):=fun X φ ρ ι H s Q O w =>
 plainObj_wpAny_Assign_Attribute (he.run O.O w fun v s1 ι1 H1 u l1 O1 r1 w=>Bc w fun i c dx f hn hx h1 h2 q=>kO O1 hv hx fun ov r2=>(show ov=.ref i from r2)▸tZ O1.I hn h1 h2 r1 fun s3 I3=>.here l1 (O.step ⟨I3,O1.Ev⟩) .next q) tQ
theorem wu{d i e:ME}{y z u:Expr}{p pos:Pos}(hd:SE K d y)(hi:SE K i z)(he:SE K e u)(hc:iE u=false):SS K (.asgSub d i e) (.Assign [.Subscript y z p] u pos):=fun X φ ρ ι H s Q O w =>
 wpAny_Assign_Subscript (he.run O.O w fun v s1 ι1 H1 x1 l1 O1 r1 w1=>hd.run O1 w1 fun v2 s2 ι2 H2 x2 l2 O2 r2 w2=>hi.run O2 w2 fun v3 s3 ι3 H3 x3 l3 O3 r3 w3 =>
  mR O3.I X.r0 (r2.mono l3) r3 (r1.mono (l2.trans l3)) w3 fun s4 H4 I4 q=>.here (l1.trans (l2.trans l3)) (O.step ⟨I4,O3.Ev⟩) .next q) (lS hc _ _ _)
theorem Bu{x:String}{d i e:ME}{y z u:Expr}{np p pos:Pos}(hx:bK K.sc x=true)(hd:SE K d y)(hi:SE K i z)(he:SE K e u):SS K (.asg2 x d i e) (.Assign [.Name (sx x) np,.Subscript y z p] u pos):=fun X φ ρ ι H s Q O w =>
 wpAny_Assign_two (he.run O.O w fun v s1 ι1 H1 x1 l1 O1 r1 w1=>wpAny_assign_Name (eT (O.step O1) r1 (.inl (bz O1 hx)) fun φ2 s2 e2 O2=>by
  exact wpAny_bind (wpAny_holding (hd.run O2.O w1 fun v2 s3 ι3 H3 x3 l3 O3 r3 w3=>wpAny_bind (wpAny_holding (hi.run O3 w3 fun v3 s4 ι4 H4 x4 l4 O4 r4 w4=>wpAny_bind (wpAny_standAt (wpAny_bind (wpAny_holding
   (mR O4.I X.r0 (r3.mono l4) r4 (r1.mono (l3.trans l4)) w4 fun s5 H5 I5 q=>wpAny_release (.mk φ2 ι4 H5 _ .next (l1.trans (l3.trans l4)) e2 (O2.step ⟨I5,O4.Ev⟩) .next q)))))))))))
theorem zW{ρ:Env}{x y:String}{u v:V}(h:x≠y):put (put ρ y u) x v=put (put ρ x v) y u:=by
 funext z
 delta put
 by_cases e:z=x
 ·rw [if_pos e,if_neg fun e'=>h (e.symm.trans e'),if_pos e]
 ·rw [if_neg e,if_neg e]
theorem Bt{x y:String}{e:ME}{z u:Expr}{pa pb p p' pos:Pos}{m m':Nat}(hx:bK K.sc x=true)(hy:bK K.sc y=true)(hl:(pb.line==pa.line)=true)(hab:(x !=y)=true)(h1:notStar z=true)(h2:notStar u=true)
  (h3:[z,u].all (foldedForSure 8)=false) (h4:[z,u].all (constantsAlone 8)=false) (he:SE K e (.Tuple [z,u] m' p')):SS K (.asgs [x,y] e) (.Assign [.Tuple [.Name (sx x) pa,.Name (sx y) pb] m p] (.Tuple [z,u] m' p') pos):=fun X φ ρ ι H s Q O w =>
 have hab:=bne_iff_ne.mp hab
 Assign_Tuple_swapped (names:=[sx x,sx y]) (he.run O.O w fun v s1 ι1 H1 x1 l1 O1 r1 w=>by
  refine ao (bR w) fun ρ' hb q=>?_
  cases x1 with
  |tup l =>
   match l,hb with
   |[u1,u2],hb =>
    cases hb
    refine bP (bJ r1) ?_;rintro c n ⟨il⟩ rfl g1 g2
    refine qP g2 fun v1 v2 e q1 q2=>?_
    simp only at e;subst e
    refine @wpAny_unpackItems_tuple K.prog K.B.w X.A (SXv X φ ι Q) s1 c #[v1,v2] (fun items s₂=>wpAny K.M X.A (assignInOrder ([sx x,sx y].reverse.map fun n=>bindName X.env n) items.reverse) (fun _=>SP X φ ι Q .next) (SXv X φ ι Q) s₂) X.room.h ⟨_,O1.I.data _ _ g1,rfl,n,rfl⟩ fun h' hx'=>?_
    show wpAny _ _ (assignInOrder [bindName X.env (sx y),bindName X.env (sx x)] [v2,v1]) _ _ _
    exact wpAny_assignInOrder_more (wpAny_bindName (eT (O.step ⟨O1.I.keep (s':={ s1 with heap:=h' }) (rL hx') rfl rfl,O1.Ev⟩) q2 (.inl (bz O1 hy)) fun φ3 s3 e3 O3=>wpAny_assignInOrder_more (wpAny_bindName (eT O3 q1 (.inl (bz O3.O hx)) fun φ4 s4 e4 O4 =>
     wpAny_assignInOrder_none (.mk φ4 ι1 H1 _ .next l1 (e3.trans e4) O4 .next (zW hab▸q))))))
  |_=>injection hb) rfl (rW hl (fun e=>hab (lD e)) h1 h2 h3 h4 (bz O.O hx) (bz O.O hy) O.O.Ev.kind)
end
end Mine
end
section
namespace Mine
open PySem PyProof.Rows PySem.W
open scoped Classical
section
variable{K:Kx}{X:Cx K}{φ φ' ι ι':Obs}{ρ ρ':Env}{H H':Hp}{s s':Shared}{Q Q':PS}
structure For(X:Cx K) where
 J:Addr
 St:Nat→Obj→Prop
 l:List V
 Stl:Hp→Prop
 ι₀:Obs
 φ₀:Obs
 hJ:φ₀ J=none
 hJL:J≠X.env.locals
 hJc:J∉X.env.cells.map (·.2)
 It:Iter K.prog K.B ι₀ l Stl J St
noncomputable abbrev Jw(next:Env→Hp→Prop)(Q:PS):PS:=fun o ρ H=>match o with
 |.next=>next ρ H
 |.cont=>next ρ H
 |.ret r=>Q (.ret r) ρ H
 |.exc=>False
inductive FI(Z:For X)(xs:List String)(body:List MS)(Q:PS)(n:Nat)(s:Shared):Prop
 |mk (i:Nat) (φ ι:Obs) (H:Hp) (ρ:Env) (o:Obj) (hn:n=Z.l.length-i) (hi:i≤Z.l.length) (le:Le Z.ι₀ ι) (hφ:∀b,b≠Z.J→b≠X.env.locals→¬fE X.env b→φ b=Z.φ₀ b)
   (O:X.OkS φ ρ ι H s) (hJ:φ Z.J=some o) (hS:Z.St i o) (w:forL (fun ρ H Q=>aO K.F body ρ H Q) Z.Stl xs (Z.l.drop i) ρ H Q)
theorem For.off(Z:For X)(O:X.OkS φ ρ ι H s)(hφ:∀b,b≠Z.J→b≠X.env.locals→¬fE X.env b→φ b=Z.φ₀ b)(I:∀φ₁,Le φ₁ φ→φ₁ Z.J=none→Inv K.B X.γ φ₁ ι H s'):∃φ₁,X.OkS φ₁ ρ ι H s'∧X.Off Z.φ₀ φ₁ :=
 ⟨fun b=>if b=Z.J then none else φ b,OkS.but O (I _ (fun b o e=>by by_cases hb:b=Z.J<;>simp [hb] at e;exact e) (if_pos rfl)) (fun b hb=>if_neg hb) Z.hJL Z.hJc,fun b h1 h2=>by
  by_cases hb:b=Z.J
  ·rw [hb,Z.hJ];exact if_pos rfl
  ·exact (if_neg hb).trans (hφ b hb h1 h2)⟩
theorem For.turn{Z:For X}{xs:List String}{body:List MS}{zs:List Stmt}{t:Expr}(ht:Tgt K.sc xs t)(hb:SSs K body zs){n:Nat}{E:Value→Shared→Prop}(C:FI Z xs body Q n s) :
  wpAny K.M X.A (pyNext (.ref Z.J)) (fun r s₁=>match r with
   |none=>wpAny K.M X.A (execs [] X.env) (SP X Z.φ₀ Z.ι₀ Q) E s₁
   |some v=>wpAny K.M X.A (letOwnedTupleGo t (.ref Z.J) v) (fun _ s₁'=>wpAny K.M X.A (assign t X.env v) (fun _ s₂=>wpAny K.M X.A (execs zs X.env) (fun f s₃=>match f with
      |.next | .cont=>∃m,m<n∧FI Z xs body Q m s₃
      |.brk=>SP X Z.φ₀ Z.ι₀ Q .next s₃
      |.ret v=>SP X Z.φ₀ Z.ι₀ Q (.ret v) s₃) E s₂) E s₁') E s₁) E s:=by
 obtain ⟨i,φ,ι,H,ρ,o,hn,hi,le,hφ,O,hJ,hS,w⟩:=C
 rcases Nat.lt_or_eq_of_le hi with hlt | rfl
 ·rw [List.drop_eq_getElem_cons hlt] at w
  refine cX w fun hs w=>?_
  refine ao (bR w) fun ρ' hbt w=>?_
  refine Z.It.item X.room.h le O.O.I hJ hS hs (List.getElem?_eq_getElem hlt) fun v o' s1 hS' I1 rv=>?_
  refine aP (Z.It.kind hS') fun T' vs' k1 k2 k3=>?_
  have O1:=OkS.but O I1 (fun b hb=>ak hb) Z.hJL Z.hJc
  refine yt (I1.fr Z.J o' (af ..)) k1 k2 k3 (iO O1.O O1.Fr.at_ ht rv hbt fun φ2 s2 e2 O2 Fr2=>?_)
  refine ez (Fr2.loc) fun o2 m2 ho2 _=>?_
  refine wpAny_mono (hb X φ2 ρ' ι H s2 _ ⟨O2,(O1.Fr.set e2 ho2 Fr2 fun z _ hz=>absurd rfl (O1.Fr.at_.ap _ (bX hz)))⟩ w) (fun f s3 h=>?_) fun e s3 h=>by obtain ⟨_,_,_,_,_,_,_,_,_,_,q,_⟩:=h;exact q.elim
  obtain ⟨φ3,ι3,H3,ρ3,oo,l3,e3,O3,hf,q⟩:=h
  have hJ3:=(e3 Z.J Z.hJL fun q_=>ao q_ fun z _ hz=>Z.hJc (bX hz)).trans ((e2 Z.J Z.hJL).trans (af ..))
  have hφ3:=fun b h1 h2 h3=>(e3 b h2 h3).trans ((e2 b h2).trans ((ak h1).trans (hφ b h1 h2 h3)))
  cases hf with
  |next=>exact ⟨_,(by omega),.mk (i+1) φ3 ι3 H3 ρ3 o' rfl hlt (le.trans l3) hφ3 O3 hJ3 hS' q⟩
  |cont=>exact ⟨_,(by omega),.mk (i+1) φ3 ι3 H3 ρ3 o' rfl hlt (le.trans l3) hφ3 O3 hJ3 hS' q⟩
  |ret r=>exact let ⟨φ4,O4,e4⟩:=Z.off O3 hφ3 fun φ₁ l h=>O3.O.I.less l;.mk φ4 ι3 H3 ρ3 _ (le.trans l3) e4 O4 (.ret r) q
 ·replace w:=(List.drop_length)▸w
  exact Z.It.done X.room.h le O.O.I hJ hS w.1 fun s4 hs4=>wpAny_execs_nil (let ⟨φ4,O4,e4⟩:=Z.off O hφ hs4;.mk φ4 ι H ρ .next le e4 O4 .next w.2)
theorem DW{xs:List String}{iter:ME}{body:List MS}{t y:Expr}{zs:List Stmt}{pos:Pos}(hset:dH y=true)(ht:Tgt K.sc xs t)(hit:SE K iter y)(hb:SSs K body zs):SS K (.for_ xs iter body) (.For t y zs [] pos):=fun X φ ρ ι H s Q O w =>
 wpAny_For (hit.run O.O w fun v s1 ι0 H1 u l0 O1 r0 ⟨hable,w1⟩=>wpAny_mono (g8 O1.I r0 hable) (fun itv s2 g=>by
  cases g with | mk li hitems It hJ I2 hSt =>
  rename_i ι1 l J St o
  refine bG (O.Fr.apart hJ) fun hJl hJc hJm=>?_
  let Z:For X:=⟨J,St,l,fun H'=>Still u H1 H',ι1,φ,hJ,hJl,hJc,It⟩
  refine codeAny_mono (R:=fun r s=>∃f,r=.ok f∧SP X Z.φ₀ Z.ι₀ Q f s) (codeAny_forLoop_any (FI Z xs body Q) (fun n s3 C=>?_) _ (.mk 0 _ ι1 H1 ρ o rfl (Nat.zero_le _) (.refl _) (fun b hb _ _=>ak hb) (OkS.but (O.step ⟨I2.less (Le.add hJ),O1.Ev.mono li⟩) I2 (fun b hb=>ak hb) hJl hJc) (af ..) hSt (w1 l hitems))) fun r s' ⟨f,e,h⟩=>by
   subst e;exact h.up (l0.trans li) (.refl _)
  exact wpAny_mono (For.turn ht hb (E:=aA) C) (fun r s4 h=>by
   cases r with
   |none=>exact wpAny_mono h (fun f s5 h=>⟨f,rfl,h⟩) fun _ _ e=>e.elim
   |some v=>exact wpAny_mono h (fun _ s5 h=>wpAny_mono h (fun _ s6 h=>wpAny_mono h (fun f s7 h=>by
     cases f with
     |next=>exact h
     |cont=>exact h
     |brk=>exact ⟨_,rfl,h⟩
     |ret v=>exact ⟨_,rfl,h⟩) fun _ _ e=>e.elim) fun _ _ e=>e.elim) fun _ _ e=>e.elim) fun _ _ e=>e.elim) fun _ _ e=>e.elim)
  (vt hset _)
inductive WI(X:Cx K)(c:ME)(body:List MS)(φ₀ ι₀:Obs)(Q:PS)(n:Nat)(s:Shared):Prop
 |mk (φ ι:Obs) (H:Hp) (ρ:Env) (le:Le ι₀ ι) (hφ:X.Off φ₀ φ) (O:X.OkS φ ρ ι H s) (w:lA (fun ρ H R=>wpE K.F c ρ H fun v H'=>onS (truth H' v) fun b=>R b H') (fun ρ H Q=>aO K.F body ρ H Q) n ρ H Q)
theorem zD{c:ME}{body:List MS}{y:Expr}{zs:List Stmt}{pos:Pos}(hc:ST K c y)(hb:SSs K body zs):SS K (.while_ c body) (.While y zs [] pos):=fun X φ ρ ι H s Q O ⟨n,w⟩ =>
 wpAny_While (codeAny_whileLoop (WI X c body φ ι Q) (fun n s1 C=>by
  obtain ⟨φ1,ι1,H1,ρ1,l1,e1,O1,w⟩:=C
  cases n with
  |zero=>exact w.elim
  |succ n=>exact hc.run (Q:=fun b H1=>cond b (aO K.F body ρ1 H1 _) (Q .next ρ1 H1)) O1.O w (fun _ _ h=>h) fun b s2 ι2 H2 l2 O2 q=>match b,q with
   |false,q=>wpAny_execs_nil (.mk φ1 ι2 H2 ρ1 .next (l1.trans l2) e1 (O1.step O2) .next q)
   |true,q=>wpAny_mono (hb X φ1 ρ1 ι2 H2 s2 _ (O1.step O2) q) (fun f s3 h=>by
     obtain ⟨φ3,ι3,H3,ρ3,o3,l3,e3,O3,hf,q⟩:=h
     cases hf with
     |next=>exact ⟨n,Nat.lt_succ_self _,.mk φ3 ι3 H3 ρ3 (l1.trans (l2.trans l3)) (e1.trans e3) O3 q⟩
     |cont=>exact ⟨n,Nat.lt_succ_self _,.mk φ3 ι3 H3 ρ3 (l1.trans (l2.trans l3)) (e1.trans e3) O3 q⟩
     |ret r=>exact .mk φ3 ι3 H3 ρ3 _ (l1.trans (l2.trans l3)) (e1.trans e3) O3 (.ret r) q) fun e s3 h=>by obtain ⟨_,_,_,_,_,_,_,_,_,_,q,_⟩:=h;exact q.elim) n (.mk φ ι H ρ (.refl _) (.refl _) O w))
end
end Mine
end
section
namespace Mine
open PySem PyProof.Rows PySem.W
open scoped Classical
structure uN(φ φ':Obs):Prop where
 s:∀b o,φ b=some o→∃sl,φ' b=some { o with slots:=sl }
 n:∀b,φ b=none→φ' b=none
def vK(B:Base)(base h₀:Heap)(ι:Obs)(H:Hp):Prop:=∀b o,(ι b≠none∨H b≠none∨∃c P ps,(c,P,ps)∈B.tabs∧(b=c∨b=P))→h₀.get? b=some o→base.get? b=some o
theorem Inv.C2{B:Base}{γ:Array GenState}{φ ι:Obs}{H:Hp}{s:Shared}(I:Inv B γ φ ι H s){base h':Heap}(hb:vK B base s.heap ι H)(hs:base.StaysIn h')(hu:s.heap.UpToSlots h')(hφ:∀b o,φ b=some o→∀vs,o.data≠.fields vs) :
  ∃φ',uN φ φ'∧Inv B γ φ' ι H { s with heap:=h' } :=
 have nn:=fun b e=>if_pos e
 ⟨fun b=>if φ b=none then none else h'.get? b,⟨fun b o e=>let ⟨sl,h⟩:=hu b o (I.fr b o e) (hφ b o e);⟨sl,(if_neg ((e)▸Option.some_ne_none _)).trans h⟩,nn⟩,{
   data:=fun b o e=>hs b o (hb b o (.inl ((e)▸Option.some_ne_none _)) (I.data b o e))
   fr:=fun b o e=>by
    by_cases h:φ b=none
    ·replace e:=(if_pos h).symm.trans e;injection e
    ·replace e:=(if_neg h).symm.trans e;exact e
   objs:=fun b x e=>let ⟨o,h1,h2⟩:=I.objs b x e;⟨o,hs b o (hb b o (.inr (.inl ((e)▸Option.some_ne_none _))) h1),h2⟩
   dfr:=fun b e=>nn b (I.dfr b e)
   dob:=I.dob
   fob:=fun b e=>I.fob b fun e'=>e (nn b e')
   base:=I.base
   tab:=fun c P ps hm=>(I.tab c P ps hm).imp fun _ k=>k.mono (fun o e=>hs c o (hb c o (.inr (.inr ⟨c,P,ps,hm,.inl rfl⟩)) e)) fun o e=>hs P o (hb P o (.inr (.inr ⟨c,P,ps,hm,.inr rfl⟩)) e)
   tdis:=fun c P ps hm=>let ⟨h1,h2,h3⟩:=I.tdis c P ps hm;⟨h1,nn P h2,h3⟩
   gens:=I.gens
   os:=I.os }⟩
inductive tG(B:Base)(γ:Array GenState)(φ ι:Obs)(envL:PySem.Env)(Q:Hp→Prop)(s:Shared):Value→Prop
 |mk (ι':Obs) (H':Hp) (a t:Addr) (h₀ base:Heap) (l:Le ι ι') (I:Inv B γ φ ι' H' { s with heap:=h₀ }) (q:Q H') (b:vK B base h₀ ι' H') (f:Heap.FlyingW base [envL] a (.type "ValueError") (.ref t) s.heap) (u:h₀.UpToSlots s.heap):tG B γ φ ι envL Q s (.ref a)
noncomputable abbrev Bd:String:="CFG.chomsky_normal_form"
def nN(K:Kx):Prop :=
 ∀(A:Around) (γ:Array GenState) (φ ι:Obs) (H:Hp) (s:Shared) (envL:PySem.Env) (v:V) (kn:List String) (ks:List V) (val:Value) (kvals:List Value) (Q:Option V→Hp→Prop),
  bx A K.k→A.frames=some [envL]→envL.scope.kind≠.module→(∃L o,envL.frame=some L∧φ L=some o∧∀vs,o.data≠.fields vs)→Inv K.B γ φ ι H s→Rep ι val v→az ι kvals ks→kn.length=ks.length →
  aH K.F Bd [v] kn ks H Q →
  codeAny K.M A (.call (.ref 289) ⟨[val],(kn.map sx).zip kvals⟩) (fun r s'=>match r with
   |.ok (.ret v)=>PE K.B γ φ ι (fun x H'=>Q (some x) H') v s'
   |.ok _=>False
   |.error e=>tG K.B γ φ ι envL (Q none) s' e) s
section
variable{K:Kx}{X:Cx K}{φ φ' ι ι':Obs}{ρ ρ':Env}{H H':Hp}{s s':Shared}{Q Q':PS}
theorem zE{t:Str}{u:Nat}{np p cpos pos:Pos}(hg:aU K.sc "ValueError"=true):SS K .raiseVE (.Raise (some (.Call (.Name (sx "ValueError") np) [.Constant (.str t) u p] [] cpos)) none pos):=fun X φ ρ ι H s Q O w =>
 Raise_madeB F.excCall_ValueError F.excRaise_ValueError X.room.h (fz O.O hg rfl ⟨rfl,wpAny_items_cons (wpAny_Constant_str (wpAny_items_nil ⟨by show 1≤sizeLine;decide,fun h' e hm =>
  .mk φ ι H ρ e s.heap _ (.refl _) (.refl _) (O.step ⟨O.O.I.same rfl rfl rfl,O.O.Ev⟩) w ⟨hm.keeps,hm.new,hm.there⟩⟩)) rfl⟩)
theorem uN.okS(h:uN φ φ')(O:X.OkS φ ρ ι H s)(I:Inv K.B X.γ φ' ι' H' s')(l:Le ι ι'):X.OkS φ' ρ ι' H' s' :=
 have hn:∀{a m},(∃o,φ a=some o∧NsO o m)→∃o,φ' a=some o∧NsO o m:=fun ⟨o,g1,es,ep,g2⟩=>let ⟨sl,e⟩:=h.s _ _ g1;⟨_,e,es,ep,g2⟩
 ⟨⟨I,{ O.O.Ev.mono l with vars:=fun x y hy=>match (O.O.Ev.mono l).vars x y hy with
  |.loc v r hk o m g n e=>let ⟨o',g',n'⟩:=hn ⟨o,g,n⟩;.loc v r hk o' m g' n' e
  |.cel v r hk c o e g d=>let ⟨sl,g'⟩:=h.s _ _ g;.cel v r hk c _ e g' d }⟩,
  ⟨⟨let ⟨o,m,g⟩:=O.Fr.at_.loc;let ⟨o',g'⟩:=hn ⟨o,g⟩;⟨o',m,g'⟩,O.Fr.at_.ap,O.Fr.at_.nsp⟩,O.Fr.ap,
  fun x hx=>let ⟨c,o,v,g1,g2,g3⟩:=O.Fr.mine x hx;let ⟨sl,e⟩:=h.s _ _ g2;⟨c,_,v,g1,e,g3⟩,
  fun c hc=>let ⟨o,ho⟩:=Option.ne_none_iff_exists'.mp (O.Fr.stand c hc);let ⟨sl,e⟩:=h.s _ _ ho;(e)▸Option.some_ne_none _⟩⟩
structure o9(X:Cx K)(φ:Obs):Prop where
 fr:X.A.frames=some [X.env]
 loc:X.env.frame=some X.env.locals
 sole:∀b,φ b≠none→b=X.env.locals∨fE X.env b
def sO(K:Kx)(ms:List MS)(xs:List Stmt):Prop:=∀(X:Cx K) (φ:Obs) (ρ:Env) (ι:Obs) (H:Hp) (s:Shared) (Q:PS),o9 X φ→X.OkS φ ρ ι H s→aO K.F ms ρ H Q→wpAny K.M X.A (execs xs X.env) (SP X φ ι Q) (SXv X φ ι Q) s
theorem SSs.top{ms:List MS}{xs:List Stmt}(h:SSs K ms xs):sO K ms xs:=fun X φ ρ ι H s Q _=>h X φ ρ ι H s Q
theorem o9.but(L:o9 X φ)(h:X.Off φ φ'):o9 X φ':=⟨L.fr,L.loc,fun b hb=>by
 by_cases h1:b=X.env.locals
 ·exact .inl h1
 ·by_cases h2:fE X.env b
  ·exact .inr h2
  ·replace hb:=(h b h1 h2)▸hb;exact L.sole b hb⟩
theorem wo{m:MS}{ms:List MS}{x:Stmt}{xs:List Stmt}(h:SS K m x)(hs:sO K ms xs):sO K (m::ms) (x::xs):=fun X φ ρ ι H s Q L O w =>
 wpAny_execs_cons (wpAny_mono (h X φ ρ ι H s _ O w) (fun f s1 h1=>by
  obtain ⟨φ1,ι1,H1,ρ1,o,l1,e1,O1,hf,q⟩:=h1
  cases hf with
  |next=>exact qO l1 e1 (hs X φ1 ρ1 ι1 H1 s1 Q (L.but e1) O1 q)
  |cont=>exact .mk φ1 ι1 H1 ρ1 .cont l1 e1 O1 .cont q
  |ret r=>exact .mk φ1 ι1 H1 ρ1 _ l1 e1 O1 (.ret r) q) fun e s1 h1=>SX.up h1 (.refl _) (.refl _) fun _ _ q=>q)
theorem cns(A:Around)(h:Option Value):(A.mark h).units=A.units:=rfl
theorem xj{A:Around}{r st':String}{u:Nat}{tp p1 p2 p3 p4:Pos}{m:Nat}(hu:A.units+100<cLine)(O:X.Ok φ ρ ι H s)(hv:iA K.sc r=true){Q:PV}
  (w:wpE K.F (.cmp .in_ (.tup [.lit (.str st'),.lst false []]) (.var r)) ρ H Q) :
  wpAny K.M A (eval (.Compare (.Tuple [.Constant (.str (sx st')) u p1,.List [] p2] m p3) [.In] [.Name (sx r) tp] p4) X.env) (PE K.B X.γ φ ι Q) aA s:=by
 refine ao (bR w) fun y hy w=>?_
 have I0:Inv K.B X.γ φ ι H { s with toks:=s.toks+1 }:=O.I.same rfl rfl rfl
 refine wpAny_Compare1 (wpAny_Tuple (wpAny_items_cons (wpAny_Constant_str (wpAny_items_cons (wpAny_List (wpAny_items_nil ⟨(of_decide_eq_true rfl),wpAny_items_nil ⟨by show 2≤sizeLine;decide,?_⟩⟩)) rfl)) rfl)) rfl
 obtain ⟨ι1,H1,x1,l1,I1,r1,e1,e2⟩:=PE.push (Q:=fun x H'=>x=.lst []∧H'=H) I0 (k:=s.toks+1) (x:=.lst []) (o:={ cls:=.type "list",data:=.seq #[] }) rfl (fun ι' hle e=>⟨_,_,_,rfl,e,.nil⟩) ⟨rfl,rfl⟩
 subst e1;subst e2
 obtain ⟨ι2,H2,x2,l2,I2,r2,e1,e2⟩:=PE.push (Q:=fun x H'=>x=.tup [.str (cps st'),.lst []]∧H'=H1) I1 (k:=s.toks+1) (x:=.tup [.str (cps st'),.lst []]) (o:={ cls:=.type "tuple",data:=.seq #[.str (sx st') s.toks,.ref s.heap.objs.size] }) rfl
  (fun ι' hle e=>⟨_,_,_,rfl,e,.cons sW (.one (r1.mono hle))⟩) ⟨rfl,rfl⟩
 subst e1;subst e2
 refine kO (O.step (l1.trans l2) I2) hv hy fun v rv=>?_
 refine wpAny_mono (?_:wpAny _ _ _ (PE K.B X.γ φ ι2 fun v H'=>∃b,v=.bool (cond false (!b) b)∧Q (.bool b) H') _ _) (fun v s' h=>h.mono (l1.trans l2) fun x H' ⟨b,e,q⟩=>e▸q) fun _ _ e=>e
 cases w with
 |seq hl h1 h2 q=>exact let ⟨d,n,items,e,hd,hi⟩:=isList I2 rv hl;e▸yK false (Q:=fun b H'=>Q (.bool b) H') I2 hu r2 hd hi h1 h2 q
 |dict _ hk q=>exact hk.elim (fun h=>xf (h.1)) fun h=>xf (h.1)
 |set _ h _ _=>exact xf (h)
end
end Mine
end
section
namespace Mine
open PySem PyProof.Rows PySem.W
open scoped Classical
section
variable{K:Kx}{X:Cx K}{φ φ' ι ι':Obs}{ρ ρ':Env}{H H':Hp}{s s':Shared}{Q Q':PS}
theorem z7{y:V}(h:ni H y=some "CFG"):∃a,y=.ref a:=by
 cases y with
 |ref a=>exact ⟨a,rfl⟩
 |nt _=>exact absurd (Option.some.inj h) (by decide)
 |prod _ _=>exact absurd (Option.some.inj h) (by decide)
 |_=>injection h
theorem o9.plain(L:o9 X φ)(Fr:eg φ X.env):∀b o,φ b=some o→∀vs,o.data≠.fields vs:=fun b o e vs hd=>by
 rcases L.sole b ((e)▸Option.some_ne_none _) with rfl | ⟨z,hz1,hz2⟩
 ·obtain ⟨o',m,ho,es,ep,hd',_⟩:=Fr.at_.loc
  replace ho:=(e).symm.trans ho;cases ho;cases hd.symm.trans hd'
 ·refine bP (Fr.mine z hz1) fun c o' v' g1 g2 g3=>?_
  replace g1:=(hz2).symm.trans g1;cases g1
  replace g2:=(e).symm.trans g2;cases g2;replace g3:=(hd).symm.trans g3;injection g3
theorem o9.same(L:o9 X φ)(d:uN φ φ'):X.Off φ φ':=fun b h1 h2=>by
 cases e:φ b with
 |none=>exact d.n b e
 |some o=>exact (L.sole b ((e)▸Option.some_ne_none _)).elim (fun h=>absurd h h1) fun h=>absurd h h2
theorem AD{E:Value→Shared→Prop}{e:Value}{b:Stmt}{bs:List Stmt}{np p7:Pos}{Qh:Hp→Prop}{P:Flow→Shared→Prop}(L:o9 X φ)(O:X.OkS φ ρ ι H s)(hg:aU K.sc "ValueError"=true)(t:tG K.B X.γ φ ι X.env Qh s' e)
  (k:∀a φ6 ι3 H3 s6,Le ι ι3→X.Off φ φ6→X.OkS φ6 ρ ι3 H3 s6→Qh H3→wpAny K.M (X.A.mark (some (.ref a))) (execs (b::bs) X.env) P aA s6) :
  wpAny K.M X.A (noteFrame e X.env) (fun _ s₂=>wpAny K.M X.A (setFlight e none) (fun _ s₃=>wpAny K.M X.A (handleBy e X.env [.ExceptHandler (some (.Name (sx "ValueError") np)) none (b::bs) p7]) P E s₃) E s₂) E s':=by
 obtain ⟨ι3,H3,a,tt,h₀,base,l3,I3,w3,hbr,hfl,hup⟩:=t
 refine wpAny_looks_onW L.fr L.loc hfl fun h4 hheld4 hsm4=>wpAny_landsW hheld4 fun h5 hfl5 hsm5=>?_
 refine ao (I3.C2 (h':=h5) hbr hfl5.1 (hup.trans (hsm4.trans hsm5)) (L.plain O.Fr)) fun φ5 d5 I5=>?_
 refine wpAny_handleBy_builtin (X:="ValueError") (T:="ValueError") (b:=true) F.excRaise_ValueError.isExc (by rfl) (by rfl) ?_
 refine fz (s:={ s' with heap:=h5 }) (d5.okS O (I5.same (s':={ s' with heap:=h5 }) rfl rfl rfl) l3).O hg rfl ⟨rfl,hfl5.there,?_⟩
 refine lands_againW hfl5 fun h6 hfl6 hsm6=>?_
 refine ao (I3.C2 (h':=h6) hbr hfl6.1 (hup.trans (hsm4.trans (hsm5.trans hsm6))) (L.plain O.Fr)) fun φ6 d6 I6=>?_
 exact wpAny_mono (k a φ6 ι3 H3 _ l3 (L.same d6) (d6.okS O I6 l3) w3) (fun _ _ h=>h) fun _ _ e=>e.elim
theorem zC(C:nN K){v:String}{e:ME}{ks:List ME}{kn:List String}{st' r:String}{ms:List MS}{x:Expr}{kws:List Keyword}{zs:List Stmt}{np nq apos pos pos1 p1 p2 p3 p4 p5 p6 p7 p8:Pos}{n1 n2:Nat}
  (hv:bK K.sc v=true) (hb:cZ x=true) (hf:bM kws.length apos pos=true) (he:SE K e x) (hks:Kws K kn ks kws) (hg:aU K.sc "ValueError"=true) (hr:iA K.sc r=true) (hs:sO K ms zs) :
  sO K (.tryVE v e kn ks st' r::ms)
   (.Try [.Assign [.Name (sx v) np] (.Call (.Attribute x (sx "chomsky_normal_form") apos) [] kws pos) pos1]
    [.ExceptHandler (some (.Name (sx "ValueError") nq)) none [.Return (some (.Compare (.Tuple [.Constant (.str (sx st')) n1 p1,.List [] p2] n2 p3) [.In] [.Name (sx r) p4] p5)) p6] p7] [] [] p8::zs):=fun X φ ρ ι H s Q L O w =>
 wpAny_execs_cons (wpAny_Try_except (wpAny_execs_cons (wpAny_Assign_Name (eZ (xs:=[]) (kn:=kn) (ks:=ks) (K:=K) hb rfl hks ((congrArg (bM · apos pos) (Nat.zero_add _)).trans hf) (he.run O.O w fun ov s1 ι1 H1 y l1 O1 r1 ⟨hc,w1⟩ pl=>by
  obtain ⟨ya,rfl⟩:=z7 hc
  refine wpAny_mono (getM (m:="chomsky_normal_form") (fa:=289) O1.I (of_decide_eq_true rfl) r1 hc rfl ?_) (fun _ _ h=>h) fun _ _ e=>e.elim
  refine mE (first:=[ov]) (es:=[]) (W:=fun vs ws H2=>match vs with | []=>aH K.F Bd [.ref ya] kn ws H2 _ | _=>False) .nil rfl hks O1 w1 fun vals kvals s2 ι2 H2 vs ws l2 O2 rv rk hlen w2=>?_
  match vs,rv,w2 with
  |_::_,_,w2=>exact w2.elim
  |[],rv,w2 =>
  obtain rfl:=rv
  refine ⟨pW (f:=Bd) rfl O2,wpAny_call (codeAny_mono (C X.A X.γ φ ι2 H2 s2 X.env (.ref ya) kn ws ov kvals _ X.rk L.fr (by refine (O2.Ev.kind)▸?_;decide) (let ⟨o,m,ho,es,ep,hd,_⟩:=O.Fr.at_.loc;⟨_,o,L.loc,ho,fun vs e=>by replace e:=(hd).symm.trans e;injection e⟩) O2.I (r1.mono l2) rk hlen w2) fun res s3 h=>?_)⟩
  match res,h with
  |.error e,h=>exact AD L (O.step O2) hg h fun a φ6 ι3 H3 s6 l3 o6 O6 w3=>wpAny_execs_cons (wpAny_Return_some (wpAny_mono (xj (A:=X.A.mark (some (.ref a))) X.r0.u0 O6.O hr w3) (fun v s7 ⟨ι7,H7,u,l7,I7,r7,q⟩=>SP.mk φ6 ι7 H7 ρ _ ((l1.trans l2).trans (l3.trans l7)) o6 (O6.step ⟨I7,O6.O.Ev.mono l7⟩) (.ret r7) q) fun _ _ e=>e.elim))
  |.ok (.ret v),⟨ι3,H3,u,l3,I3,r3,q⟩=>exact eT (O.step (O2.step l3 I3)) r3 (.inl (bz O.O hv)) fun φ4 s4 e4 O4=>wpAny_execs_nil (wpAny_execs_nil (qO ((l1.trans l2).trans l3) e4 (hs X φ4 _ ι3 H3 s4 Q (L.but e4) O4 q))))) rfl)))
end
end Mine
end
section
namespace Mine
open PySem PyProof.Rows PySem.W
open scoped Classical
noncomputable def kC(K:Frag)(f:String):Option (Addr×FuncData):=(bE f).bind fun fa=>(K.lookup fa).bind fun o=>match o.data with
 |.func fd=>some (fa,fd)
 |_=>none
noncomputable def codeAt(K:Frag)(cd:Value):Option (Addr×Value×Option Str):=match cd with
 |.ref c=>(K.lookup c).bind fun o=>match o.data with
  |.fields vs=>some (c,o.cls,match (vs[1]?:Option Value) with
   |some (.str q _)=>some q
   |_=>none)
  |_=>none
 |_=>none
noncomputable def gV:List Str→Bool
 |[]=>true
 |x::xs=>!xs.contains x&&gV xs
noncomputable def Ar.val(v w:Nat→Value):Ar→Value
 |p i=>v i
 |k i=>w i
 |d .none _=>.none
 |d (.bool b) _=>.bool b
 |d (.int i) t=>.int i t
 |d (.str s) t=>.str (sx s) t
noncomputable abbrev upto(n:Nat)(v:Nat→Value):List Value:=(List.range n).map v
structure fF(K:Frag):Prop where
 pl:(vR.map fun r=>(kC K r.1).map fun p=>(p.2.closure,p.2.globals,p.2.builtins,p.2.scope.kind,p.2.scope.isCoroutine,p.2.scope.isGenerator,(codeAt K p.2.code).map fun q=>(q.2.1,q.2.2==some p.2.qualname),r.2.1.all (storeOk p.2.scope),gV (p.2.scope.names.map (·.1)),gV (r.2.1.map sx))) =
  vR.map fun _=>some ([],mainGlobals,builtinsNs,.function,false,false,some (.type "code",true),true,true,true)
 bn:∀S,(vR.map fun r=>fun v=>(kC K r.1).bind fun p=>peek K S (bindArgs p.2 ⟨upto r.2.1.length v,[]⟩))=vR.map fun r=>fun v=>some ((r.2.1.map sx).zip (upto r.2.1.length v))
 fl:∀S,(fills.map fun r=>fun v w=>(kC K r.1.1).bind fun p=>peek K S (bindArgs p.2 ⟨upto r.1.2.1 v,(r.1.2.2.map sx).zip (upto r.1.2.2.length w)⟩))=fills.map fun r=>fun v w=>(bodies r.1.1).map fun b=>(b.1.map sx).zip (r.2.map (Ar.val v w))
theorem eu:∀{l:List Str},gV l=true→l.Nodup
 |[],_=>List.nodup_nil
 |x::xs,h=>have h:=Bool.and_eq_true_iff.mp h;List.nodup_cons.mpr ⟨fun hm=>(by have h:=h.1;replace h:=(List.contains_iff_mem.mpr hm)▸h;injection h),eu h.2⟩
structure Dk(K:Frag)(f:String)(ps:List String)(fa:Addr)(fd:FuncData):Prop where
 at_:kC K f=some (fa,fd)
 clo:fd.closure=[]
 gl:fd.globals=mainGlobals
 bl:fd.builtins=builtinsNs
 kind:fd.scope.kind=.function
 co:fd.scope.isCoroutine=false
 gen:fd.scope.isGenerator=false
 code:(codeAt K fd.code).map (fun q=>(q.2.1,q.2.2==some fd.qualname))=some (.type "code",true)
 st:ps.all (storeOk fd.scope)=true
 nn:gV (fd.scope.names.map (·.1))=true
 nd:gV (ps.map sx)=true
theorem defAt{K:Frag}(D:fF K){f:String}{ps:List String}{b:List MS}(h:bodies f=some (ps,b)):∃fa fd,Dk K f ps fa fd :=
 let ⟨⟨fa,fd⟩,h1,h2⟩:=Option.map_eq_some_iff.mp (aQ D.pl (lookup_mem h))
 ⟨fa,fd,h1,congrArg (·.1) h2,congrArg (·.2.1) h2,congrArg (·.2.2.1) h2,congrArg (·.2.2.2.1) h2,congrArg (·.2.2.2.2.1) h2,congrArg (·.2.2.2.2.2.1) h2,congrArg (·.2.2.2.2.2.2.1) h2,congrArg (·.2.2.2.2.2.2.2.1) h2,congrArg (·.2.2.2.2.2.2.2.2.1) h2,congrArg (·.2.2.2.2.2.2.2.2.2) h2⟩
theorem qd{K:Frag}{f:String}{fa:Addr}{fd:FuncData}(h:kC K f=some (fa,fd)):bE f=some fa∧∃o,K.lookup fa=some o∧o.data=.func fd:=by
 refine ao (Option.bind_eq_some_iff.mp h) fun fa' h1 h=>?_
 refine ao (Option.bind_eq_some_iff.mp h) fun o h2 h=>?_
 obtain ⟨c,d,dt,sl⟩:=o
 cases dt with
 |func fd'=>cases h;exact ⟨h1,_,h2,rfl⟩
 |_=>injection h
theorem xG{K:Frag}{cd:Value}{q:Str}(h:(codeAt K cd).map (fun p=>(p.2.1,p.2.2==some q))=some (.type "code",true)):∃c o vs t,cd=.ref c∧K.lookup c=some o∧o.cls=.type "code"∧o.data=.fields vs∧vs[1]?=some (.str q t):=by
 refine ao (Option.map_eq_some_iff.mp h) ?_;rintro ⟨c,cl,q'⟩ h1 h
 have e1:=congrArg (·.1) h
 have e2:=eq_of_beq (congrArg (·.2) h)
 simp only at e1 e2
 subst e1;subst e2
 cases cd with
 |ref a =>
  refine ao (Option.bind_eq_some_iff.mp h1) fun o h2 h=>?_
  obtain ⟨cl,d,dt,sl⟩:=o
  cases dt with
  |fields vs =>
   have h:=Prod.mk.inj (Option.some.inj h)
   have e:∀x:Option Value,(match x with | some (.str q _)=>some q | _=>none)=some q→∃t,x=some (.str q t):=fun x h=>match x,h with | some (.str q' t),h=>⟨t,by cases h;rfl⟩
   exact let ⟨t,e⟩:=e _ (Prod.mk.inj h.2).2;⟨a,_,vs,t,rfl,h2,(Prod.mk.inj h.2).1,rfl,e⟩
  |_=>injection h
 |_=>injection h1
section
variable{K:Kx}{ι:Obs}{s:Shared}
theorem nU{l:List Value}:upto l.length (fun i=>l.getD i .none)=l:=by
 apply List.ext_getElem
 ·rw [List.length_map,List.length_range]
 ·intro i h1 h2
  rw [List.getElem_map,List.getElem_range]
  exact (List.getD_eq_getElem?_getD ..).trans (by rw [List.getElem?_eq_getElem h2];rfl)
theorem az.getD{l:List Value}{vs:List V}(r:az ι l vs)(i:Nat):Rep ι (l.getD i .none) (vs.getD i .none):=by
 induction vs generalizing l i with
 |nil=>obtain rfl:=r;exact fG
 |cons v vs ih =>
  refine aP r ?_;clear r;rintro a as rfl h1 h2
  cases i with
  |zero=>exact h1
  |succ i=>exact ih h2 i
theorem Ar.rep{vals kvals:List Value}{vs ks:List V}(rv:az ι vals vs)(rk:az ι kvals ks):∀as:List Ar,az ι (as.map (Ar.val (fun i=>vals.getD i .none) fun i=>kvals.getD i .none)) (as.map (Ar.v vs ks))
 |[]=>.nil
 |a::as=>.cons (match a with
  |.p i=>rv.getD i
  |.k i=>rk.getD i
  |.d .none _=>fG
  |.d (.bool b) _=>bq
  |.d (.int i) _=>bV
  |.d (.str t) _=>sW) (Ar.rep rv rk as)
theorem gF{α β:Type}:∀{l:List α} {m:List β},l.length=m.length→(l.zip m).map (·.1)=l
 |[],_,_=>rfl
 |a::l,b::m,h=>congrArg (a::·) (gF (Nat.succ.inj h))
theorem gE{α β:Type}:∀{l:List α} {m:List β},l.length=m.length→(l.zip m).map (·.2)=m
 |[],[],_=>rfl
 |a::l,b::m,h=>congrArg (b::·) (gE (Nat.succ.inj h))
theorem jo{kn:List String}{f:String}{P:Prop}(w:cond (kn.isEmpty&&f !="law") P False):kn=[]∧(f !="law")=true∧P:=by
 cases e:kn.isEmpty&&f !="law" with
 |true=>rw [e] at w;exact ⟨List.isEmpty_iff.mp (Bool.and_eq_true_iff.mp e).1,(Bool.and_eq_true_iff.mp e).2,w⟩
 |false=>rw [e] at w;exact w.elim
theorem iN{K:Frag}{fd:FuncData}{args:Args}{binds:List (Str×Value)}(X:K.In s.heap)(h:∀S,peek K S (bindArgs fd args)=some binds):BindsTo s fd args binds:=fun M _ _ _ hq=>(Looks.of_peek (M:=M) X (h _)).here hq
theorem Cw(D:fF K.B.aZ)(X:K.B.aZ.In s.heap){F:Fn}{f:String}{fa:Addr}{fd:FuncData}{vs ks:List V}{kn:List String}{vals kvals:List Value}{H:Hp}{Q:Option V→Hp→Prop}{P:Prop}
  (hfd:kC K.B.aZ f=some (fa,fd)) {ps:List String} {b:List MS} (hb:bodies f=some (ps,b)) (w:aH F f vs kn ks H Q) (hl:∀{bs},F f bs H Q→ps.length=bs.length) (rv:az ι vals vs) (rk:az ι kvals ks) (hn:kn.length=ks.length)
  (k:∀binds bs,BindsTo s fd ⟨vals,(kn.map sx).zip kvals⟩ binds→binds.map (·.1)=ps.map sx→az ι (binds.map (·.2)) bs→F f bs H Q→P):P:=by
 delta aH at w
 cases e:fills.lookup (f,vs.length,kn) with
 |none =>
  rw [e] at w
  refine bG (jo w) ?_;rintro rfl _ w
  have e1:=(hl w).trans rv.length.symm
  refine k _ vs (iN (binds:=(ps.map sx).zip vals) X fun S=>?_) (gF ((List.length_map ..).trans e1)) ((gE ((List.length_map ..).trans e1)).symm▸rv) w
  have h:=congrFun (aQ (D.bn S) (lookup_mem hb)) fun i=>vals.getD i .none
  simp only [e1,nU,hfd] at h
  exact h
 |some as =>
  replace w:=(e)▸w
  refine k _ _ (iN (binds:=(ps.map sx).zip (as.map (Ar.val (fun i=>vals.getD i .none) fun i=>kvals.getD i .none))) X fun S=>?_) (gF (show (ps.map sx).length=(as.map (Ar.val (fun i=>vals.getD i .none) fun i=>kvals.getD i .none)).length from by simp only [List.length_map,hl w,List.length_map])) ((gE (show (ps.map sx).length=(as.map (Ar.val (fun i=>vals.getD i .none) fun i=>kvals.getD i .none)).length from by simp only [List.length_map,hl w,List.length_map])).symm▸Ar.rep rv rk as) w
  have h:=congrFun (congrFun (aQ (D.fl S) (lookup_mem e)) fun i=>vals.getD i .none) fun i=>kvals.getD i .none
  simp only [←rv.length,hn.trans rk.length.symm,nU,hfd,hb] at h
  exact h
end
end Mine
end
section
namespace Mine
open PySem PyProof.Rows PySem.W
open scoped Classical
theorem rQ{kd:Str→Option NameKind}{n:Str}:∀{binds:List (Str×Value)} {m:Str→Option Value},n∉binds.map (·.1)→bindL kd binds m n=m n
 |[],m,_=>rfl
 |(k,u)::r,m,h=>by
  refine (rQ fun hm=>h (.tail _ hm))▸?_
  split
  ·exact if_neg fun (e:n=k)=>h (e▸.head _)
  ·rfl
theorem rR{kd:Str→Option NameKind}{n:Str}{v:Value}(hk:kd n=some .local):∀{binds:List (Str×Value)} {m:Str→Option Value},(binds.map (·.1)).Nodup→(n,v)∈binds→bindL kd binds m n=some v
 |(k,u)::r,m,hn,h=>by
  cases h with
  |head=>show bindL kd r _ n=_;rw [rQ (List.nodup_cons.mp hn).1,if_pos hk];exact if_pos rfl
  |tail _ h=>show bindL kd r _ n=_;exact rR hk (List.nodup_cons.mp hn).2 h
theorem rS{kd:Str→Option NameKind}{n:Str}:∀{binds:List (Str×Value)} {m:Str→Option Value},n∉binds.map (·.1)→bindC kd binds m n=m n
 |[],m,_=>rfl
 |(k,u)::r,m,h=>by
  refine (rS fun hm=>h (.tail _ hm))▸?_
  split
  ·rfl
  ·exact if_neg fun (e:n=k)=>h (e▸.head _)
theorem rT{kd:Str→Option NameKind}{n:Str}{v:Value}(hk:kd n≠some .local):∀{binds:List (Str×Value)} {m:Str→Option Value},(binds.map (·.1)).Nodup→(n,v)∈binds→bindC kd binds m n=some v
 |(k,u)::r,m,hn,h=>by
  cases h with
  |head=>show bindC kd r _ n=_;rw [rS (List.nodup_cons.mp hn).1,if_neg hk];exact if_pos rfl
  |tail _ h=>show bindC kd r _ n=_;exact rT hk (List.nodup_cons.mp hn).2 h
theorem ie{x:Str×Addr}:∀(l:List (Str×NameKind)) (n:Nat) (acc:List (Str×Addr)),(x∈cellsFrom n l acc→(x.1,NameKind.cell)∈l∨x∈acc)∧(x∈acc→x∈cellsFrom n l acc)
 |[],n,acc=>⟨.inr,id⟩
 |(k,kd)::r,n,acc=>by
  dsimp only [cellsFrom]
  split
  ·rename_i hk
   have ih:=ie (x:=x) r (n+1) ((k,n)::acc)
   refine ⟨fun h=>(ih.1 h).elim (fun h=>.inl (.tail _ h)) fun h=>?_,fun h=>ih.2 (.tail _ h)⟩
   cases h with
   |head=>exact .inl ((eq_of_beq hk)▸.head _)
   |tail _ h=>exact .inr h
  ·have ih:=ie (x:=x) r n acc
   exact ⟨fun h=>(ih.1 h).imp (.tail _) id,ih.2⟩
theorem oR{x:Str}:∀{l:List (Str×NameKind)} {n:Nat} {acc:List (Str×Addr)},(x,NameKind.cell)∈l→∃a,(x,a)∈cellsFrom n l acc
 |(k,kd)::r,n,acc,h=>by
  dsimp only [cellsFrom]
  cases h with
  |head=>exact ⟨n,(ie r (n+1) _).2 (.head _)⟩
  |tail _ h=>split<;>exact oR h
theorem d9:∀{l:List (Str×NameKind)} {n:Nat} {acc:List (Str×Addr)},(l.map (·.1)).Nodup→(acc.map (·.1)).Nodup→(∀x∈acc.map (·.1),x∉l.map (·.1))→((cellsFrom n l acc).map (·.1)).Nodup
 |[],n,acc,_,h,_=>h
 |(k,kd)::r,n,acc,hl,ha,hd=>by
  dsimp only [cellsFrom]
  split
  ·exact d9 (List.nodup_cons.mp hl).2 (List.nodup_cons.mpr ⟨fun hm=>hd k hm (.head _),ha⟩) fun x hx hm=>by
    cases hx with
    |head=>exact (List.nodup_cons.mp hl).1 hm
    |tail _ hx=>exact hd x hx (.tail _ hm)
  ·exact d9 (List.nodup_cons.mp hl).2 ha fun x hx hm=>hd x hx (.tail _ hm)
theorem dY{α β:Type}[BEq α][LawfulBEq α]{a:α}{b:β}:∀{l:List (α×β)},(l.map (·.1)).Nodup→(a,b)∈l→l.lookup a=some b
 |(x,y)::l,hn,h=>by
  cases h with
  |head=>simp only [List.lookup_cons,beq_self_eq_true]
  |tail _ h=>rw [List.lookup_cons,beq_eq_false_iff_ne.mpr fun e=>(List.nodup_cons.mp hn).1 (by subst e;exact List.mem_map.mpr ⟨_,h,rfl⟩)];exact dY (List.nodup_cons.mp hn).2 h
theorem kq{ι:Obs}{x:String}{y:V}:∀{ps:List String} {bs:List V} {binds:List (Str×Value)},binds.map (·.1)=ps.map sx→az ι (binds.map (·.2)) bs→(ps.zip bs).lookup x=some y→∃p∈ps,x=p∧∃v,(sx x,v)∈binds∧Rep ι v y
 |p::ps,b::bs,(n,v)::binds,h1,⟨v',vs',e,r1,r2⟩,h=>by
  refine cX (List.cons.inj h1) ?_;rintro rfl h1'
  obtain ⟨e1,rfl⟩:=List.cons.inj e
  simp only [List.zip_cons_cons,List.lookup_cons] at h
  split at h
  ·rename_i e;cases h;obtain rfl:=eq_of_beq e;exact ⟨x,.head _,rfl,v,.head _,(show v=v' from e1)▸r1⟩
  ·exact let ⟨q,hq,e,w,hw,rw'⟩:=kq (ps:=ps) (binds:=binds) h1' r2 h;⟨q,.tail _ hq,e,w,.tail _ hw,rw'⟩
section
variable{B:Base}{γ:Array GenState}{φ ι:Obs}{H:Hp}{s:Shared}{A:Around}
open Classical in
noncomputable def noted(φ:Obs)(h:Heap)(l:List Addr):Obs:=fun b=>if b∈l then h.get? b else φ b
theorem jh{h:Heap}{l:List Addr}{b:Addr}(hb:b∈l):noted φ h l b=h.get? b:=if_pos hb
theorem dz{h:Heap}{l:List Addr}{b:Addr}(hb:b∉l):noted φ h l b=φ b:=if_neg hb
theorem Inv.z8(I:Inv B γ φ ι H s)(l:List Addr)(hn:∀a∈l,New B φ ι H a):Inv B γ (noted φ s.heap l) ι H s:={ I with
 fr:=fun b x e=>by
  by_cases hb:b∈l
  ·exact (jh hb).symm.trans e
  ·exact I.fr b x ((dz hb).symm.trans e)
 dfr:=fun b hb=>(dz fun h=>hb (hn b h).i).trans (I.dfr b hb)
 fob:=fun b hb=>by
  by_cases e:b∈l
  ·exact (hn b e).h
  ·exact I.fob b fun h=>hb ((dz e).trans h)
 tdis:=fun c P ps hm=>let ⟨h1,h2,h3⟩:=I.tdis c P ps hm;⟨h1,(dz fun h=>(hn P h).t c P ps hm rfl).trans h2,h3⟩ }
structure gY{K:Kx}(X:Cx K)(φ ι:Obs)(H:Hp)(ρ:Env)(φ':Obs)(s:Shared):Prop where
 O:X.OkS φ' ρ ι H s
 loc:X.env.frame=some X.env.locals
 le:Le φ φ'
 apart:∀b,φ b≠none→b≠X.env.locals∧¬fE X.env b
 sole:∀b,φ' b≠none→φ b≠none∨b=X.env.locals∨fE X.env b
theorem bx.deeper{A:Around}{env:PySem.Env}{k j:Nat}(r:bx A k)(h:j+2≤k):bx (A.deeper env) j:=⟨r.h,by have:=r.d;show A.depth+1+3*j+3<700;lia,by have:=r.u;show A.units+3+100*j+100<cLine;lia⟩
theorem enter{K:Kx}{R:Result→Shared→Prop}{f:String}{ps:List String}{fa:Addr}{fd:FuncData}{xs:List Stmt}{args:Args}{binds:List (Str×Value)}{bs:List V}(Rm:bx A (K.d+4+K.k+2))(I:Inv K.B γ φ ι H s)(D:Dk K.B.aZ f ps fa fd)(hsc:K.sc=fd.scope)(hb:fd.body=.stmts xs)
  (h1:BindsTo s fd args binds) (h2:binds.map (·.1)=ps.map sx) (h3:az ι (binds.map (·.2)) bs)
  (h:∀(X:Cx K) φ' s',X.A=A.deeper X.env→X.γ=γ→gY X φ ι H (fun x=>(ps.zip bs).lookup x) φ' s' →
   wpAny K.M X.A (execs xs X.env) (fun f s'=>R (.ok (.ret (match f with | .ret v=>v | _=>.none))) s')
    (fun e s'=>wpAny K.M X.A (leaving X.env e) (fun _ s''=>R (.error e) s'') (fun e' s''=>R (.error e') s'') s') s') :
  codeAny K.M A (.call (.ref fa) args) R s:=by
 obtain ⟨_,o,ho,hd⟩:=qd D.at_
 refine Bc (xG D.code) fun c oc vs t hc1 hc2 hc3 hc4 hc5=>?_
 refine f5 (K.B.codes c oc hc2 hc3) fun P tps htab=>?_
 have kinds:∀p∈ps,fd.scope.names.lookup (sx p)=some .local∨fd.scope.names.lookup (sx p)=some .cell:=fun p hp=>by
  have:=jN D.st hp
  unfold storeOk at this
  split at this
  ·rename_i g;exact .inl g
  ·rename_i g;exact .inr g
  ·contradiction
 have nn:=eu D.nn
 have chas:∀{x},fd.scope.names.lookup x=some .cell→∃a,(cellsFrom (s.heap.objs.size+1) fd.scope.names []).lookup x=some a:=fun e=>let ⟨a,h⟩:=oR (lookup_mem e);⟨a,dY (d9 (n:=s.heap.objs.size+1) (acc:=[]) nn .nil fun x hx=>nomatch hx) h⟩
 refine codeAny_call_function (Nat.lt_of_le_of_lt (Nat.le_trans (Nat.le_add_right ..) (Nat.le_add_right ..)) (Nat.lt_trans Rm.d (of_decide_eq_true rfl))) (I.inK _ _ ho) hd D.co D.gen hb ⟨c,oc,vs,t,hc1,I.inK _ _ hc2,hc4,hc5⟩ (h1 _ _ _ _ ?_)
 refine (D.clo)▸?_
 refine wpAny_newFunctionEnv_cells D.kind (fun x hx=>?_) fun env he s' x=>?_
 ·refine ao (List.mem_map.mp (h2▸List.mem_map_of_mem (f:=Prod.fst) hx)) fun p hp e=>?_
  exact (e)▸(kinds p hp).imp id fun g=>⟨g,let ⟨a,h⟩:=chas g;by refine (h)▸?_;rfl⟩
 ·have keep:=x.toInCall.keep
  refine ⟨I.noLimit.keeps keep,codeAny_func ?_⟩
  have hkd:∀n,env.kindOf n=fd.scope.names.lookup n:=fun n=>by rw [he];rfl
  have hcells:env.cells=cellsFrom (s.heap.objs.size+1) fd.scope.names []:=by rw [he];rfl
  have hloc:env.locals=s.heap.objs.size:=by refine (he)▸?_;rfl
  refine f5 (x.toInCall.same) ?_;rintro h' tk rfl
  refine kW (x.toInCall.ns) fun lo es ep hlo hld hl1 hl2=>?_
  have hcell:∀c,c∈env.cells.map (·.2)→∃n,fE env c∧env.locals<c∧env.cells.lookup n=some c:=fun c hc=>by
   refine ao (List.mem_map.mp hc) ?_;rintro ⟨n,c'⟩ hp rfl
   have hl:=dY (hcells▸(d9 (n:=s.heap.objs.size+1) (acc:=[]) nn .nil fun x hx=>xm (hx))) hp
   exact ⟨n,⟨n,(hkd n).trans (dY nn (((ie _ _ _).1 (hcells▸hp)).resolve_right List.not_mem_nil)),hl⟩,x.above n _ hp,hl⟩
  have hfresh:∀a,a∈env.locals::env.cells.map (·.2)→New K.B φ ι H a:=fun a ha=>I.new (by
   refine (hloc)▸?_
   cases ha with
   |head=>exact Nat.le_refl _
   |tail _ ha=>exact let ⟨_,_,h,_⟩:=hcell a ha;Nat.le_of_lt h)
  have hcellAt:∀n c,env.cells.lookup n=some c→∃o,noted φ h' (env.locals::env.cells.map (·.2)) c=some o∧o.data=.cell (bindC env.kindOf binds (fun _=>none) n):=fun n c hc=>let ⟨o,ho,hd⟩:=x.cell n c hc;⟨o,(jh (.tail _ (bX hc))).trans ho,hd⟩
  have hns:NsO lo (bindL env.kindOf binds fun _=>none):=⟨es,ep,hld,hl1,hl2⟩
  have hnd:=h2▸eu D.nd
  refine h { A:=A.deeper env,γ:=γ,env:=env,room:=Rm.deeper (Nat.le_refl _) } _ _ rfl rfl {
   O:=⟨⟨((I.keep (s':={ s with heap:=h',toks:=tk }) keep rfl rfl).z8 _ hfresh),{
     names:=fun z _=>.inl (by rw [hkd,hsc])
     dS:=fun z hz=>by rw [hkd,←hsc];exact hz
     kind:=(show env.scope.kind=.function from by rw [he];exact D.kind)
     g:=by rw [he];exact D.gl
     b:=by rw [he];exact D.bl
     code:=fun _=>⟨c,P,tps,by simp only [he];exact hc1,htab⟩
     vars:=fun z y hy=>?_ }⟩,⟨⟨⟨lo,_,((jh (φ:=φ) (h:=h') (.head (env.cells.map (·.2)))).trans hlo),hns⟩,fun c hc=>let ⟨_,_,h,_⟩:=hcell c hc;Nat.ne_of_gt h,by refine ((show env.scope.kind=.function from by rw [he];exact D.kind))▸?_;rfl⟩,fun z y c h1 h2=>name_of_addr x.apart (lookup_mem h1) (lookup_mem h2),fun z hz=>?_,fun c hc=>?_⟩⟩
   loc:=by rw [he];rfl
   le:=fun b o e=>(dz fun hm=>by replace e:=((hfresh b hm).f).symm.trans e;injection e).trans e
   apart:=fun b hb=>⟨fun e=>hb (e▸(hfresh _ (.head _)).f),fun q_=>ao q_ fun z _ hz=>hb (hfresh b (.tail _ (bX hz))).f⟩
   sole:=fun b hb=>by
    by_cases hm:b∈env.locals::env.cells.map (·.2)
    ·cases hm with
     |head=>exact .inr (.inl rfl)
     |tail _ hm=>exact let ⟨_,h,_⟩:=hcell b hm;.inr (.inr h)
    ·rw [dz hm] at hb;exact .inl hb }
  ·obtain ⟨p,hp,rfl,v,hv,rv⟩:=kq h2 h3 hy
   rcases kinds z hp with hk | hk
   ·exact .loc v rv ((hkd _).trans hk) lo _ ((jh (φ:=φ) (h:=h') (.head (env.cells.map (·.2)))).trans hlo) hns (rR ((hkd _).trans hk) hnd hv)
   ·refine aL (chas hk) fun c hc=>?_
    refine ao (hcellAt _ _ (hcells▸hc)) fun o ho hd=>?_
    exact .cel v rv (.inl ((hkd _).trans hk)) c o (hcells▸hc) ho (by rw [hd,rT (by rw [hkd,hk];decide) hnd hv])
  ·refine aL (chas ((hkd z).symm.trans hz)) fun c hc=>?_
   refine ao (hcellAt _ _ (hcells▸hc)) fun o ho hd=>?_
   exact ⟨c,o,_,hcells▸hc,ho,hd⟩
  ·refine br (hcell c hc) fun n _ _ hn=>?_
   refine ao (hcellAt _ _ hn) fun o ho _=>?_
   exact (ho)▸Option.some_ne_none _
end
end Mine
end
section
namespace Mine
open PySem PyProof.Rows PySem.W
open scoped Classical
theorem xx:fills.all (fun r=>r.1.1 !="law")=true:=rfl
theorem AW{F:Fn}{f:String}{vs:List V}{kn:List String}{ks:List V}{H:Hp}{Q:Option V→Hp→Prop}(w:aH F f vs kn ks H Q):(f !="law")=true:=by
 delta aH at w
 cases e:fills.lookup (f,vs.length,kn) with
 |none=>replace w:=(e)▸w;exact (jo w).2.1
 |some as=>exact jN xx (lookup_mem e)
def jt(B:Base)(prog:Program)(d:Nat):Prop:=∀(F:Fn) (k:Nat) (D:Facts B.aZ) (C:gZ B prog F k) (f:String) (ps:List String) (b:List MS) (fa:Addr) (fd:FuncData),bodies f=some (ps,b)→(f !="law")=true→kC B.aZ f=some (fa,fd) →
 ∃xs,fd.body=.stmts xs∧SSs ⟨B,prog,F,k,D,C,d,fd.scope⟩ b xs
noncomputable abbrev Dq(Q:Option V→Hp→Prop):PS:=fun o _ H'=>match o with
 |.next=>Q (some .none) H'
 |.cont=>False
 |.ret v=>Q (some v) H'
 |.exc=>Q Option.none H'
section
variable{B:Base}{γ:Array GenState}{φ ι:Obs}{H:Hp}{s:Shared}{prog:Program}{A:Around}
theorem gY.back{K:Kx}{X:Cx K}{ρ:Env}{φ' φ2 ι2:Obs}{H2:Hp}{s1 s2:Shared}(E:gY X φ ι H ρ φ' s1)(h:X.Off φ' φ2)(I:Inv K.B X.γ φ2 ι2 H2 s2):Inv K.B X.γ φ ι2 H2 s2 :=
 I.less fun b o e=>let ⟨h1,h2⟩:=E.apart b ((e)▸Option.some_ne_none _);(h b h1 h2).trans (E.le b o e)
theorem gY.ret{K:Kx}{X:Cx K}{ρ:Env}{φ':Obs}{s1 s2:Shared}{Q:Option V→Hp→Prop}{fl:Flow}(E:gY X φ ι H ρ φ' s1)(h:SP X φ' ι (Dq Q) fl s2):PE K.B X.γ φ ι (fun x H'=>Q (some x) H') (match (generalizing:=false) fl with | .ret v=>v | _=>.none) s2:=by
 obtain ⟨φ2,ι2,H2,ρ2,out,l2,e2,O2,hfl,q⟩:=h
 have I3:=E.back e2 O2.O.I
 cases hfl with
 |next=>exact ⟨ι2,H2,.none,l2,I3,fG,q⟩
 |cont=>exact q.elim
 |ret r=>exact ⟨ι2,H2,_,l2,I3,r,q⟩
theorem yC{n:Nat}{f:String}{bs:List V}{H:Hp}{Q:Option V→Hp→Prop}{ps:List String}{b:List MS}(w:wpF bodies (n+1) f bs H Q)(hb:bodies f=some (ps,b)):ps.length=bs.length∧aO (wpF bodies n) b (fun x=>(ps.zip bs).lookup x) H (Dq Q):=by
 change onS (bodies f) _ at w
 rw [hb] at w
 cases e:ps.length==bs.length with
 |true=>exact ⟨eq_of_beq e,by change cond (ps.length==bs.length) _ _ at w;rw [e] at w;exact w⟩
 |false=>change cond (ps.length==bs.length) _ _ at w;rw [e] at w;exact w.elim
theorem mY{d k n:Nat}{f:String}{fa:Addr}{vs ks:List V}{kn:List String}{vals kvals:List Value}{Q:Option V→Hp→Prop}{R:Result→Shared→Prop}(Df:fF B.aZ)(D:Facts B.aZ)(Bo:jt B prog d)(C:gZ B prog (wpF bodies n) k)
  (Rm:bx A (d+4+k+2)) (hf:bE f=some fa) (I:Inv B γ φ ι H s) (rv:az ι vals vs) (rk:az ι kvals ks) (hn:kn.length=ks.length) (w:aH (wpF bodies (n+1)) f vs kn ks H Q)
  (ok:∀v s',PE B γ φ ι (fun x H'=>Q (some x) H') v s'→R (.ok (.ret v)) s')
  (bad:∀sc (X:Cx ⟨B,prog,wpF bodies n,k,D,C,d,sc⟩) ρ φ' s1 e s',X.A=A.deeper X.env→X.γ=γ→gY X φ ι H ρ φ' s1→SX X φ' ι (Dq Q) s' e→wpAny (model prog B.w) X.A (leaving X.env e) (fun _ s''=>R (.error e) s'') (fun e' s''=>R (.error e') s'') s') :
  codeAny (model prog B.w) A (.call (.ref fa) ⟨vals,(kn.map sx).zip kvals⟩) R s:=by
 have ⟨ps,b,hb⟩:∃ps b,bodies f=some (ps,b):=by
  delta aH at w
  cases e:fills.lookup (f,vs.length,kn) with
  |none=>replace w:=(e)▸w;exact let ⟨_,h,_⟩:=bR (jo w).2.2;⟨_,_,h⟩
  |some as=>rw [e] at w;exact let ⟨_,h,_⟩:=bR w;⟨_,_,h⟩
 refine f5 (defAt Df hb) fun fa' fd Da=>?_
 obtain rfl:fa'=fa:=Option.some.inj ((qd Da.at_).1.symm.trans hf)
 refine ao (Bo _ k D C f ps b fa' fd hb (AW w) Da.at_) fun xs hx hs=>?_
 let K:Kx:=⟨B,prog,wpF bodies n,k,D,C,d,fd.scope⟩
 refine Cw (K:=K) Df I.inK Da.at_ hb w (fun w=>(yC w hb).1) rv rk hn fun binds bs h1 h2 h3 w'=>?_
 exact enter (K:=K) Rm I Da rfl hx h1 h2 h3 fun X φ' s1 hA hγ E=>wpAny_mono (hs X φ' _ ι H s1 _ E.O (yC w' hb).2) (fun fl s2 h=>ok _ _ (hγ▸E.ret h)) fun e s2 h=>bad _ X _ φ' s1 e s2 hA hγ E h
theorem mD{d:Nat}(Df:fF B.aZ)(D:Facts B.aZ)(Bo:jt B prog d):∀n,gZ B prog (wpF bodies n) ((d+6)*n)
 |0=>fun A γ φ ι H s f fa vs kn ks vals kvals Q Rm hf I rv rk hn w=>by
  delta aH at w
  cases e:fills.lookup (f,vs.length,kn) with
  |none=>replace w:=(e)▸w;exact (jo w).2.2.elim
  |some as=>rw [e] at w;exact w.elim
 |n+1=>fun A γ φ ι H s f fa vs kn ks vals kvals Q Rm hf I rv rk hn w =>
  mY Df D Bo (mD Df D Bo n) (Rm.le (by simp only [Nat.mul_succ];lia)) hf I rv rk hn w (fun v s' h=>PE.mono (.refl _) (fun x H' q=>q) h) fun sc X ρ φ' s1 e s' _ _ E h=>by
   obtain ⟨_,_,_,_,_,_,_,_,_,_,q,_⟩:=h
   exact q.elim
noncomputable def jL(h:Heap)(a:Addr):Heap:=h.update a fun o=>{ o with data:=.freed }
theorem gI(h:Heap)(a:Addr):(jL h a).get? a=none:=by
 skip
 simp only [jL,Heap.update,Heap.get?,Array.getElem?_modify]
 cases h.1[a]?<;>rfl
theorem ic{h:Heap}{a b:Addr}(hab:b≠a):(jL h a).get? b=h.get? b:=Heap.get?_update_other h _ (Ne.symm hab)
theorem jA(h:Heap)(a:Addr):(jL h a).StaysIn h:=fun b o e=>by
 by_cases hb:b=a
 ·subst hb;rw [gI] at e;injection e
 ·rw [ic hb] at e;exact e
theorem DQ{d n:Nat}{sc:Scope}(Df:fF B.aZ)(D:Facts B.aZ)(Bo:jt B prog d)(C:gZ B prog (wpF bodies (n+1)) ((d+6)*(n+1))):nN ⟨B,prog,wpF bodies (n+1),(d+6)*(n+1),D,C,d,sc⟩:=by
 intro A γ φ ι H s envL v kn ks val kvals Q Rm hA hkL ⟨LL,oL,hfL,hφL,hoL⟩ I rv rk hn w
 refine mY (vs:=[v]) (vals:=[val]) Df D Bo (mD Df D Bo n) (Rm.le (by show _≤(d+6)*(n+1);simp only [Nat.mul_succ];lia)) (f:=Bd) rfl I (.one rv) rk hn w (fun v s' h=>h) fun sc X ρ φ' s1 e s' hXA hγ E h=>?_
 obtain ⟨φ2,ι2,H2,ρ2,a,h₀,args,l2,e2,O2,q,hm⟩:=h
 obtain ⟨lo,m,hlo,es,ep,hld,_⟩:=O2.Fr.at_.loc
 have some_ne:∀{b o} {φ:Obs},φ b=some o→φ b≠none:=fun e=>(e)▸Option.some_ne_none _
 refine cX (E.apart LL (some_ne hφL)) fun n1 n2=>?_
 simp only [hXA]
 refine wpAny_leaves_madeW (base:=jL (jL h₀ X.env.locals) LL) (h:=h₀) (outer:=[envL]) (L:=X.env.locals) (Around.frames_deeper hA) E.loc (fun b o e=>jA _ _ b o (jA _ _ b o e))
  ⟨by refine (E.O.O.Ev.kind)▸?_;decide,⟨X.env.locals,lo,E.loc,(ic (Ne.symm n1)).trans (gI _ _),O2.O.I.fr _ lo hlo,fun vs e=>by replace e:=(hld).symm.trans e;injection e⟩,hkL,⟨LL,oL,hfL,gI _ _,O2.O.I.fr LL oL ((e2 LL n1 n2).trans (E.le LL oL hφL)),hoL⟩,trivial⟩ hm fun h' t hfl _ _ hup =>
  .mk ι2 H2 a t h₀ _ l2 (hγ▸E.back e2 (O2.O.I.same rfl rfl rfl)) q (fun b o hb ho=>?_) hfl ((Heap.UpToSlots.of_keeps hm.keeps).trans hup)
 have hne:∀c:Addr,φ2 c≠none→b≠c:=fun c hc e=>by
  subst e
  rcases hb with hb | hb | ⟨c,P,ps,hm,hb⟩
  ·exact hc (O2.O.I.dfr b hb)
  ·exact hb (O2.O.I.fob b hc)
  ·rcases hb with rfl | rfl
   ·exact (O2.O.I.lK hm (.inl hc)).1 rfl
   ·exact (O2.O.I.lK hm (.inl hc)).2 rfl
 rw [ic (hne LL (some_ne ((e2 LL n1 n2).trans (E.le LL oL hφL)))),ic (hne X.env.locals (some_ne hlo))]
 exact ho
end
end Mine
end
section
namespace Mine
open PySem PyProof.Rows PySem.W
open scoped Classical
noncomputable abbrev Op(P:Prop):=Option (PLift P)
noncomputable section
noncomputable def need{P:Prop}(b:Bool)(k:b=true→Op P):Op P:=if h:b=true then k h else none
noncomputable def Op.to{P Q:Prop}(o:Op P)(k:P→Op Q):Op Q:=o.bind fun h=>k h.down
noncomputable def Op.map{P Q:Prop}(o:Op P)(f:P→Q):Op Q:=o.bind fun h=>some ⟨f h.down⟩
noncomputable def orr{P:Prop}(a b:Op P):Op P:=a.or b
noncomputable def atN{M:Type}[Inhabited M](a n:Nat)(k:a=n→M):M:=if h:a=n then k h else default
@[elab_as_elim] noncomputable def eqD{α:Type}[DecidableEq α]{M:α→Type}[∀x,Inhabited (M x)](a b:α)(k:M b):M a:=if h:a=b then h▸k else default
@[elab_as_elim] noncomputable def eqS{M:Str→Type}[∀x,Inhabited (M x)](a:Str)(b:String)(k:M (sx b)):M a:=eqD a (sx b) k
section
variable{α:Type}{M:Option α→Type}[∀x,Inhabited (M x)](x:Option α)
@[elab_as_elim] noncomputable def qn(k:M none):M x:=Option.casesOn (motive:=M) x k fun _=>default
@[elab_as_elim] noncomputable def qs(k:∀a,M (some a)):M x:=Option.casesOn (motive:=M) x default k
end
section
variable{α:Type}{M:List α→Type}[∀x,Inhabited (M x)](x:List α)
@[elab_as_elim] noncomputable def q0(k:M []):M x:=List.casesOn (motive:=M) x k fun _ _=>default
@[elab_as_elim] noncomputable def qc(k:∀a l,M (a::l)):M x:=List.casesOn (motive:=M) x default k
@[elab_as_elim] noncomputable def q1(k:∀a,M [a]):M x:=qc x fun a l=>q0 l (k a)
@[elab_as_elim] noncomputable def q2(k:∀a b,M [a,b]):M x:=qc x fun a l=>q1 l (k a)
end
section
variable{M:Expr→Type}[∀x,Inhabited (M x)](x:Expr)
@[elab_as_elim] noncomputable def DM(k:∀a b c,M (.BoolOp a b c)):M x:=atN x.ctorIdx 0 fun h=>Expr.BoolOp.elim (motive_1:=M) x h k
@[elab_as_elim] noncomputable def II(k:∀a b c d,M (.BinOp a b c d)):M x:=atN x.ctorIdx 2 fun h=>Expr.BinOp.elim (motive_1:=M) x h k
@[elab_as_elim] noncomputable def xUn(k:∀a b c,M (.UnaryOp a b c)):M x:=atN x.ctorIdx 3 fun h=>Expr.UnaryOp.elim (motive_1:=M) x h k
@[elab_as_elim] noncomputable def xIf(k:∀a b c d,M (.IfExp a b c d)):M x:=atN x.ctorIdx 5 fun h=>Expr.IfExp.elim (motive_1:=M) x h k
@[elab_as_elim] noncomputable def GU(k:∀a b c,M (.Dict a b c)):M x:=atN x.ctorIdx 6 fun h=>Expr.Dict.elim (motive_1:=M) x h k
@[elab_as_elim] noncomputable def IE(k:∀a b c,M (.Set a b c)):M x:=atN x.ctorIdx 7 fun h=>Expr.Set.elim (motive_1:=M) x h k
@[elab_as_elim] noncomputable def xLC(k:∀a b c d,M (.ListComp a b c d)):M x:=atN x.ctorIdx 8 fun h=>Expr.ListComp.elim (motive_1:=M) x h k
@[elab_as_elim] noncomputable def xDC(k:∀a b c d e,M (.DictComp a b c d e)):M x:=atN x.ctorIdx 10 fun h=>Expr.DictComp.elim (motive_1:=M) x h k
@[elab_as_elim] noncomputable def IF(k:∀a b c d,M (.GeneratorExp a b c d)):M x:=atN x.ctorIdx 11 fun h=>Expr.GeneratorExp.elim (motive_1:=M) x h k
@[elab_as_elim] noncomputable def F4(k:∀a b c d,M (.Compare a b c d)):M x:=atN x.ctorIdx 15 fun h=>Expr.Compare.elim (motive_1:=M) x h k
@[elab_as_elim] noncomputable def dR(k:∀a b c d,M (.Call a b c d)):M x:=atN x.ctorIdx 16 fun h=>Expr.Call.elim (motive_1:=M) x h k
@[elab_as_elim] noncomputable def IG(k:∀a b c d,M (.FormattedValue a b c d)):M x:=atN x.ctorIdx 17 fun h=>Expr.FormattedValue.elim (motive_1:=M) x h k
@[elab_as_elim] noncomputable def xJS(k:∀a b,M (.JoinedStr a b)):M x:=atN x.ctorIdx 18 fun h=>Expr.JoinedStr.elim (motive_1:=M) x h k
@[elab_as_elim] noncomputable def xC(k:∀a b c,M (.Constant a b c)):M x:=atN x.ctorIdx 19 fun h=>Expr.Constant.elim (motive_1:=M) x h k
@[elab_as_elim] noncomputable def xAt(k:∀a b c,M (.Attribute a b c)):M x:=atN x.ctorIdx 20 fun h=>Expr.Attribute.elim (motive_1:=M) x h k
@[elab_as_elim] noncomputable def A8(k:∀a b c,M (.Subscript a b c)):M x:=atN x.ctorIdx 21 fun h=>Expr.Subscript.elim (motive_1:=M) x h k
@[elab_as_elim] noncomputable def CL(k:∀a b,M (.Name a b)):M x:=atN x.ctorIdx 23 fun h=>Expr.Name.elim (motive_1:=M) x h k
@[elab_as_elim] noncomputable def CM(k:∀a b,M (.List a b)):M x:=atN x.ctorIdx 24 fun h=>Expr.List.elim (motive_1:=M) x h k
@[elab_as_elim] noncomputable def x8(k:∀a b c,M (.Tuple a b c)):M x:=atN x.ctorIdx 25 fun h=>Expr.Tuple.elim (motive_1:=M) x h k
@[elab_as_elim] noncomputable def DL(k:∀a b c d,M (.Slice a b c d)):M x:=atN x.ctorIdx 26 fun h=>Expr.Slice.elim (motive_1:=M) x h k
end
section
variable{M:Stmt→Type}[∀x,Inhabited (M x)](x:Stmt)
@[elab_as_elim] noncomputable def F2(k:∀a b,M (.Return a b)):M x:=atN x.ctorIdx 3 fun h=>Stmt.Return.elim (motive_2:=M) x h k
@[elab_as_elim] noncomputable def vL(k:∀a b c,M (.Assign a b c)):M x:=atN x.ctorIdx 5 fun h=>Stmt.Assign.elim (motive_2:=M) x h k
@[elab_as_elim] noncomputable def ID(k:∀a b c d e,M (.For a b c d e)):M x:=atN x.ctorIdx 9 fun h=>Stmt.For.elim (motive_2:=M) x h k
@[elab_as_elim] noncomputable def DI(k:∀a b c d,M (.While a b c d)):M x:=atN x.ctorIdx 11 fun h=>Stmt.While.elim (motive_2:=M) x h k
@[elab_as_elim] noncomputable def yIf(k:∀a b c d,M (.If a b c d)):M x:=atN x.ctorIdx 12 fun h=>Stmt.If.elim (motive_2:=M) x h k
@[elab_as_elim] noncomputable def DJ(k:∀a b c,M (.Raise a b c)):M x:=atN x.ctorIdx 16 fun h=>Stmt.Raise.elim (motive_2:=M) x h k
@[elab_as_elim] noncomputable def IC(k:∀a b c d e,M (.Try a b c d e)):M x:=atN x.ctorIdx 17 fun h=>Stmt.Try.elim (motive_2:=M) x h k
@[elab_as_elim] noncomputable def GQ(k:∀a b,M (.Expr a b)):M x:=atN x.ctorIdx 24 fun h=>Stmt.Expr.elim (motive_2:=M) x h k
@[elab_as_elim] noncomputable def GR(k:∀a,M (.Continue a)):M x:=atN x.ctorIdx 27 fun h=>Stmt.Continue.elim (motive_2:=M) x h k
end
section
variable{M:Const→Type}[∀x,Inhabited (M x)](x:Const)
@[elab_as_elim] noncomputable def cBool(k:∀a,M (.bool a)):M x:=atN x.ctorIdx 1 fun h=>Const.bool.elim (motive:=M) x h k
@[elab_as_elim] noncomputable def cInt(k:∀a,M (.int a)):M x:=atN x.ctorIdx 2 fun h=>Const.int.elim (motive:=M) x h k
@[elab_as_elim] noncomputable def cStr(k:∀a,M (.str a)):M x:=atN x.ctorIdx 5 fun h=>Const.str.elim (motive:=M) x h k
end
@[elab_as_elim] noncomputable def Ib{M:Const→Type}[∀x,Inhabited (M x)](x:Const)(k:M .none):M x:=atN x.ctorIdx 0 fun h=>Const.none.elim (motive:=M) x h k
@[elab_as_elim] noncomputable def q1g{M:List Comprehension→Type}[∀x,Inhabited (M x)](x:List Comprehension)(k:∀t it ifs,M [⟨t,it,ifs,0⟩]):M x:=q1 x fun g=>match g with | ⟨t,it,ifs,a⟩=>eqD a 0 (k t it ifs)
@[elab_as_elim] noncomputable def qK{M:Keyword→Type}(x:Keyword)(k:∀a b c,M ⟨a,b,c⟩):M x:=match x with | ⟨a,b,c⟩=>k a b c
@[elab_as_elim] noncomputable def bf{M:Expr→Type}[∀x,Inhabited (M x)](f:String)(x:Expr)(k:∀p,M (.Name (sx f) p)):M x:=CL x fun id p=>eqS id f (k p)
section
variable(K:Kx)
noncomputable abbrev ChE(e:ME):=∀(K:Kx) (x:Expr),Op (EO K e x)
noncomputable abbrev kY(es:List ME):=∀(K:Kx) (xs:List Expr),Op (aI (EO K) es xs)
noncomputable def Jq(l:Lit)(x:Expr):Op (EO K (.lit l) x):=Lit.casesOn (motive:=fun l=>Op (EO K (.lit l) x)) l
 (xC x fun c _ _=>Ib c (some ⟨EO.of lit_none fun _ _=>rfl⟩))
 (fun b=>xC x fun c _ _=>cBool c fun c=>eqD c b (some ⟨EO.of lit_bool fun _ _=>rfl⟩))
 (fun i=>orr (xC x fun c _ _=>cInt c fun j=>eqD j i (some ⟨EO.of lit_int fun _ _=>rfl⟩)) (xUn x fun op y _=>eqD op .USub (xC y fun c _ _=>cInt c fun j=>eqD i (-j) (some ⟨EO.of lit_neg fun _ _=>rfl⟩))))
 (fun t=>xC x fun c _ _=>cStr c fun u=>eqS u t (some ⟨EO.of lit_str fun _ _=>rfl⟩))
noncomputable def Ji(v:String)(x:Expr):Op (EO K (.var v) x):=bf v x fun _=>need (iA K.sc v) fun h=>some ⟨EO.of (DY h) fun _ _=>rfl⟩
noncomputable def Jv{a b:ME}(o:BOp)(ca:ChE a)(cb:ChE b)(x:Expr):Op (EO K (.bin o a b) x):=II x fun l op r _=>(ca K l).to fun ha=>(cb K r).to fun hb=>eqD op (yw o) (some ⟨EO.of (Ea ha.1 hb.1) fun _ _=>rfl⟩)
noncomputable def Ju{a b:ME}(o:COp)(ca:ChE a)(cb:ChE b)(x:Expr):Op (EO K (.cmp o a b) x):=F4 x fun l os rs _=>q1 os fun op=>q1 rs fun r=>(ca K l).to fun ha=>(cb K r).to fun hb=>need (!behindInMarks (qU o) r) fun hm=>eqD op (qU o) (some ⟨D9 (Bool.not_eq_true' _▸hm) ha.1 hb.1⟩)
noncomputable def E9{es:List ME}(c:Bool)(ce:kY es)(x:Expr):Op (EO K (.bools c es) x):=DM x fun op xs _=>(ce K xs).to fun h=>eqD op (opB c) (some ⟨zJ h,zz h⟩)
noncomputable def Jl{e:ME}(ce:ChE e)(x:Expr):Op (EO K (.not_ e) x):=xUn x fun op y _=>eqD op .Not ((ce K y).map D3)
noncomputable def Jp{es:List ME}(mu:Bool)(ce:kY es)(x:Expr):Op (EO K (.lst mu es) x):=CM x fun xs _=>need (decide (xs.length<20)) fun hl=>need (xs.all notStar) fun hn=>(ce K xs).map fun h=>EO.of (D6 (of_decide_eq_true hl) hn h) fun _ _=>rfl
noncomputable def Jj{es:List ME}(ce:kY es)(x:Expr):Op (EO K (.tup es) x):=x8 x fun xs _ _=>need (decide (xs.length<20)) fun hl=>need (xs.all notStar) fun hn=>(ce K xs).map fun h=>EO.of (DZ (of_decide_eq_true hl) hn h) fun _ _=>rfl
noncomputable def AZ(x:Expr):Op (EO K .dictNil x):=GU x fun a b _=>q0 a (q0 b (some ⟨.of tW fun _ _=>rfl⟩))
noncomputable def Ia{e:ME}(ce:ChE e)(x:Expr):Op (EO K (.set1 e) x):=IE x fun ys n _=>eqD n 0 (q1 ys fun y=>need (gu K.sc) fun hg=>need (notStar y) fun hs=>(ce K y).map fun h=>EO.of (By hg hs h.1) fun _ _=>rfl)
noncomputable def Jk{a b:ME}(ca:ChE a)(cb:ChE b)(x:Expr):Op (EO K (.sub a b) x):=A8 x fun l r _=>need (!isSlice r) fun hs=>(ca K l).to fun ha=>(cb K r).map fun hb=>EO.of (D0 (Bool.not_eq_true' _▸hs) ha.1 hb.1) fun _ _=>rfl
noncomputable def C6{e:ME}(ce:ChE e)(x:Option Expr):Op (jO K e x):=orr (qn x (need (dB e) fun h=>some ⟨.no h⟩)) (qs x fun y=>need (!dB e) fun h=>(ce K y).map fun he=>.some (Bool.not_eq_true' _▸h) he.1)
noncomputable def E4{e lo hi:ME}(ce:ChE e)(cl:ChE lo)(ch:ChE hi)(x:Expr):Op (EO K (.slice e lo hi) x):=A8 x fun y z _=>DL z fun l u s _=>qn s ((ce K y).to fun h=>(C6 K cl l).to fun hl=>(C6 K ch u).map fun hu=>EO.of (zF h.1 hl hu) fun _ _=>rfl)
noncomputable def Ij{e:ME}(n:String)(ce:ChE e)(x:Expr):Op (EO K (.attr e n) x):=xAt x fun y m _=>need (cZ y) fun hb=>(ce K y).to fun h=>eqS m n (some ⟨EO.of (BD hb h.1) fun _ _=>rfl⟩)
noncomputable abbrev Be(es:List ME):=∀(K:Kx) (kn:List String) (kws:List Keyword),Op (Kws K kn es kws)
noncomputable def Jm(xs:List Expr):Op (aI (EO K) [] xs):=q0 xs (some ⟨.nil⟩)
noncomputable def Ig{e:ME}{es:List ME}(ce:ChE e)(cs:kY es)(xs:List Expr):Op (aI (EO K) (e::es) xs):=qc xs fun x xs=>(ce K x).to fun h=>(cs K xs).map fun hs=>.cons h hs
noncomputable def Jr(kn:List String)(kws:List Keyword):Op (Kws K kn [] kws):=q0 kn (q0 kws (some ⟨.nil⟩))
noncomputable def cKw{e:ME}{es:List ME}(ce:ChE e)(cs:Be es)(kn:List String)(kws:List Keyword):Op (Kws K kn (e::es) kws):=qc kn fun n kn=>qc kws fun y kws=>qK y fun m v p=>qs m fun m=>eqS m n ((ce K v).to fun h=>(cs K kn kws).map fun hs=>.cons h.1 hs)
noncomputable def defNames:List String:=["_law_tape","_law_take","_law_over","_law_reach","_law_own","_law_grammar","_law_rows","_law_kind","is_nonterminal","is_terminal","_key","transitive_closure"]
theorem Cd{f:String}(h:defNames.contains f=true):∃fa,dS.lookup f=some (.ref fa)∧bE f=some fa:=by
 have e:(defNames.map fun f=>(dS.lookup f,(bE f).isSome))=defNames.map fun f=>((bE f).map .ref,true):=(by rfl)
 have e:=Prod.mk.inj (aQ e (List.contains_iff_mem.mp h))
 obtain ⟨fa,hfa⟩:=Option.isSome_iff_exists.mp e.2
 exact ⟨fa,by simp only [e.1,hfa];rfl,hfa⟩
noncomputable def Ii{es:List ME}(f:String)(cs:kY es)(x:Expr):Op (EO K (.call f es) x):=dR x fun y xs kws pos=>q0 kws (bf f y fun p=>need (aU K.sc f) fun hg=>need (xs.all notStar) fun hn=>need (defNames.contains f) fun hf=>(cs K xs).map fun h=>(Cd hf).elim fun _ h1=>EO.of (BC hg h1.1 h1.2 h hn) fun _ _=>rfl)
theorem oQ{c:String}(h:(dM.map (·.2)).contains c=true):dS.lookup c=some (.ref (aM c))∧aM c∈classes:=by
 have e:((dM.map (·.2)).map fun c=>(dS.lookup c,classes.contains (aM c)))=(dM.map (·.2)).map fun c=>(some (.ref (aM c)),true):=rfl
 exact ⟨(Prod.mk.inj (aQ e (List.contains_iff_mem.mp h))).1,List.contains_iff_mem.mp (Prod.mk.inj (aQ e (List.contains_iff_mem.mp h))).2⟩
noncomputable def Jo{es ks:List ME}(c:String)(kn:List String)(cs:kY es)(ck:Be ks)(x:Expr):Op (EO K (.new c es kn ks) x):=dR x fun y xs kws pos=>bf c y fun p=>need (aU K.sc c) fun hg=>need (xs.all notStar) fun hn=>need ((dM.map (·.2)).contains c) fun hc=>(cs K xs).to fun h=>(ck K kn kws).map fun hk=>EO.of (D5 hg (oQ hc).1 (oQ hc).2 h hn hk) fun _ _=>rfl
noncomputable def Ic{e:ME}{es ks:List ME}(m:String)(kn:List String)(ce:ChE e)(cs:kY es)(ck:Be ks)(x:Expr):Op (EO K (.meth e m es kn ks) x):=dR x fun z xs kws pos=>xAt z fun y n apos=>need (cK.contains m) fun hm=>need (cZ y) fun hb=>need (bM (xs.length+kws.length) apos pos) fun hf=>need (xs.all notStar) fun hn=>(ce K y).to fun h=>(cs K xs).to fun hs=>(ck K kn kws).to fun hk =>
 eqS n m (some ⟨EO.of (BA (List.contains_iff_mem.mp hm) hb hf h.1 hs hn hk) fun _ _=>rfl⟩)
theorem EY{m:String}(h:(dj.map (·.1)).contains m=true):∃p fa,dj.lookup m=some p∧bE ("CFG"++"."++m)=some fa:=by
 have e:((dj.map (·.1)).map fun m=>((dj.lookup m).isSome,(bE ("CFG"++"."++m)).isSome))=(dj.map (·.1)).map fun m=>(true,true):=rfl
 have e:=Prod.mk.inj (aQ e (List.contains_iff_mem.mp h))
 exact let ⟨p,h1⟩:=Option.isSome_iff_exists.mp e.1;let ⟨fa,h2⟩:=Option.isSome_iff_exists.mp e.2;⟨p,fa,h1,h2⟩
noncomputable def E8{es:List ME}(m:String)(cs:kY es)(x:Expr):Op (EO K (.cmeth m es) x):=dR x fun z xs kws pos=>xAt z fun y n apos=>q0 kws (bf "CFG" y fun p=>need ((dj.map (·.1)).contains m) fun hm=>need (aU K.sc "CFG") fun hg=>need (bM (xs.length+0) apos pos) fun hf=>need (xs.all notStar) fun hn=>(cs K xs).to fun hs =>
 eqS n m (some ⟨(EY hm).elim fun _ h=>h.elim fun _ h=>EO.of (zI h.1 h.2 hg hf hs hn) fun _ _=>rfl⟩))
noncomputable def cBm{e:ME}{es:List ME}(m:BM)(ce:ChE e)(cs:kY es)(x:Expr):Op (EO K (.bm m e es) x):=dR x fun z xs kws pos=>xAt z fun y n apos=>q0 kws (need (cZ y) fun hb=>need (bM (xs.length+0) apos pos) fun hf=>need (xs.all notStar) fun hn=>(ce K y).to fun h=>(cs K xs).to fun hs =>
 eqS n m.name (some ⟨EO.of (Hh hb hf h.1 hs hn) fun _ _=>rfl⟩))
theorem Fq:∀f:BI,∃v,nk.lookup f.name=some v:=fun f=>by cases f<;>exact ⟨_,rfl⟩
noncomputable def cBi{es:List ME}(f:BI)(cs:kY es)(x:Expr):Op (EO K (.bi f es) x):=dR x fun y xs kws pos=>q0 kws (bf f.name y fun p=>need (aU K.sc f.name) fun hg=>need (xs.all notStar) fun hn=>(cs K xs).map fun h=>(Fq f).elim fun _ h1=>EO.of (Hi hg h1 h hn) fun _ _=>rfl)
noncomputable def Co(x:Expr):Op (EO K .setNil x):=dR x fun y xs kws pos=>q0 kws (q0 xs (bf "set" y fun p=>need (aU K.sc "set") fun hg=>some ⟨EO.of (wA hg) fun _ _=>rfl⟩))
noncomputable def Cn{e:ME}(ce:ChE e)(x:Expr):Op (EO K (.sorted e) x):=dR x fun y xs kws pos=>q0 kws (q1 xs fun z=>bf "sorted" y fun p=>need (aU K.sc "sorted") fun hg=>need (notStar z) fun hn=>(ce K z).map fun h=>EO.of (wz hg hn h.1) fun _ _=>rfl)
noncomputable def H9{e:ME}(ce:ChE e)(x:Expr):Op (EO K (.vals e) x):=dR x fun y xs kws pos=>q0 kws (q1 xs fun w=>dR w fun v us kws ipos=>q0 us (q0 kws (xAt v fun z n apos=>bf "list" y fun p=>need (aU K.sc "list") fun hg=>need (cZ z) fun hb=>need (bM 0 apos ipos) fun hf=>(ce K z).to fun h =>
 eqS n "values" (some ⟨EO.of (Bx hg hb hf h.1) fun _ _=>rfl⟩))))
theorem Az{c:String}(h:["Nonterminal","str"].contains c=true):c="Nonterminal"∨c="str":=(List.mem_cons.mp (List.contains_iff_mem.mp h)).imp id List.mem_singleton.mp
noncomputable def Cp{e:ME}(c:String)(ce:ChE e)(x:Expr):Op (EO K (.isinst e c) x):=dR x fun y xs kws pos=>q0 kws (q2 xs fun z u=>bf "isinstance" y fun p=>bf c u fun p'=>need (aU K.sc "isinstance") fun hg=>need (aU K.sc c) fun hc=>need (["Nonterminal","str"].contains c) fun hi=>need (notStar z) fun hn=>(ce K z).map fun h=>EO.of (wB hg hc (Az hi) hn h.1) fun _ _=>rfl)
noncomputable def C7(sc:Scope):(es:List String)→(xs:List Expr)→Op (vW sc es xs)
 |[]=>fun xs=>q0 xs (some ⟨.nil⟩)
 |e::es=>fun xs=>qc xs fun x l=>IG x fun y c f q=>eqD c (-1) (qn f (bf e y fun p=>need (iA sc e) fun h=>(C7 sc es l).map fun hs=>.cons h hs))
noncomputable def Ie(es:List String)(x:Expr):Op (EO K (.fstr es) x):=xJS x fun xs _=>qc xs fun x1 l=>qc l fun x2 xs=>(C7 K.sc es (x1::x2::xs)).map fun h=>EO.of (BB h) fun _ _=>rfl
noncomputable def Jt{e:ME}(ce:ChE e)(x:Expr):Op (EO K (.frz e) x):=CL x fun id p=>(ce K (.Name id p)).map fun h=>EO.of (D8 h.1) fun _ _=>rfl
noncomputable def Js{a b c:ME}(cc:ChE c)(ca:ChE a)(cb:ChE b)(x:Expr):Op (EO K (.ifx c a b) x):=xIf x fun x y z _=>(cc K x).to fun hc=>(ca K y).to fun ha=>(cb K z).map fun hb=>D7 hc.2 ha hb
noncomputable def ye(sc:Scope)(xs:List String)(t:Expr):Op (Tgt sc xs t) :=
 orr (q1 xs fun x=>bf x t fun p=>need (bK sc x) fun h=>some ⟨.one h⟩)
 (q2 xs fun x y=>x8 t fun es k c=>q2 es fun a b=>bf x a fun p=>bf y b fun q=>need (bK sc x) fun h=>need (bK sc y) fun h'=>some ⟨.two h h'⟩)
noncomputable def yv{e:ME}(ce:ChE e)(ifs:List Expr):Op (eo K e ifs) :=
 orr (q0 ifs (need (dB e) fun h=>some ⟨.no h⟩)) (q1 ifs fun c=>need (!dB e) fun h=>(ce K c).map fun he=>.one (Bool.not_eq_true' _▸h) he.2)
noncomputable def Ih{elt iter cond:ME}(mu:Bool)(xs caps:List String)(cz:ChE elt)(ci:ChE iter)(cc:ChE cond)(x:Expr):Op (EO K (.comp mu elt xs iter cond caps) x):=xLC x fun z g gs _=>q1g g fun t it ifs=>need (dH it) fun hs=>need (bN K.sc gs xs caps) fun hsc=>(ye gs xs t).to fun ht=>(ci K it).to fun hi=>(cz (K.at gs) z).to fun hz=>(yv (K.at gs) cc ifs).map fun hc=>EO.of (uV hs hsc ht hi.1 hz.1 hc) fun _ _=>rfl
noncomputable def E7{k v iter:ME}(x:String)(ck:ChE k)(cv:ChE v)(ci:ChE iter)(y:Expr):Op (EO K (.dcomp k v x iter) y):=xDC y fun z u g gs _=>q1g g fun t it ifs=>q0 ifs (need (dH it) fun hs=>need (bN K.sc gs [x] []) fun hsc=>(ye gs [x] t).to fun ht=>(ci K it).to fun hi=>(ck (K.at gs) z).to fun hz=>(cv (K.at gs) u).map fun hu=>EO.of (zH hs hsc ht hi.1 hz.1 hu.1) fun _ _=>rfl)
theorem Ei(q:QK):nk.lookup q.name=some (.builtin q.name):=by cases q<;>rfl
noncomputable def E6{elt iter cond:ME}(q:QK)(x:String)(cz:ChE elt)(ci:ChE iter)(cc:ChE cond)(d:Nat)(hd:K.d=d)(y:Expr):Op (EO K (.quant q elt x iter cond) y):=Nat.casesOn (motive:=fun d=>K.d=d→_) d (fun _=>none) (fun d hd=>dR y fun y xs kws pos=>q0 kws (q1 xs fun w=>IF w fun z g gs gpos=>q1g g fun t it ifs=>bf q.name y fun p=>need (aU K.sc q.name) fun hg=>need (bN K.sc gs [x] []) fun hsc=>need (!gs.isCoroutine) fun hco =>
   need (gs.names.lookup (sx ".0")==some .local) fun h0=>need (kN it) fun hnm=>need (gs.names.lookup (sx "<gen>")==none) fun hmk=>(ye gs [x] t).to fun ht=>(ci K it).to fun hi=>(cz (K.gen d gs) z).to fun hz=>(yv (K.gen d gs) cc ifs).map fun hc =>
    EO.of (zG hd hg (Ei q) hsc (Bool.not_eq_true' _▸hco) (eq_of_beq h0) hnm (eq_of_beq hmk) ht hi.1 hz.1 hc) fun _ _=>rfl)) hd
end
end
end Mine
end
section
namespace Mine
open PySem PyProof.Rows PySem.W
open scoped Classical
noncomputable section
mutual
noncomputable def cE:(e:ME)→ChE e
 |.no=>fun _ _=>none
 |.lit l=>fun K x=>Jq K l x
 |.var v=>fun K x=>Ji K v x
 |.bin o a b=>fun K x=>Jv K o (cE a) (cE b) x
 |.cmp o a b=>fun K x=>Ju K o (cE a) (cE b) x
 |.bools c es=>fun K x=>E9 K c (cEs es) x
 |.not_ e=>fun K x=>Jl K (cE e) x
 |.lst mu es=>fun K x=>Jp K mu (cEs es) x
 |.tup es=>fun K x=>Jj K (cEs es) x
 |.dictNil=>fun K x=>AZ K x
 |.set1 e=>fun K x=>Ia K (cE e) x
 |.sub a b=>fun K x=>Jk K (cE a) (cE b) x
 |.slice e lo hi=>fun K x=>E4 K (cE e) (cE lo) (cE hi) x
 |.attr e n=>fun K x=>Ij K n (cE e) x
 |.call f es=>fun K x=>Ii K f (cEs es) x
 |.new c es kn ks=>fun K x=>Jo K c kn (cEs es) (cKs ks) x
 |.meth e m es kn ks=>fun K x=>Ic K m kn (cE e) (cEs es) (cKs ks) x
 |.cmeth m es=>fun K x=>E8 K m (cEs es) x
 |.bm m e es=>fun K x=>cBm K m (cE e) (cEs es) x
 |.bi f es=>fun K x=>cBi K f (cEs es) x
 |.setNil=>fun K x=>Co K x
 |.sorted e=>fun K x=>Cn K (cE e) x
 |.vals e=>fun K x=>H9 K (cE e) x
 |.isinst e c=>fun K x=>Cp K c (cE e) x
 |.quant q elt v iter cond=>fun K x=>E6 K q v (cE elt) (cE iter) (cE cond) K.d rfl x
 |.comp mu elt xs iter cond caps=>fun K x=>Ih K mu xs caps (cE elt) (cE iter) (cE cond) x
 |.dcomp k v z iter=>fun K x=>E7 K z (cE k) (cE v) (cE iter) x
 |.frz e=>fun K x=>Jt K (cE e) x
 |.fstr es=>fun K x=>Ie K es x
 |.ifx c a b=>fun K x=>Js K (cE c) (cE a) (cE b) x
noncomputable def cEs:(es:List ME)→kY es
 |[]=>fun K xs=>Jm K xs
 |e::es=>fun K xs=>Ig K (cE e) (cEs es) xs
noncomputable def cKs:(es:List ME)→Be es
 |[]=>fun K kn kws=>Jr K kn kws
 |e::es=>fun K kn kws=>cKw K (cE e) (cKs es) kn kws
end
section
variable(K:Kx)
noncomputable abbrev ChS(m:MS):=∀(K:Kx) (x:Stmt),Op (SS K m x)
noncomputable abbrev vY(ms:List MS):=∀(K:Kx) (xs:List Stmt),Op (SSs K ms xs)
noncomputable def Hl(e:ME)(x:Stmt):Op (SS K (.expr e) x):=GQ x fun y _=>need (!iE y) fun hc=>(cE e K y).map fun h=>Bp h.1 (Bool.not_eq_true' _▸hc)
noncomputable def Ht(x:String)(hx:storeOk K.sc x=true)(np pos:Pos)(y:Expr):(e:ME)→Op (SS K (.asg x e) (.Assign [.Name (sx x) np] y pos))
 |.comp mu elt xs iter cond caps=>xLC y fun z g gs _=>q1g g fun t it ifs=>need (dH it) fun hs=>need (bN K.sc gs xs caps) fun hsc=>(ye gs xs t).to fun ht=>(cE iter K it).to fun hi=>(cE elt (K.at gs) z).to fun hz=>(yv (K.at gs) (cE cond) ifs).map fun hc=>rX hx hs hsc ht hi.1 hz.1 hc
 |_=>none
noncomputable def IT(x:String)(e:ME)(x':Stmt):Op (SS K (.asg x e) x'):=vL x' fun l y pos=>q1 l fun a=>bf x a fun np=>need (storeOk K.sc x) fun hx=>orr (Ht K x hx np pos y e) (need (!iE y) fun hc=>(cE e K y).map fun h=>DX hx h.1 (Bool.not_eq_true' _▸hc))
noncomputable def Hs(xs:List String)(e:ME)(x':Stmt):Op (SS K (.asgs xs e) x'):=q2 xs fun x y=>vL x' fun l v pos=>q1 l fun w=>x8 w fun l m p=>q2 l fun a b=>x8 v fun l m' p'=>q2 l fun z u =>
 bf x a fun pa=>bf y b fun pb=>need (bK K.sc x) fun hx=>need (bK K.sc y) fun hy=>need (pb.line==pa.line) fun hl=>need (x !=y) fun hab=>need (notStar z) fun h1=>need (notStar u) fun h2 =>
    need (![z,u].all (foldedForSure 8)) fun h3=>need (![z,u].all (constantsAlone 8)) fun h4=>(cE e K (.Tuple [z,u] m' p')).map fun h=>Bt hx hy hl hab h1 h2 (Bool.not_eq_true' _▸h3) (Bool.not_eq_true' _▸h4) h.1
noncomputable def zM(x n:String)(e:ME)(x':Stmt):Op (SS K (.asgAttr x n e) x'):=vL x' fun l y pos=>q1 l fun w=>xAt w fun a m ap=>bf x a fun np=>need (iA K.sc x) fun hv=>eqS m n ((cE e K y).map fun h=>tS hv h.1)
noncomputable def BF(d i e:ME)(x':Stmt):Op (SS K (.asgSub d i e) x'):=vL x' fun l u pos=>q1 l fun w=>A8 w fun y z p=>(cE d K y).to fun hd=>(cE i K z).to fun hi=>(cE e K u).to fun he=>need (!iE u) fun hc=>some ⟨wu hd.1 hi.1 he.1 (Bool.not_eq_true' _▸hc)⟩
noncomputable def Hu(x:String)(d i e:ME)(x':Stmt):Op (SS K (.asg2 x d i e) x'):=vL x' fun l u pos=>q2 l fun a w=>A8 w fun y z p=>bf x a fun np=>need (bK K.sc x) fun hx=>(cE d K y).to fun hd=>(cE i K z).to fun hi=>(cE e K u).map fun he=>Bu hx hd.1 hi.1 he.1
noncomputable def IQ{c:ME}{t e:List MS}(ct:vY t)(ce:vY e)(x:Stmt):Op (SS K (.ite c t e) x):=yIf x fun y a b _=>(cE c K y).to fun hc=>(ct K a).to fun ht=>(ce K b).map fun he=>DV hc.2 ht he
noncomputable def IS{body:List MS}(xs:List String)(iter:ME)(cb:vY body)(x:Stmt):Op (SS K (.for_ xs iter body) x):=ID x fun t y zs el _=>q0 el (need (dH y) fun hs=>(ye K.sc xs t).to fun ht=>(cE iter K y).to fun hi=>(cb K zs).map fun hb=>DW hs ht hi.1 hb)
noncomputable def Eb{body:List MS}(c:ME)(cb:vY body)(x:Stmt):Op (SS K (.while_ c body) x):=DI x fun y zs el _=>q0 el ((cE c K y).to fun hc=>(cb K zs).map fun hb=>zD hc.2 hb)
noncomputable def IP(e:ME)(x:Stmt):Op (SS K (.ret e) x):=F2 x fun o _=>qs o fun y=>(cE e K y).map fun h=>DU h.1
noncomputable def Hq(x:Stmt):Op (SS K .cont x):=GR x fun _=>some ⟨Br⟩
noncomputable def Ed(x:Stmt):Op (SS K .raiseVE x):=DJ x fun o n pos=>qn n (qs o fun w=>dR w fun y xs kws cpos=>q0 kws (q1 xs fun v=>xC v fun c u p=>cStr c fun t=>bf "ValueError" y fun np=>need (aU K.sc "ValueError") fun hg=>some ⟨zE hg⟩))
noncomputable def Hr{m:MS}{ms:List MS}(cm:ChS m)(cs:vY ms)(xs:List Stmt):Op (SSs K (m::ms) xs):=qc xs fun x xs=>(cm K x).to fun h=>(cs K xs).map fun hs=>zB h hs
noncomputable def F7(xs:List Stmt):Op (SSs K [] xs):=q0 xs (some ⟨Bm⟩)
noncomputable def Ho{ms:List MS}(m:MS)(xs:List Stmt):Op (SSs K (m::ms) xs):=match m with
 |.dead=>some ⟨zA⟩
 |_=>none
end
mutual
noncomputable def cS:(m:MS)→ChS m
 |.expr e=>fun K x=>Hl K e x
 |.asg v e=>fun K x=>IT K v e x
 |.asgs xs e=>fun K x=>Hs K xs e x
 |.asgAttr v n e=>fun K x=>zM K v n e x
 |.asgSub d i e=>fun K x=>BF K d i e x
 |.asg2 v d i e=>fun K x=>Hu K v d i e x
 |.ite c t e=>fun K x=>IQ K (cSs t) (cSs e) x
 |.for_ xs iter body=>fun K x=>IS K xs iter (cSs body) x
 |.while_ c body=>fun K x=>Eb K c (cSs body) x
 |.ret e=>fun K x=>IP K e x
 |.cont=>fun K x=>Hq K x
 |.raiseVE=>fun K x=>Ed K x
 |.tryVE ..=>fun _ _=>none
 |.dead=>fun _ _=>some ⟨Bq⟩
noncomputable def cSs:(ms:List MS)→vY ms
 |[]=>fun K xs=>F7 K xs
 |m::ms=>fun K xs=>orr (Ho K m xs) (Hr K (cS m) (cSs ms) xs)
end
end
end Mine
end
section
namespace Mine
open PySem PyProof.Rows PySem.W
open scoped Classical
noncomputable section
variable(K:Kx)
noncomputable abbrev ChL(ms:List MS):=∀xs:List Stmt,Op (sO K ms xs)
noncomputable def IL:ChL K []:=fun xs=>(F7 K xs).map SSs.top
noncomputable def G8(m:MS){ms:List MS}(cs:ChL K ms):ChL K (m::ms):=fun xs=>qc xs fun x xs=>(cS m K x).to fun h=>(cs xs).map fun hs=>wo h hs
@[elab_as_elim] noncomputable def qH{M:ExceptHandler→Type}(x:ExceptHandler)(k:∀a b c d,M ⟨a,b,c,d⟩):M x:=match x with | ⟨a,b,c,d⟩=>k a b c d
noncomputable def IK(C:nN K)(v:String)(e:ME)(kn:List String)(ks:List ME){ms:List MS}(cs:ChL K ms)(t r:String):ChL K (.tryVE v e kn ks t r::ms):=fun xs=>qc xs fun w zs=>IC w fun b1 hs o f p8=>q0 o (q0 f (q1 b1 fun s=>vL s fun l w pos1=>q1 l fun a=>dR w fun w xs kws pos=>q0 xs (xAt w fun x n apos =>
 q1 hs fun h=>qH h fun te nm b2 p7=>qs te fun te=>qn nm (q1 b2 fun s=>F2 s fun w p6=>qs w fun w=>F4 w fun w ops l2 p5=>q1 ops fun op=>eqD op .In (q1 l2 fun z=>x8 w fun l3 n2 p3=>q2 l3 fun g1 g2=>xC g1 fun c n1 p1=>cStr c fun u=>CM g2 fun l4 p2=>q0 l4 (
  bf v a fun np=>bf "ValueError" te fun nq=>bf r z fun p4=>eqS u t (eqS n "chomsky_normal_form" (
  need (bK K.sc v) fun hv=>need (cZ x) fun hb=>need (bM kws.length apos pos) fun hf=>need (aU K.sc "ValueError") fun hg=>need (iA K.sc r) fun hr=>(cE e K x).to fun he=>(cKs ks K kn kws).to fun hk=>(cs zs).map fun hs=>zC C hv hb hf he.1 hk hg hr hs))))))))
noncomputable def yd(C:nN K):(ms:List MS)→ChL K ms
 |[]=>IL K
 |m::ms=>match m with
  |.tryVE v e kn ks t r=>IK K C v e kn ks (yd C ms) t r
  |m=>G8 K m (yd C ms)
end
end Mine
end
section
set_option maxRecDepth 100000
namespace Mine
open PySem PySem.W PyProof.Rows
open scoped Classical
noncomputable def HS(o:Obj):Bool:=o.cls.ctorIdx==0&&o.data.ctorIdx==9
noncomputable def fr(P:Params):Frag:=(aZ P).filter fun x=>!HS x.2
variable{P:Params}
theorem HU:Facts (fr P) where
 nt:=⟨(by rfl),(by rfl)⟩
 gl:=(by rfl)
 bl:=(by rfl)
 ga:=(by rfl)
 gh:=by kernel_rfl
 sa:=by kernel_rfl
 hd:=by kernel_rfl
 po:=(by rfl)
 mks:=by kernel_rfl
 keepC:=by kernel_rfl
 na:=by kernel_rfl
 tk:=by kernel_rfl
 keep:=by kernel_rfl
 meth:=by kernel_rfl
 ty:=rfl
 rd:=by kernel_rfl
 sga:=(by rfl)
 cm:=by kernel_rfl
 nn:=(by rfl)
 sn:=by kernel_rfl
 ns:=(by rfl)
 pg:=(by rfl)
 dc:=by kernel_rfl
 ac:=by kernel_rfl
 nc:=by kernel_rfl
 tc:=by kernel_rfl
 mc:=by kernel_rfl
 len:=by kernel_rfl
 tyl:=by kernel_rfl
 ini:=by kernel_rfl
 bm:=⟨4,boot_o_4 P,by kernel_rfl,by decide,by kernel_rfl,by kernel_rfl,by kernel_rfl,by kernel_rfl⟩
theorem pF:fF (fr P):=⟨by kernel_rfl,fun _=>by kernel_rfl,fun _=>by kernel_rfl⟩
end Mine
end
section
set_option maxRecDepth 100000
namespace Mine
open PySem PySem.W PyProof.Rows
open scoped Classical
variable{P:Params}
section
variable{M:Value→Type}[∀x,Inhabited (M x)](x:Value)
@[elab_as_elim] noncomputable def GW(k:M .none):M x:=atN x.ctorIdx 0 fun h=>Value.none.elim (motive:=M) x h k
@[elab_as_elim] noncomputable def vBool(k:∀a,M (.bool a)):M x:=atN x.ctorIdx 3 fun h=>Value.bool.elim (motive:=M) x h k
@[elab_as_elim] noncomputable def vInt(k:∀a b,M (.int a b)):M x:=atN x.ctorIdx 4 fun h=>Value.int.elim (motive:=M) x h k
@[elab_as_elim] noncomputable def vStr(k:∀a b,M (.str a b)):M x:=atN x.ctorIdx 6 fun h=>Value.str.elim (motive:=M) x h k
@[elab_as_elim] noncomputable def vType(k:∀a,M (.type a)):M x:=atN x.ctorIdx 8 fun h=>Value.type.elim (motive:=M) x h k
@[elab_as_elim] noncomputable def IJ(k:∀a,M (.ref a)):M x:=atN x.ctorIdx 10 fun h=>Value.ref.elim (motive:=M) x h k
end
@[elab_as_elim] noncomputable def vC{M:Data→Type}[∀x,Inhabited (M x)](x:Data)(k:∀vs,M (.fields vs)):M x:=atN x.ctorIdx 9 fun h=>Data.fields.elim (motive:=M) x h k
inductive CT(K:Frag)(c:Addr):Obj→Addr×Array Value→Prop
 |mk {d vs ws p ps file tf flags tg inF text tt} (h11:vs[11]?=some (.ref p)) (h18:vs.getD 18 .none=.str file tf) (h7:vs.getD 7 .none=.int flags tg) (h9:vs.getD 9 .none=.bool inF) (h10:vs.getD 10 .none=.int text tt) (hP:K.lookup p=some { cls:=.none,data:=.fields ps }) (tri:TriplesOk ps.toList) (ne:c≠p):CT K c ⟨.type "code",d,.fields vs,ws⟩ (p,ps)
noncomputable def Iv(x:Option Value):Option { p:Addr // x=some (.ref p) }:=qs (M:=fun x=>Option { p:Addr // x=some (.ref p) }) x fun v=>IJ (M:=fun v=>Option { p:Addr // some v=some (.ref p) }) v fun p=>some ⟨p,rfl⟩
noncomputable def Iu(x:Option Obj):Option { ps:Array Value // x=some { cls:=.none,data:=.fields ps } }:=qs (M:=fun x=>Option { ps:Array Value // x=some { cls:=.none,data:=.fields ps } }) x fun o=>match o with
 |⟨c,d,dt,⟨ws⟩⟩=>GW (M:=fun c=>Option { ps:Array Value // some (Obj.mk c d dt ⟨ws⟩)=some { cls:=.none,data:=.fields ps } }) c (qn (M:=fun d=>Option { ps:Array Value // some (Obj.mk .none d dt ⟨ws⟩)=some { cls:=.none,data:=.fields ps } }) d
  (vC (M:=fun dt=>Option { ps:Array Value // some (Obj.mk .none none dt ⟨ws⟩)=some { cls:=.none,data:=.fields ps } }) dt fun ps=>q0 (M:=fun ws=>Option { ps:Array Value // some (Obj.mk .none none (.fields _) ⟨ws⟩)=some { cls:=.none,data:=.fields ps } }) ws (some ⟨ps,rfl⟩)))
noncomputable def F5:(l:List Value)→Op (TriplesOk l)
 |[]=>some ⟨trivial⟩
 |x::y::z::r=>vInt (M:=fun x=>Op (TriplesOk (x::y::z::r))) x fun i t=>vInt (M:=fun y=>Op (TriplesOk (.int i t::y::z::r))) y fun _ _=>(F5 r).map fun h=>h
 |_=>none
noncomputable def vD(K:Frag)(c:Addr)(o:Obj):Option { t:Addr×Array Value // CT K c o t }:=match o with
 |⟨cl,d,dt,ws⟩=>vType (M:=fun cl=>Option { t:Addr×Array Value // CT K c ⟨cl,d,dt,ws⟩ t }) cl fun nm=>eqD (M:=fun nm=>Option { t:Addr×Array Value // CT K c ⟨.type nm,d,dt,ws⟩ t }) nm "code"
  (vC (M:=fun dt=>Option { t:Addr×Array Value // CT K c ⟨.type "code",d,dt,ws⟩ t }) dt fun vs=>(Iv vs[11]?).bind fun p=>(Iu (K.lookup p.1)).bind fun ps =>
   (F5 ps.1.toList).bind fun h1=>(vStr (M:=fun x=>Op (∃l t,x=.str l t)) (vs.getD 18 .none) fun l t=>some ⟨l,t,rfl⟩).bind fun h2=>(vInt (M:=fun x=>Op (∃l t,x=.int l t)) (vs.getD 7 .none) fun l t=>some ⟨l,t,rfl⟩).bind fun h3=>(vBool (M:=fun x=>Op (∃l,x=.bool l)) (vs.getD 9 .none) fun l=>some ⟨l,rfl⟩).bind fun h4=>(vInt (M:=fun x=>Op (∃l t,x=.int l t)) (vs.getD 10 .none) fun l t=>some ⟨l,t,rfl⟩).bind fun h5 =>
   if h:c≠p.1 then some ⟨(p.1,ps.1),f5 h2.down fun _ _ e2=>f5 h3.down fun _ _ e3=>h4.down.elim fun _ e4=>f5 h5.down fun _ _ e5=>.mk p.2 e2 e3 e4 e5 ps.2 h1.down h⟩ else none)
noncomputable def yX(v:Value):Bool:=vType v fun nm=>nm=="code"
theorem AP:((aZ P).all fun x=>!yX x.2.cls||(vD (aZ P) x.1 x.2).isSome)=true:=by kernel_rfl
noncomputable def tabs(P:Params):List (Addr×Addr×Array Value):=(aZ P).filterMap fun x=>(vD (aZ P) x.1 x.2).map fun t=>(x.1,t.1)
theorem wc:((fr P).all fun x=>!((tabs P).map fun t=>t.2.1).contains x.1)=true:=by kernel_rfl
theorem tP:((tabs P).all fun t=>!((tabs P).map fun t=>t.2.1).contains t.1)=true:=by kernel_rfl
theorem i9:((aZ P).map (·.1)).Nodup:=by refine (oF P)▸?_;decide +kernel
end Mine
end
section
set_option maxRecDepth 100000
namespace Mine
open PySem PySem.W PyProof.Rows
open scoped Classical
variable{P:Params}
theorem lI{K:Frag}{a:Addr}{o:Obj}(h:K.lookup a=some o):(a,o)∈K:=by
 induction K with
 |nil=>injection h
 |cons x K ih =>
  obtain ⟨b,x⟩:=x
  rw [List.lookup_cons] at h
  cases e:a==b with
  |true=>rw [e] at h;cases h;exact eq_of_beq e▸List.mem_cons_self
  |false=>rw [e] at h;exact List.mem_cons_of_mem _ (ih h)
theorem i8{K:Frag}{a:Addr}{o:Obj}(hn:(K.map (·.1)).Nodup)(h:(a,o)∈K):K.lookup a=some o:=by
 induction K with
 |nil=>exact xm h
 |cons x K ih =>
  have hn:=List.nodup_cons.mp hn
  rw [List.lookup_cons]
  refine (List.mem_cons.mp h).elim (fun e=>by cases e;rw [beq_self_eq_true]) fun h'=>?_
  rw [(beq_eq_false_iff_ne.mpr fun e=>hn.1 (List.mem_map.mpr ⟨_,h',e⟩):(a==x.1)=false)];exact ih hn.2 h'
theorem pD{x:Addr×Obj}(h:x∈fr P):x∈aZ P:=(List.mem_filter.mp h).1
theorem tab_of{t:Addr×Addr×Array Value}(h:t∈tabs P):∃o,(t.1,o)∈aZ P∧CT (aZ P) t.1 o t.2 :=
 ao (List.mem_filterMap.mp h) fun x hx e=>ao (Option.map_eq_some_iff.mp e) fun y _ e=>⟨x.2,e▸hx,e▸y.2⟩
theorem AO{a:Addr}{o:Obj}(h:(a,o)∈aZ P)(hc:o.cls=.type "code"):∃p ps,(a,p,ps)∈tabs P:=by
 have hx:=List.all_eq_true.mp (AP (P:=P)) _ h
 rw [show yX o.cls=true from hc▸rfl] at hx
 exact aL (Option.isSome_iff_exists.mp hx) fun t ht=>⟨t.1.1,t.1.2,List.mem_filterMap.mpr ⟨_,h,Option.map_eq_some_iff.mpr ⟨t,ht,rfl⟩⟩⟩
theorem DT:((fr P).lookup sysModules).isSome=true:=by kernel_rfl
theorem EK:nsIn (fr P) mainGlobals (sx "law")=some (some (.ref 390)):=by kernel_rfl
theorem wM{K:Frag}{h:Heap}{N:Addr}{mg:Str→Option Value}{n:Str}{v:Value}(X:K.In h)(G:h.Ns N mg)(e:nsIn K N n=some (some v)):mg n=some v:=by
 refine kW G fun o es ep ho hd _ hf=>?_
 delta nsIn at e
 split at e
 ·rename_i c d es' n' sl q
  have:=X _ _ q
  replace this:=(ho).symm.trans this
  cases this
  cases hd
  split at e
  ·rename_i he
   rw [←hf]
   simp only [nsFind,findBy]
   rw [←Array.find?_toList,he]
   simpa using e
  ·split at e<;>exact nomatch e
 ·injection e
end Mine
end
section
set_option maxRecDepth 100000
namespace Mine
open PySem PySem.W PyProof.Rows
open scoped Classical
variable{P:Params}
noncomputable def tabAt(P:Params)(a:Addr):Bool:=((tabs P).map fun t=>t.2.1).contains a
noncomputable def lg(P:Params)(h:Heap):Obs:=fun a=>if tabAt P a then none else h.get? a
theorem eH{h:Heap}{a:Addr}(e:tabAt P a=false):lg P h a=h.get? a:=by simp [lg,e]
theorem t6{h:Heap}{a:Addr}{o:Obj}(e:lg P h a=some o):h.get? a=some o:=by
 delta lg at e;split at e
 ·injection e
 ·exact e
theorem wm:tabAt P cStatics=false:=by kernel_rfl
theorem zw:tabAt P sysModules=false:=by kernel_rfl
theorem zv{t:Addr×Addr×Array Value}(h:t∈tabs P):tabAt P t.2.1=true:=by
 delta tabAt;rw [List.contains_iff_mem];exact List.mem_map.mpr ⟨t,h,rfl⟩
theorem B9{a:Addr}{o:Obj}(h:(a,o)∈fr P):tabAt P a=false:=by
 have:=List.all_eq_true.mp (wc (P:=P)) _ h
 simpa [tabAt] using this
theorem xJ{t:Addr×Addr×Array Value}(h:t∈tabs P):tabAt P t.1=false:=by
 have:=List.all_eq_true.mp (tP (P:=P)) _ h
 simpa [tabAt] using this
noncomputable def baseOf(w:World)(s:Shared)(X:(aZ w.params).In s.heap)(L:s.heap.NoLimit):Base where
 w:=w
 os:=s.os
 tabs:=tabs w.params
 obs:=lg w.params s.heap
 aZ:=fr w.params
 inK:=fun a o e=>by
  rw [eH (B9 (lI e))];exact X a o (i8 i9 (pD (lI e)))
 tabsIn:=fun c p ps h=>ao (tab_of h) fun o h1 _=>by
  rw [eH (xJ h),X c o (i8 i9 h1)];exact Option.some_ne_none _
 codes:=fun c o e hc=>AO (pD (lI e)) hc
 sys:=by
  rw [eH zw]
  obtain ⟨o,ho⟩:=Option.isSome_iff_exists.mp (DT (P:=w.params))
  rw [X _ o (i8 i9 (pD (lI ho)))];exact Option.some_ne_none _
 lim:=by
  obtain ⟨m,⟨o,es,ep,h1,h2,h3,h4⟩,h5⟩:=L
  exact ⟨o,m,by rw [eH wm];exact h1,⟨es,ep,h2,h3,h4⟩,h5⟩
theorem jQ{h:Heap}(X:(aZ P).In h){c p:Addr}{ps:Array Value}(hm:(c,p,ps)∈tabs P):dU h c p ps:=ao (tab_of hm) fun o h1 k=>by
 have ho:=X c o (i8 i9 h1)
 cases k with | mk h11 h18 h7 h9 h10 hP tri ne=>exact .mk ho rfl rfl h11 h18 h7 h9 h10 (X p _ hP) tri ne
theorem xd{w:World}{s:Shared}(X:(aZ w.params).In s.heap)(L:s.heap.NoLimit)(hg:s.gens=#[]):Inv (baseOf w s X L) #[] (fun _=>none) (baseOf w s X L).obs (fun _=>none) s where
 data:=fun a o e=>t6 e
 fr:=fun a o e=>by injection e
 objs:=fun a x e=>by injection e
 dfr:=fun _ _=>rfl
 dob:=fun _ _=>rfl
 fob:=fun _ h=>absurd rfl h
 base:=.refl _
 tab:=fun c p ps h=>⟨#[],(Array.append_empty (xs:=ps)).symm▸jQ X h⟩
 tdis:=fun c p ps h=>⟨by have:=zv h;simp only [baseOf,lg,this,if_true],rfl,rfl⟩
 gens:=⟨#[],.empty,by refine (hg).symm▸?_;rfl⟩
 os:=rfl
theorem BQ{w:World}{s s':Shared}{X:(aZ w.params).In s.heap}{L:s.heap.NoLimit}{φ ι:Obs}{H:Hp}(I:Inv (baseOf w s X L) #[] φ ι H s'):OldK s.heap s'.heap:=by
 have key:∀b o,s.heap.get? b=some o→(s'.heap.get? b=some o)∨(∃c ps,(c,b,ps)∈tabs w.params):=by
  intro b o e
  by_cases ht:tabAt w.params b=true
  ·unfold tabAt at ht
   rw [List.contains_iff_mem] at ht
   refine ao (List.mem_map.mp ht) ?_;rintro ⟨c,p,ps⟩ h1 h2
   simp only at h2;subst h2
   exact .inr ⟨c,ps,h1⟩
  ·exact .inl (I.data b o (I.base b o (by show lg _ _ b=some o;exact (eH (by simpa using ht))▸e)))
 refine ⟨fun b o e=>?_,fun b o e=>?_⟩
 ·rcases key b o e with h | ⟨c,ps,h⟩
  ·exact .inl h
  ·have k:=jQ X h
   cases e.symm.trans k.at_
   exact aL (I.tab c b ps h) fun more k'=>.inr (.inl ⟨k.table.isCodeTable,rfl,ps,more,rfl,k'.at_⟩)
 ·rcases key b o e with h | ⟨c,ps,h⟩
  ·exact ⟨o,h⟩
  ·exact aL (I.tab c b ps h) fun more k'=>⟨_,k'.at_⟩
theorem Bh{x:WData}(h:WShape.has [] x .int=true):∃i,x=.int i:=by
 cases x<;>first | exact ⟨_,rfl⟩ | exact xf h
theorem Aj{x:WData}(h:WShape.has [] x (.list .int)=true):∃xs,x=.list xs∧WShape.hasItems [] xs .int=true:=by
 cases x<;>first | exact xf h | exact ⟨_,rfl,(Bool.or_eq_true_iff.mp (show (WShape.hasItems [] _ .int||false)=true from h)).elim id xf⟩
theorem B7{xs:List WData}(h:WShape.hasItems [] xs .int=true):∃is:List Int,xs=is.map .int:=by
 induction xs with
 |nil=>exact ⟨[],rfl⟩
 |cons x xs ih =>
  have h:=Bool.and_eq_true_iff.mp h
  exact (ih h.2).elim fun is e=>(Bh h.1).elim fun i e'=>⟨i::is,e▸e'▸rfl⟩
theorem CG{args:List WData}(h:rw_.row.toRowW.claim.pre args=true):∃is:List Int,args=[.list (is.map .int)]∧is.length≤63:=by
 have h':=Bool.and_eq_true_iff.mp (show (WShape.hasAll [] args [.list .int]&&(OpenLaw.pre rw_).holds [] { args:=args })=true from h)
 have h1:=h'.1
 have h2:=h'.2
 clear h h'
 cases args with
 |nil=>exact xf h1
 |cons x r =>
 cases r with
 |cons y r=>exact xf (Bool.and_eq_true_iff.mp h1).2
 |nil =>
  refine (Aj (Bool.and_eq_true_iff.mp h1).1).elim fun xs h3=>?_
  cases h3.1
  replace h3:=h3.2
  clear h1
  refine aL (B7 h3) ?_;rintro is rfl
  refine ⟨is,rfl,?_⟩
  by_cases hl:is.length≤63
  ·exact hl
  ·exfalso
   simp [OpenLaw.pre,WTm.holds,WTm.value,rw_,PySem.Challenge.rw_je0023_01,less?] at h2
   replace h2:=((show Num.less? (.int 63) (.int (is.length:Int))=some true from by show some (decide _)=some true;simp;omega))▸h2
   injection h2
end Mine
end
section
set_option maxRecDepth 100000
namespace Mine
open PySem PySem.W PyProof.Rows
open scoped Classical
def CI:Prop:=∀(cells:List Int),cells.length≤63→aO (wpF bodies 11) iC (fun x=>([("script",V.arg (cells.map V.int))]:List (String×V)).lookup x) (fun _=>none) fun o _ _=>o=.ret (.bool true)
theorem wD{ι:Obs}{cl:Str→Option Addr}{h:Heap}{is:List Int}:∀{vs:List Value} {as:List Addr},ReadsAllW [] cl h vs (is.map .int) as→az ι vs (is.map V.int):=by
 induction is with
 |nil=>exact fun r=>(readsAllW_nil_inv r).1
 |cons i is ih=>exact fun r=>Gw (readsAllW_cons_inv r) fun v vs' _ _ e _ r1 r2=>aL (readsW_int_inv r1) fun t e'=>⟨v,vs',e,⟨t,e'.1⟩,ih r2⟩
theorem CH{cl:Str→Option Addr}{h:Heap}{ds:List WData}{vs:List Value}{as:List Addr}(r:ReadsAllW [] cl h vs [.list ds] as){G:Prop}(q:∀la lo lvs ln as',vs=[.ref la]→h.get? la=some lo→lo.cls=.type "list"→lo.data=.seq lvs ln→ReadsAllW [] cl h lvs.toList ds as'→G):G :=
 Gw (readsAllW_cons_inv r) fun v vs' _ _ e _ r1 r2=>Jf (readsW_list_open r1) fun l o its n ai e1 a b c d _=>q l o its n ai (e.trans (e1▸(readsAllW_nil_inv r2).1▸rfl)) a b c d
theorem wF(a b:List WData):rw_.row.toRowW.claim.post a (.bool true) b=true:=by
 refine Bool.and_eq_true_iff.mpr ⟨rfl,?_⟩
 show (match WTm.value [] (.eq .res (.lit (.bool true))) { args:=a,res:=some (.bool true),after:=b } with | some (.bool true)=>true | _=>false)=true
 rw [w_eq (d:=.bool true) (d':=.bool true) rfl rfl,W.same_iff.mpr rfl]
theorem oV{fd:FuncData}{f:List Stmt→Bool}(h:(match fd.body with | .stmts xs=>f xs | _=>false)=true):∃xs,fd.body=.stmts xs∧f xs=true:=by
 cases e:fd.body with
 |stmts xs=>rw [e] at h;exact ⟨xs,rfl,h⟩
 |_=>rw [e] at h;injection h
section
variable{w:World}{s:Shared}{X:(aZ w.params).In s.heap}{L:s.heap.NoLimit}
theorem oU:jt (baseOf w s X L) pr 1:=by
 intro F k D C f ps b fa fd hb hl hfd
 have h:vR.all (fun r=>r.1=="law"||(kC (fr w.params) r.1).any fun p=>match p.2.body with
  |.stmts xs=>(cSs r.2.2 ⟨baseOf w s X L,pr,F,k,D,C,1,p.2.scope⟩ xs).isSome
  |_=>false)=true:=by kernel_rfl
 have h:=(Bool.or_eq_true_iff.mp (jN h (lookup_mem hb))).resolve_left (by simpa using hl)
 rw [show kC (fr w.params) f=some (fa,fd) from hfd] at h
 exact ao (oV (f:=fun xs=>(cSs b ⟨baseOf w s X L,pr,F,k,D,C,1,fd.scope⟩ xs).isSome) h) fun xs e h=>⟨xs,e,((cSs b ⟨baseOf w s X L,pr,F,k,D,C,1,fd.scope⟩ xs).get h).down⟩
theorem DR{F:Fn}{k:Nat}{D:Facts (baseOf w s X L).aZ}{C:gZ (baseOf w s X L) pr F k}{fa:Addr}{fd:FuncData}(hfd:kC (fr w.params) "law"=some (fa,fd))(T:nN ⟨baseOf w s X L,pr,F,k,D,C,1,fd.scope⟩):∃xs,fd.body=.stmts xs∧sO ⟨baseOf w s X L,pr,F,k,D,C,1,fd.scope⟩ iC xs:=by
 have h:∀T:(∀sc,nN ⟨baseOf w s X L,pr,F,k,D,C,1,sc⟩),((kC (fr w.params) "law").any fun p=>match p.2.body with
  |.stmts xs=>(yd ⟨baseOf w s X L,pr,F,k,D,C,1,p.2.scope⟩ (T _) iC xs).isSome
  |_=>false)=true:=fun T=>by kernel_rfl
 have h:=h fun _=>T
 rw [hfd] at h
 exact ao (oV (f:=fun xs=>(yd ⟨baseOf w s X L,pr,F,k,D,C,1,fd.scope⟩ T iC xs).isSome) h) fun xs e h=>⟨xs,e,((yd ⟨baseOf w s X L,pr,F,k,D,C,1,fd.scope⟩ T iC xs).get h).down⟩
end
theorem walk1(law:CI):Dg:=by
 intro w s₀ s₁ mg mb G Y a o pm cd doc dV kV ha hd hcr hdf hmg hg args vals as hpre hlay hrd hwell hsys
 have X:=Y
 have XF:(fr w.params).In s₁.heap:=fun b x e=>X b x (i8 i9 (pD (lI e)))
 have L:=G.T.nolimit
 refine ao (CG hpre) ?_;rintro is rfl hlen
 have h390:mg (sx "law")=some (.ref 390):=wM XF G.T.g EK
 have hname:sL.name=sx "law":=rfl
 have e390:=Value.ref.inj (Option.some.inj (h390.symm.trans hmg))
 subst e390
 refine CH hrd fun la lo lvs ln as' hv ha1 hc1 hd1 r3=>?_
 subst hv
 have I:=xd X L hg
 have D:Facts (baseOf w s₁ X L).aZ:=HU
 have C:=mD (show fF (baseOf w s₁ X L).aZ from pF) D oU 11
 refine f5 (defAt (f:="law") (show fF (baseOf w s₁ X L).aZ from pF) rfl) fun fa fd DA=>?_
 obtain rfl:fa=390:=(Option.some.inj (qd DA.at_).1).symm
 refine ao (DR DA.at_ (DQ (sc:=fd.scope) (show fF (baseOf w s₁ X L).aZ from pF) D oU C)) fun xs hx hs=>?_
 have hla:tabAt w.params la=false:=by
  cases ht:tabAt w.params la with
  |false=>rfl
  |true =>
   exact ao (List.mem_map.mp (List.contains_iff_mem.mp ht)) fun t h1 h2=>by
    have e:lo.cls=.none:=congrArg Obj.cls (Option.some.inj (ha1.symm.trans (h2▸(jQ X h1).at_)))
    cases hc1.symm.trans e
 have hb:BindsTo s₁ fd ⟨[.ref la],[]⟩ [(sx "script",.ref la)]:=iN (K:=fr w.params) XF fun S=>by
  have h:=congrFun (aQ ((pF (P:=w.params)).bn S) (lookup_mem (show bodies "law"=some (["script"],iC) from rfl))) fun _=>.ref la
  rw [show kC (fr w.params) "law"=some (390,fd) from DA.at_] at h
  exact h
 refine wpAny_call (kw:=[]) (codeAny_mono (enter (K:=⟨baseOf w s₁ X L,pr,wpF bodies 11,77,D,C,1,fd.scope⟩) (A:=callerA) (show bx callerA 84 from ⟨rfl,(of_decide_eq_true rfl),(of_decide_eq_true rfl)⟩) I DA rfl hx hb rfl (show az (baseOf w s₁ X L).obs [.ref la] [V.arg (is.map V.int)] from .one ⟨la,lo,ln,lvs,rfl,(eH hla).trans ha1,hc1,hd1,wD r3⟩) (R:=fun r s'=>GoodWG rw_.row.toRowW.claim (classAt s₀.heap) (ExcName.means s₀.heap) [.list (is.map .int)] s₁ r s') fun Xc φ' s' hA hγ E=>?_) fun r s' h=>?_)
 ·refine wpAny_mono (hs Xc φ' _ _ _ s' (fun o _ _=>o=.ret (.bool true)) ⟨hA▸Around.frames_deeper rfl,E.loc,fun b hb=>(E.sole b hb).resolve_left fun h=>h rfl⟩ E.O (law is hlen)) (fun fl s2 h=>?_) fun e s2 h=>?_
  ·obtain ⟨φ2,ι2,H2,ρ2,out,l2,e2,O2,hfl,q⟩:=h
   subst q
   cases hfl with
   |ret r =>
   obtain rfl:=r
   have I2:=O2.O.I
   rw [hγ] at I2
   refine ⟨.inl ⟨_,.bool true,[],rfl,fun _=>rfl,.bool true,wF _ _,fun _=>⟨List.nodup_nil,fun a ha=>by contradiction⟩⟩,BQ (X:=X) (L:=L) I2,I2.os,?_⟩
   refine ao (I2.gens) fun l hl hg2=>?_
   simp only [hg2];simpa using hl
  ·obtain ⟨_,_,_,_,_,_,_,_,_,_,q,_⟩:=h
   injection q
 ·rcases r with e | (_ | _ | _ | v)<;>first | exact h | (exfalso;rcases h.1 with ⟨_,_,_,e,_⟩ | ⟨_,_,_,e,_⟩<;>cases e)
end Mine
end
section
namespace Mine.L
open PySem (Addr)
open scoped Classical
noncomputable abbrev Nm:=List Nat
noncomputable abbrev av:=Nm×List Nm
noncomputable abbrev tx:Nm:=[120]
noncomputable abbrev ty:Nm:=[121]
noncomputable abbrev TT:List Nm:=[tx,ty]
noncomputable abbrev nS:Nm:=cps "S"
noncomputable abbrev nA:Nm:=cps "A"
noncomputable abbrev nB:Nm:=cps "B"
noncomputable abbrev nS0:Nm:=cps "S0_SIGMA"
noncomputable abbrev pad:Nm:=cps "@$@"
noncomputable abbrev dum(t:Nm):Nm:=upper t++pad++upper t
noncomputable abbrev bH(l a:Nm):Nm:=l++pad++a
noncomputable def NN:List Nm:=[nS,nA,nB,nS0,dum tx,dum ty,bH nS nS,bH nS nA,bH nS nB,bH nA nS,bH nA nA,bH nA nB,bH nB nS,bH nB nA,bH nB nB]
noncomputable def isT(s:Nm):Bool:=TT.contains s
noncomputable def bZ(s:Nm):V:=if isT s then .str s else .nt s
noncomputable def aB(r:av):V:=.prod r.1 (r.2.map bZ)
noncomputable def bu(r:av):V:=.tup [.str r.1,.lst (r.2.map .str)]
noncomputable def dQ(s:Nm):V:=if isT s then .tup [.str (cps "T"),.str s] else .tup [.str (cps "N"),.str s]
noncomputable abbrev cB(s:Nm):V:=.tup [.str (cps "N"),.str s]
theorem gQ{P:Bool→V→V→Prop}(s:Nm)(ht:P true (.str s) (.tup [.str (cps "T"),.str s]))(hn:P false (.nt s) (cB s)):P (isT s) (bZ s) (dQ s):=by
 unfold bZ dQ
 cases isT s with
 |true=>exact ht
 |false=>exact hn
def Ext(H H':Hp):Prop:=∀a o,H a=some o→H' a=some o
theorem Ext.refl(H:Hp):Ext H H:=fun _ _ h=>h
theorem Ext.trans{H H' H'':Hp}(h:Ext H H')(h':Ext H' H''):Ext H H'':=fun a o e=>h' a o (h a o e)
theorem aj(H:Hp)(a:Addr)(o:bL):upd H a o a=some o:=if_pos rfl
theorem aq{H:Hp}{a b:Addr}{o:bL}(h:b≠a):upd H a o b=H b:=if_neg h
theorem ah{H:Hp}{a b:Addr}{o:bL}(ha:H a=none)(hb:H b=some o):b≠a:=fun e=>nomatch (e▸hb).symm.trans ha
theorem Ext.none{H H':Hp}{a:Addr}(h:Ext H H')(ha:H' a=none):H a=none:=by
 cases e:H a with
 |none=>rfl
 |some o=>exact nomatch (h a o e).symm.trans ha
theorem Ext.new{H H':Hp}{a:Addr}{o:bL}(h:Ext H H')(ha:H a=Option.none):Ext H (upd H' a o):=fun b x e=>(aq (ah ha e)).trans (h b x e)
theorem AK{body:Env→Hp→PS→Prop}{still:Hp→Prop}{xs:List String}{Q:PS}(P:List V→Env→Hp→Prop)(hs:∀l ρ H,P l ρ H→still H)
  (step:∀v vs ρ H (K:Env→Hp→Prop),P (v::vs) ρ H→(∀ρ2 H2,P vs ρ2 H2→K ρ2 H2)→onS (eG xs v ρ) fun ρ'=>body ρ' H (eF K Q))
  (done:∀ρ H,P [] ρ H→Q .next ρ H):∀(l:List V) (ρ:Env) (H:Hp),P l ρ H→forL body still xs l ρ H Q
 |[],ρ,H,h=>⟨hs _ _ _ h,done ρ H h⟩
 |v::vs,ρ,H,h=>⟨hs _ _ _ h,step v vs ρ H (fun ρ2 H2=>forL body still xs vs ρ2 H2 Q) h fun ρ2 H2 h2=>AK P hs step done vs ρ2 H2 h2⟩
theorem j3{step:V→Hp→(Option V→Hp→Prop)→Prop}{still:Hp→Prop}{Q:List V→Hp→Prop}(P:List V→List V→Hp→Prop)(hs:∀l acc H,P l acc H→still H∧acc.length≤big)
  (st:∀v vs acc H (K:List V→Hp→Prop),P (v::vs) acc H→(∀acc2 H2,P vs acc2 H2→K acc2 H2)→step v H fun r H'=>match r with
   |some w=>K (acc++[w]) H'
   |none=>K acc H')
  (done:∀acc H,P [] acc H→Q acc H):∀(l acc:List V) (H:Hp),P l acc H→fV step still l acc H Q
 |[],acc,H,h=>⟨(hs _ _ _ h).1,done acc H h⟩
 |v::vs,acc,H,h=>⟨(hs _ _ _ h).1,(hs _ _ _ h).2,st v vs acc H (fun acc2 H2=>fV step still vs acc2 H2 Q) h fun acc2 H2 h2=>j3 P hs st done vs acc2 H2 h2⟩
theorem dO{step:V→Hp→(Option V→Hp→Prop)→Prop}{still:Hp→Prop}{H:Hp}{R:List V→Hp→Prop}{α:Type}(g:α→V)(f:α→Option V)(hst:still H):∀(l:List α) (acc:List V),
  (∀x∈l,∀K:Option V→Hp→Prop,K (f x) H→step (g x) H K)→acc.length+l.length≤big→R (acc++l.filterMap f) H→fV step still (l.map g) acc H R
 |[],acc,st,_,q=>⟨hst,List.append_nil acc▸q⟩
 |x::l,acc,st,hl,q=>by
  have st':=fun y (hy:y∈l)=>st y (.tail _ hy)
  refine ⟨hst,Nat.le_trans (Nat.le_add_right ..) hl,st x (.head _) _ ?_⟩
  rw [List.filterMap_cons] at q
  cases hf:f x with
  |none=>rw [hf] at q;exact dO g f hst l acc st' (Nat.le_of_succ_le hl) q
  |some w=>rw [hf] at q;have q:R (acc++w::l.filterMap f) H:=q;rw [List.append_cons] at q;exact dO g f hst l _ st' (by rw [List.length_append,Nat.add_assoc,Nat.add_comm [w].length];exact hl) q
noncomputable abbrev Fb(n:Nat):Fn:=wpF bodies n
section
variable{n:Nat}{H:Hp}{F:Fn}{Q:PV}
theorem zh{s:Nm}{Q:Option V→Hp→Prop}(q:Q (some (.bool (!isT s))) H):aH (wpF bodies (n+1)) "is_nonterminal" [bZ s] [] [] H Q:=gQ (P:=fun b v _=>Q (some (.bool (!b))) H→aH (wpF bodies (n+1)) "is_nonterminal" [v] [] [] H Q) s id id q
theorem HZ{s:Nm}{Q:Option V→Hp→Prop}(q:Q (some (.bool (isT s))) H):aH (wpF bodies (n+1)) "is_terminal" [bZ s] [] [] H Q:=gQ (P:=fun b v _=>Q (some (.bool b)) H→aH (wpF bodies (n+1)) "is_terminal" [v] [] [] H Q) s id id q
theorem uL{s:Nm}{Q:Option V→Hp→Prop}(q:Q (some (dQ s)) H):aH (wpF bodies (n+1)) "_key" [bZ s] [] [] H Q:=gQ (P:=fun _ v k=>Q (some k) H→aH (wpF bodies (n+1)) "_key" [v] [] [] H Q) s id id q
theorem dW{a:V}{l:List V}{i:Nat}{x:V}(hl:listOf H a=some l)(h:l[i]?=some x)(hb:i≤big)(q:Q x H):kG H Q a (.int i):=.seq hl (Int.natCast_nonneg i) (Int.ofNat_le.mpr hb) h q
theorem kJ{l:List V}{i:Nat}{x:V}(h:l[i]?=some x)(hb:i≤big)(q:Q x H):kG H Q (.tup l) (.int i):=.tup (Int.natCast_nonneg i) (Int.ofNat_le.mpr hb) h q
theorem uS{l:List Nat}{i x:Nat}(h:l[i]?=some x)(hb:i≤big)(q:Q (.str [x]) H):kG H Q (.str l) (.int i):=.str (Int.natCast_nonneg i) (Int.ofNat_le.mpr hb) h q
theorem gT{v:V}{l:List V}(h:listOf H v=some l):v=.lst l∨∃a,v=.ref a∧H a=some (.list l):=by
 cases v with
 |lst m=>cases h;exact .inl rfl
 |ref a =>
  unfold listOf at h
  dsimp only at h
  split at h
  ·rename_i ho;cases h;exact .inr ⟨a,rfl,ho⟩
  ·cases h
 |_=>cases h
theorem iB{a:Addr}{l:List V}(ha:H a=some (.list l)):listOf H (.ref a)=some l:=by unfold listOf;dsimp only;rw [ha]
theorem fq{v:V}{l:List V}(hl:listOf H v=some l)(h:l.length≤big)(q:Q (.int l.length) H):BiW F H Q .len [v]:=.len (.seq hl h q)
theorem G6{l:List V}(h:l.length≤big):truth H (.tup l)=some (!l.isEmpty):=if_pos h
theorem G7{l:List V}(h:l.length≤big):truth H (.lst l)=some (!l.isEmpty):=if_pos h
theorem CP{a:Addr}{l:List V}(ha:H a=some (.list l))(h:l.length≤big):truth H (.ref a)=some (!l.isEmpty):=by unfold truth;dsimp only;rw [ha];exact if_pos h
theorem Ay{v:V}{l:List V}(h:listOf H v=some l):iterable H v∧∀l',bQ H v l'→l'=l:=by
 rcases gT h with rfl | ⟨a,rfl,ha⟩
 ·exact ⟨trivial,fun _ h=>h⟩
 ·unfold iterable bQ;dsimp only;rw [ha];exact ⟨trivial,fun _ h=>h⟩
theorem F0{v:V}{H':Hp}{l:List V}(h:listOf H v=some l)(e:Ext H H'):Still v H H':=by
 rcases gT h with rfl | ⟨a,rfl,ha⟩
 ·trivial
 ·exact (e _ _ ha).trans ha.symm
theorem l6{v:V}{H':Hp}{l:List V}(h:listOf H v=some l)(e:Ext H H'):listOf H' v=some l:=by
 rcases gT h with rfl | ⟨a,rfl,ha⟩
 ·rfl
 ·exact iB (e _ _ ha)
theorem iH{v:V}:Still v H H:=by cases v<;>trivial
def gi(t:Addr)(H H':Hp):Prop:=∀b o,b≠t→H b=some o→H' b=some o
theorem gi.refl(t:Addr)(H:Hp):gi t H H:=fun _ _ _ h=>h
theorem gi.trans{t:Addr}{H H' H'':Hp}(h:gi t H H')(h':gi t H' H''):gi t H H'':=fun b o n e=>h' b o n (h b o n e)
theorem gi.upd{t:Addr}{H:Hp}(o:bL):gi t H (upd H t o):=fun b x n e=>(aq n).trans e
theorem gi.new{t a:Addr}{H H':Hp}{o:bL}(h:gi t H H')(ha:H' a=none):gi t H (Mine.upd H' a o):=fun b x n e=>(aq (ah ha (h b x n e))).trans (h b x n e)
theorem Ext.b{H H':Hp}(t:Addr)(h:Ext H H'):gi t H H':=fun b o _ e=>h b o e
inductive dD(k:Nat)(H:Hp)(t:Addr):Prop
 |mk (cs:List Int) (at_:Nat) (h:H t=some (.list [.lst (cs.map .int),.int at_])) (h0:0<cs.length) (hz:cs.length≤27) (hk:at_≤k) (hc:∀c∈cs,0≤c∧c≤1000003)
theorem dD.le{k k':Nat}{H:Hp}{t:Addr}(h:dD k H t)(l:k≤k'):dD k' H t:=let ⟨cs,a,h1,h2,h3,h4,h5⟩:=h;⟨cs,a,h1,h2,h3,Nat.le_trans h4 l,h5⟩
theorem dD.keep{k:Nat}{H H':Hp}{t:Addr}(h:dD k H t)(e:H' t=H t):dD k H' t:=let ⟨cs,a,h1,h2,h3,h4,h5⟩:=h;⟨cs,a,e.trans h1,h2,h3,h4,h5⟩
theorem E0{cells:List Int}{Q:Option V→Hp→Prop}(hc:cells.length≤63)(q:∀t H',H t=none→Ext H H'→dD 0 H' t→Q (some (.ref t)) H'):aH (wpF bodies (n+1)) "_law_tape" [.arg (cells.map .int)] [] [] H Q:=by
 have hb:∀{m:Nat},m≤63→m≤big:=fun h=>Nat.le_trans h (by decide)
 have ht:(cells.take 24).length≤24:=by rw [List.length_take];exact Nat.min_le_left ..
 have hlen:((cells.take 24).map fun i:Int=>(i.natAbs:Int)%1000003).length≤24:=by rw [List.length_map];exact ht
 refine And.intro (fun _ h=>nomatch h) (dJ.arg (vX.hi (k:=24) (by rw [List.length_map];exact hb hc) (by decide) (And.intro trivial fun l hl=>?_)))
 rw [show l=(cells.take 24).map V.int from hl.trans List.map_take.symm]
 refine dO V.int (fun i:Int=>some (V.int ((i.natAbs:Int)%1000003))) trivial _ [] (fun x _ K hK=>BiW.abs (.mod (by decide) hK)) (Nat.le_trans (Nat.le_of_eq (Nat.zero_add _)) (hb (Nat.le_trans ht (by decide)))) ?_
 rw [List.nil_append,show (cells.take 24).filterMap (fun i:Int=>some (V.int ((i.natAbs:Int)%1000003)))=((cells.take 24).map fun i:Int=>(i.natAbs:Int)%1000003).map V.int by rw [List.map_map];exact congrFun List.filterMap_eq_map' _]
 have hcs:∀c∈(cells.take 24).map (fun i:Int=>(i.natAbs:Int)%1000003),0≤c∧c≤1000003:=fun c hc=>let ⟨i,_,e⟩:=List.mem_map.mp hc;e▸⟨Int.emod_nonneg _ (by decide),Int.le_of_lt (Int.emod_lt_of_pos _ (by decide))⟩
 generalize (cells.take 24).map (fun i:Int=>(i.natAbs:Int)%1000003)=cs at hlen hcs ⊢
 have hl2:(cs++[7,2,5]).length≤27:=by rw [List.length_append];exact Nat.add_le_add_right hlen 3
 have e:cs.map V.int++[V.int 7,V.int 2,V.int 5]=(cs++[7,2,5]).map V.int:=by rw [List.map_append];rfl
 refine iP.addl rfl rfl (by rw [List.length_map];exact Nat.le_trans (Nat.add_le_add_right hlen 3) (by decide)) fun t ht=>q t _ ht (Ext.new (.refl H) ht) (.mk (cs++[7,2,5]) 0 ((aj ..).trans (congrArg (fun l=>some (bL.list [.lst l,.int 0])) e)) (by rw [List.length_append];exact Nat.lt_of_lt_of_le (by decide) (Nat.le_add_left ..)) hl2 (Nat.le_refl _) fun c hc=>(List.mem_append.mp hc).elim (hcs c) fun h=>?_)
 simp only [List.mem_cons,List.not_mem_nil,or_false] at h
 rcases h with rfl | rfl | rfl<;>decide
theorem E1{k:Nat}{t:Addr}{most:Int}{Q:Option V→Hp→Prop}(T:dD k H t)(hk:k≤1000)(hm:0<most)(q:∀r H',0≤r→r<most→gi t H H'→dD (k+1) H' t→Q (some (.int r)) H'):aH (wpF bodies (n+1)) "_law_take" [.ref t,.int most] [] [] H Q:=by
 obtain ⟨cs,at_,h1,h2,h3,h4,h5⟩:=T
 have hlt:at_%cs.length<cs.length:=Nat.mod_lt _ h2
 have hl:(cs.map V.int).length=cs.length:=List.length_map ..
 have hi:(cs.map V.int)[at_%(cs.map V.int).length]?=some (V.int cs[at_%cs.length]):=by rw [hl,List.getElem?_map,List.getElem?_eq_getElem hlt];rfl
 have hz:(cs.map V.int).length≤big:=by rw [hl];exact Nat.le_trans h3 (by decide)
 have h0:(0:Int)<(cs.map V.int).length:=by rw [hl];exact Int.natCast_pos.mpr h2
 have hd:((at_:Int)/((cs.map V.int).length:Int))≤1000:=Int.le_trans (Int.ediv_le_self _ (Int.natCast_nonneg _)) (Int.ofNat_le.mpr (Nat.le_trans h4 hk))
 have hd0:0≤((at_:Int)/((cs.map V.int).length:Int)):=Int.ediv_nonneg (Int.natCast_nonneg _) (Int.natCast_nonneg _)
 exact dW (i:=1) (iB h1) rfl (by decide) (.add (.list (k:=1) h1 (Nat.le_refl 2) (by show 2≤big;decide) (dW (i:=0) (iB (aj ..)) rfl (by decide) (fq rfl hz (.mod h0 (dW rfl hi (Nat.le_of_lt (Nat.lt_of_lt_of_le (hl▸hlt) hz)) (fq rfl hz (.fdiv h0 (Int.le_trans (Int.ofNat_le.mpr hz) (by decide))
  (.mul ⟨by decide,by decide⟩ ⟨Int.le_trans (by decide) hd0,Int.le_trans hd (by decide)⟩ (.add (.mod hm (q _ _ (Int.emod_nonneg _ (Int.ne_of_gt hm)) (Int.emod_lt_of_pos _ hm) (gi.upd _) ⟨cs,at_+1,aj ..,h2,h3,Nat.succ_le_succ h4,h5⟩))))))))))))
end
end Mine.L
end
section
namespace Mine.L
open PySem (Addr)
open scoped Classical
theorem xD{k:V}:aE [] k=none:=by simp [aE]
theorem qB{es fs:List (V×V)}{k:V}:aE (es++fs) k=(aE es k).or (aE fs k):=by
 unfold aE;rw [List.find?_append];cases es.find? fun e=>decide (e.1=k)<;>simp
theorem xB{k k' v:V}:aE [(k,v)] k'=if k=k' then some v else none:=by
 unfold aE;by_cases h:k=k'<;>simp [h]
theorem xE{es:List (V×V)}{k k' v:V}:aE (es.map fun e=>if e.1=k then (e.1,v) else e) k'=if k=k' then (aE es k').map (fun _=>v) else aE es k':=by
 unfold aE
 induction es with
 |nil=>simp
 |cons e es ih =>
  simp only [List.map_cons,List.find?_cons]
  by_cases h1:e.1=k<;>by_cases h2:e.1=k'
  ·have:k=k':=h1.symm.trans h2
   simp [h1,h2,this]
  ·have:¬k=k':=fun e'=>h2 (h1.trans e')
   simp only [h1,if_true]
   rw [h1] at h2
   simp only [h2,decide_false] at ih ⊢
   simpa [this] using ih
  ·have:¬k=k':=fun e'=>h1 (h2.trans e'.symm)
   rw [if_neg h1,if_neg this];simp only [h2,decide_true]
  ·simp only [h1,if_false]
   simp only [h2,decide_false]
   exact ih
theorem iM{es:List (V×V)}{k k' v:V}:aE (dput es k v) k'=if k=k' then some v else aE es k':=by
 unfold dput
 split
 ·rename_i h
  rw [xE]
  by_cases e:k=k'
  ·subst e;obtain ⟨w,hw⟩:=Option.isSome_iff_exists.mp h;simp [hw]
  ·simp [e]
 ·rename_i h
  rw [qB,xB]
  by_cases e:k=k'
  ·subst e;simp only [Option.not_isSome_iff_eq_none] at h;simp [h]
  ·simp [e]
theorem bF{es:List (V×V)}{k v:V}{p:V→Prop}(hk:p k)(h:∀e∈es,p e.1):∀e∈dput es k v,p e.1:=by
 intro e he
 unfold dput at he
 split at he
 ·obtain ⟨x,hx,rfl⟩:=List.mem_map.mp he
  split
  ·exact h x hx
  ·exact h x hx
 ·rcases List.mem_append.mp he with he | he
  ·exact h e he
  ·simp only [List.mem_singleton] at he;subst he;exact hk
theorem dZ{es:List (V×V)}{k v:V}:(dput es k v).length≤es.length+1:=by
 unfold dput;split<;>simp
theorem IB{es:List (V×V)}{k v:V}(h:aE es k=none):dput es k v=es++[(k,v)]:=by simp [dput,h]
theorem cA{es:List (V×V)}{k v:V}(h:aE es k=some v):(k,v)∈es:=by
 unfold aE at h
 obtain ⟨e,he,rfl⟩:=Option.map_eq_some_iff.mp h
 have h1:=List.find?_some he
 have h2:=List.mem_of_find?_eq_some he
 simp at h1;subst h1;exact h2
theorem jC{es:List (V×V)}{k:V}(h:∃e∈es,e.1=k):∃v,aE es k=some v:=by
 obtain ⟨e,he,rfl⟩:=h
 unfold aE
 cases hf:es.find? fun x=>decide (x.1=e.1) with
 |some x=>exact ⟨x.2,rfl⟩
 |none=>have:=List.find?_eq_none.mp hf e he;simp at this
noncomputable def aV(r:List Nm):Bool:=r.all fun s=>!isT s
def uG(m:Int)(R:List av):Prop:=(∀r∈R,m≤r.2.length)∧∃r∈R,m=r.2.length
def uH(m:Int)(R:List av):Prop:=(∀r∈R,(r.2.length:Int)≤m)∧∃r∈R,m=r.2.length
noncomputable def nlR(R:List av):Bool:=R.all fun r=>r.2.length==1||aV r.2
noncomputable def ulR(R:List av):Bool:=R.all fun r=>r.2.length !=1 || !aV r.2
def Iw(H:Hp)(le:List (V×V))(R:List av):Prop:=(∀e∈le,isAtoms e.1=true)∧∀X,X∈NN→(aE le (cB X)=none∧R.filter (fun r=>r.1=X)=[])∨∃b,aE le (cB X)=some (.ref b)∧H b=some (.list ((R.filter fun r=>r.1=X).map aB))
structure IsG(H:Hp)(a:Addr)(st:Nm)(R:List av)(dx:Addr)(f:String→Option V)(li ei:Addr)(le ee:List (V×V))(lp ep:Nat)(mi ma:Int):Prop where
 hi:H a=some (.inst "CFG" dx)
 hd:H dx=some (.attrs f)
 s:f "_start"=some (.nt st)
 p:f "_productions"=some (.lst (R.map aB))
 nl:f "_is_nonlexical"=some (.bool (nlR R))
 ul:f "_all_unary_are_lexical"=some (.bool (ulR R))
 hmi:f "_min_len"=some (.int mi)
 miok:uG mi R
 hma:f "_max_len"=some (.int ma)
 maok:uH ma R
 l:f "_lhs_index"=some (.ref li)
 hl:H li=some (.dict le lp)
 lok:Iw H le R
 e:f "_empty_index"=some (.ref ei)
 he:H ei=some (.dict ee ep)
 eok:ee.length≤big∧(ee=[]↔∀r∈R,r.2≠[])
inductive G(H:Hp)(a:Addr)(st:Nm)(R:List av):Prop
 |mk {dx:Addr} {f:String→Option V} {li ei:Addr} {le ee:List (V×V)} {lp ep:Nat} {mi ma:Int} (h:IsG H a st R dx f li ei le ee lp ep mi ma):G H a st R
section
variable{n:Nat}{H:Hp}{Q:Option V→Hp→Prop}{a dx li ei:Addr}{st:Nm}{R:List av}{f:String→Option V}{le ee:List (V×V)}{lp ep:Nat}{mi ma:Int}
theorem IsG.listed(g:IsG H a st R dx f li ei le ee lp ep mi ma){X:Nm}(hX:X∈NN):listOf H ((aE le (cB X)).getD (.lst []))=some ((R.filter fun r=>r.1=X).map aB):=by
 rcases g.lok.2 X hX with ⟨h1,h2⟩ | ⟨b,h1,h2⟩
 ·rw [h1,h2];rfl
 ·rw [h1];exact iB h2
theorem IsG.ext{H':Hp}(g:IsG H a st R dx f li ei le ee lp ep mi ma)(h:Ext H H'):IsG H' a st R dx f li ei le ee lp ep mi ma :=
 { g with hi:=h _ _ g.hi,hd:=h _ _ g.hd,hl:=h _ _ g.hl,he:=h _ _ g.he,lok:=⟨g.lok.1,fun X hX=>(g.lok.2 X hX).imp id fun ⟨b,h1,h2⟩=>⟨b,h1,h _ _ h2⟩⟩ }
theorem G.ext{H':Hp}(g:G H a st R)(h:Ext H H'):G H' a st R:=by
 cases g with | mk g=>exact ⟨g.ext h⟩
theorem IsG.at(g:IsG H a st R dx f li ei le ee lp ep mi ma){m:String}{v:V}{Q:PV}(hm:gW m=true)(hv:f m=some v)(q:Q v H):uQ H Q a m:=.mk g.hi g.hd hm hv q
theorem IsG.cls(g:IsG H a st R dx f li ei le ee lp ep mi ma):ni H (.ref a)=some "CFG":=by
 simp only [ni,g.hi,g.hd]
theorem kR(g:IsG H a st R dx f li ei le ee lp ep mi ma)(q:Q (some (.nt st)) H):aH (wpF bodies (n+1)) "CFG.start" [.ref a] [] [] H Q:=g.at rfl g.s q
theorem vG(g:IsG H a st R dx f li ei le ee lp ep mi ma)(q:Q (some (.lst (R.map aB))) H):aH (wpF bodies (n+1)) "CFG.productions" [.ref a] [] [] H Q:=g.at rfl g.p q
theorem AY(g:IsG H a st R dx f li ei le ee lp ep mi ma)(q:∀l:List V,l.length≤big→(l=[]↔∀r∈R,r.2≠[])→Q (some (.lst l)) H):aH (wpF bodies (n+1)) "CFG.productions" [.ref a] ["empty"] [.bool true] H Q :=
 g.at rfl g.e (.mk g.he g.eok.1 (q _ (by rw [List.length_map];exact g.eok.1) (by rw [←g.eok.2];exact List.map_eq_nil_iff)))
theorem AX(g:IsG H a st R dx f li ei le ee lp ep mi ma){X:Nm}(q:Q (some ((aE le (cB X)).getD (.lst []))) H):aH (wpF bodies (n+2)) "CFG.productions" [.ref a] ["lhs"] [.nt X] H Q :=
 g.at rfl g.l ⟨.get g.hl,.get g.hl rfl g.lok.1 q⟩
theorem xQ(g:IsG H a st R dx f li ei le ee lp ep mi ma)(q:Q (some (.bool (nlR R))) H):aH (wpF bodies (n+1)) "CFG.is_nonlexical" [.ref a] [] [] H Q:=g.at rfl g.nl q
theorem uy(g:IsG H a st R dx f li ei le ee lp ep mi ma)(q:Q (some (.bool (decide (0<mi)))) H):aH (wpF bodies (n+1)) "CFG.is_nonempty" [.ref a] [] [] H Q:=g.at rfl g.hmi q
theorem sF(g:IsG H a st R dx f li ei le ee lp ep mi ma)(q:Q (some (.bool (decide (ma≤2)))) H):aH (wpF bodies (n+1)) "CFG.is_binarised" [.ref a] [] [] H Q:=g.at rfl g.hma q
end
end Mine.L
end
section
namespace Mine.L
open PySem (Addr)
open scoped Classical
section
variable{n:Nat}{H:Hp}{Q:Option V→Hp→Prop}{a dx li ei:Addr}{st:Nm}{R:List av}{f:String→Option V}{le ee:List (V×V)}{lp ep:Nat}{mi ma:Int}
noncomputable def nM(R:List av):Bool:=R.all fun r=>decide (0<r.2.length)&&decide (r.2.length≤2)&&(r.2.length==1||aV r.2)
theorem Ca(g:IsG H a st R dx f li ei le ee lp ep mi ma):nM R=(decide (0<mi)&&nlR R&&decide (ma≤2)):=by
 rw [Bool.eq_iff_iff]
 simp only [nM,nlR,List.all_eq_true,Bool.and_eq_true,decide_eq_true_eq]
 obtain ⟨h1,r1,hr1,e1⟩:=g.miok
 obtain ⟨h2,r2,hr2,e2⟩:=g.maok
 constructor
 ·intro h
  refine ⟨⟨?_,fun r hr=>(h r hr).2⟩,?_⟩
  ·have:=(h r1 hr1).1.1;omega
  ·have:=(h r2 hr2).1.2;omega
 ·intro h r hr
  have a1:=h1 r hr
  have a2:=h2 r hr
  exact ⟨⟨by omega,by omega⟩,h.1.2 r hr⟩
theorem zj(g:IsG H a st R dx f li ei le ee lp ep mi ma)(q:Q (some (.bool (nM R))) H):aH (wpF bodies (n+2)) "CFG.is_flexible_chomsky_normal_form" [.ref a] [] [] H Q:=by
 rw [Ca g] at q
 refine bC g.cls (uy (n:=n) g ?_)
 generalize decide (0<mi)=b1 at q ⊢
 cases b1 with
 |false=>exact q
 |true =>
  refine bC g.cls (xQ (n:=n) g ?_)
  generalize nlR R=b2 at q ⊢
  cases b2 with
  |false=>exact q
  |true=>exact bC g.cls (sF (n:=n) g q)
noncomputable def kE(R:List av):Bool:=nM R&&ulR R
theorem qj(g:IsG H a st R dx f li ei le ee lp ep mi ma)(q:Q (some (.bool (kE R))) H):aH (wpF bodies (n+3)) "CFG.is_chomsky_normal_form" [.ref a] [] [] H Q:=by
 unfold kE at q
 refine bC g.cls (zj (n:=n) g ?_)
 generalize nM R=b1 at q ⊢
 cases b1 with
 |false=>exact q
 |true=>exact g.at rfl g.ul q
end
noncomputable abbrev okN(s:Nm):Prop:=s∈NN∨s∈TT
def WF(R:List av):Prop:=∀r∈R,r.1∈NN∧r.2.length≤3∧∀s∈r.2,okN s
theorem Bg:((NN++TT).all fun s=>!s.isEmpty&&decide (s.length≤100)&&(decide (s <:+: cps "xyz")==isT s))=true:=by decide +kernel
theorem ly{s:Nm}(h:okN s):s≠[]∧s.length≤100∧decide (s <:+: cps "xyz")=isT s:=by
 have:=List.all_eq_true.mp Bg s (List.mem_append.mpr h)
 simpa [and_assoc] using this
theorem EA:(NN.all fun s=>!isT s)=true:=by decide +kernel
theorem c6{s:Nm}(h:s∈NN):isT s=false:=by simpa using List.all_eq_true.mp EA s h
theorem yW{s:Nm}(h:s∈TT):isT s=true:=by simpa [isT] using h
theorem gj{s:Nm}(h:isT s=true):s∈TT:=by simpa [isT] using h
theorem iQ{s:Nm}(h:okN s)(e:isT s=false):s∈NN:=h.resolve_right fun h=>by rw [yW h] at e;cases e
def ItL(H:Hp)(v:V)(l:List V):Prop:=iterable H v∧∀l',bQ H v l'→l'=l
section
variable{n:Nat}{H:Hp}{Q:Option V→Hp→Prop}
theorem bk{v:V}{l:List V}(h:listOf H v=some l):ItL H v l:=Ay h
theorem iZ{l:List V}:ItL H (.tup l) l:=⟨trivial,fun _ h=>h⟩
theorem i6{m:Nat}:ItL H (.rng 0 m) ((List.range m).map fun k:Nat=>V.int k):=⟨trivial,fun l' h=>Eq.trans h (by simp)⟩
theorem fK{step:V→Hp→(Option V→Hp→Prop)→Prop}{R:List V→Hp→Prop}{v:V}{α:Type}{l:List α}(g:α→V)(f:α→V)(hv:ItL H v (l.map g))(hl:l.length≤big)(st:∀x∈l,∀K:Option V→Hp→Prop,K (some (f x)) H→step (g x) H K)(q:R (l.map f) H) :
  iterable H v∧∀l',bQ H v l'→fV step (Still v H) l' [] H R :=
 ⟨hv.1,fun l' h=>by rw [hv.2 l' h];exact dO g (fun x=>some (f x)) iH l [] st (Nat.le_trans (Nat.le_of_eq (Nat.zero_add _)) hl) (by rw [List.filterMap_eq_map'];exact q)⟩
noncomputable def qS(r:List Nm):V:=.lst (r.map fun s=>.bool (isT s))
theorem lH{s:Nm}(h:okN s){P:Bool→Hp→Prop}(q:P (isT s) H):InW H P (.str s) (.str (cps "xyz")):=.str (ly h).1 ((ly h).2.2▸q)
theorem zg{r:List Nm}(h:∀s∈r,okN s)(hl:r.length≤big)(q:Q (some (qS r)) H):aH (wpF bodies (n+1)) "_law_kind" [.lst (r.map .str)] [] [] H Q :=
 And.intro (fun _ h=>nomatch h) (fK V.str (fun s=>.bool (isT s)) (bk rfl) hl (fun s hs K hK=>lH (h s hs) hK) q)
theorem aF{k m:Nat}(h:k≤m)(hm:m≤big:=by decide):k≤big:=Nat.le_trans h hm
theorem zf{a dx li ei:Addr}{st:Nm}{R:List av}{f:String→Option V}{le ee:List (V×V)}{lp ep:Nat}{mi ma:Int}(g:IsG H a st R dx f li ei le ee lp ep mi ma)(hw:WF R)(hl:R.length≤big)(q:Q (some (.lst (R.map bu))) H):aH (wpF bodies (n+2)) "_law_rows" [.ref a] [] [] H Q :=
 And.intro (fun _ h=>nomatch h) (bC g.cls (vG (n:=n) g (fK aB bu (bk rfl) hl (fun r hr K hK =>
  And.intro (fun _ h=>nomatch h) (fK bZ (fun s=>.str s) iZ (aF (hw r hr).2.1) (fun s hs K' hK'=>by
   unfold bZ
   cases isT s with
   |true=>exact hK'
   |false=>exact hK') hK)) q)))
end
end Mine.L
end
section
namespace Mine.L
open PySem (Addr)
open scoped Classical
section
variable{n:Nat}{H:Hp}{F:Fn}{Q:Option V→Hp→Prop}
theorem mj{α:Type}{g:α→V}{body:Env→Hp→PS→Prop}{still:Hp→Prop}{xs:List String}{R:PS}{l:List α}(P:List α→Env→Hp→Prop)(hs:∀a ρ H',P a ρ H'→still H')
  (step:∀a x b ρ H' (K:Env→Hp→Prop),l=a++x::b→P a ρ H'→(∀ρ2 H2,P (a++[x]) ρ2 H2→K ρ2 H2)→onS (eG xs (g x) ρ) fun ρ'=>body ρ' H' (eF K R))
  (done:∀ρ H',P l ρ H'→R .next ρ H'):∀(b a:List α) (ρ:Env) (H':Hp),l=a++b→P a ρ H'→forL body still xs (b.map g) ρ H' R
 |[],a,ρ,H',e,h=>⟨hs _ _ _ h,done ρ H' ((e.trans (List.append_nil a)).symm▸h)⟩
 |x::b,a,ρ,H',e,h=>⟨hs _ _ _ h,step a x b ρ H' (fun ρ2 H2=>forL body still xs (b.map g) ρ2 H2 R) e h fun ρ2 H2 h2=>mj P hs step done b (a++[x]) ρ2 H2 (e.trans (List.append_cons a x b)) h2⟩
theorem vq{α:Type}{g:α→V}{v:V}{body:Env→Hp→PS→Prop}{xs:List String}{R:PS}{l:List α}{ρ:Env}(P:List α→Env→Hp→Prop)(hv:ItL H v (l.map g))(init:P [] ρ H)(hs:∀a ρ H',P a ρ H'→Still v H H')
  (step:∀a x b ρ H' (K:Env→Hp→Prop) (Q:PS),(∀v ρ H,R (.ret v) ρ H→Q (.ret v) ρ H)→l=a++x::b→P a ρ H'→(∀ρ2 H2,P (a++[x]) ρ2 H2→K ρ2 H2)→onS (eG xs (g x) ρ) fun ρ'=>body ρ' H' (eF K Q))
  (done:∀ρ H',P l ρ H'→R .next ρ H'):iterable H v∧∀l',bQ H v l'→forL body (Still v H) xs l' ρ H R :=
 ⟨hv.1,fun l' h=>hv.2 l' h▸mj P hs (fun a x b ρ H' K=>step a x b ρ H' K R fun _ _ _ h=>h) done l [] ρ H rfl init⟩
theorem bD{α:Type}{g:α→V}{v:V}{body:Env→Hp→PS→Prop}{xs:List String}{R:PS}{l:List α}{ρ:Env}(P:List α→Env→Hp→Prop)(hv:ItL H v (l.map g))(init:P [] ρ H)(hs:∀a ρ H',P a ρ H'→Still v H H')
  (step:∀a x b ρ H' (K:Env→Hp→Prop) (Q:PS),l=a++x::b→P a ρ H'→(∀ρ2 H2,P (a++[x]) ρ2 H2→K ρ2 H2)→onS (eG xs (g x) ρ) fun ρ'=>body ρ' H' (eF K Q))
  (done:∀ρ H',P l ρ H'→R .next ρ H'):iterable H v∧∀l',bQ H v l'→forL body (Still v H) xs l' ρ H R:=vq P hv init hs (fun a x b ρ H' K Q _=>step a x b ρ H' K Q) done
theorem uZ(k:Bool)(n:Nat)(r:List Nm):(r.map V.str).all (pk k (n+1))=true:=by
 rw [List.all_eq_true];intro x hx;obtain ⟨s,_,rfl⟩:=List.mem_map.mp hx;rfl
theorem lG(k:Bool)(r:av):pk k 6 (bu r)=true:=by
 have:=uZ k 3 r.2
 exact (Bool.and_true _).trans this
theorem zx{a b:List Nm}(h:a.map V.str=b.map V.str):a=b:=by
 induction a generalizing b with
 |nil=>cases b<;>simp at h ⊢
 |cons x a ih=>cases b with
  |nil=>simp at h
  |cons y b=>simp only [List.map_cons,List.cons.injEq,V.str.injEq] at h;rw [h.1,ih h.2]
theorem zN{r r':av}(h:bu r=bu r'):r=r':=by
 obtain ⟨l,x⟩:=r;obtain ⟨l',x'⟩:=r'
 simp only [bu,V.tup.injEq,List.cons.injEq,V.str.injEq,V.lst.injEq,and_true] at h
 rw [h.1,zx h.2]
theorem kL{r:av}{R:List av}:bu r∈R.map bu↔r∈R:=by
 constructor
 ·intro h;obtain ⟨r',h',e⟩:=List.mem_map.mp h;rw [←zN e];exact h'
 ·exact fun h=>List.mem_map.mpr ⟨r,h,rfl⟩
noncomputable def sI(R:List av)(k:Nat):Option av:=match R[k]? with
 |some r=>if r∈R.take k then none else some r
 |none=>none
noncomputable def vM(R:List av):List av:=(List.range R.length).filterMap (sI R)
theorem jU{R:List av}{k:Nat}{r:av}:sI R k=some r↔R[k]?=some r∧r∉R.take k:=by
 unfold sI
 cases h:R[k]? with
 |none=>simp
 |some x =>
  by_cases hx:x∈R.take k
  ·simp only [hx,if_true];constructor
   ·intro h;cases h
   ·rintro ⟨e,h'⟩;cases e;exact absurd hx h'
  ·simp only [hx,if_false];constructor
   ·intro h;cases h;exact ⟨rfl,hx⟩
   ·rintro ⟨e,_⟩;exact e
theorem rj{R:List av}{r:av}:r∈vM R↔r∈R:=by
 constructor
 ·intro h
  obtain ⟨k,_,e⟩:=List.mem_filterMap.mp h
  exact List.mem_of_getElem? (jU.mp e).1
 ·intro h
  have:∃k,R[k]?=some r∧r∉R.take k:=by
   induction R with
   |nil=>cases h
   |cons a R ih =>
    by_cases e:a=r
    ·exact ⟨0,by simp [e],by simp⟩
    ·obtain ⟨k,h1,h2⟩:=ih ((List.mem_cons.mp h).resolve_left fun e'=>e e'.symm)
     exact ⟨k+1,by simpa using h1,by simp only [List.take_succ_cons,List.mem_cons,not_or];exact ⟨fun e'=>e e'.symm,h2⟩⟩
  obtain ⟨k,h1,h2⟩:=this
  have hk:k<R.length:=(List.getElem?_eq_some_iff.mp h1).1
  exact List.mem_filterMap.mpr ⟨k,List.mem_range.mpr hk,jU.mpr ⟨h1,h2⟩⟩
theorem r9{R:List av}:(vM R).length≤R.length:=by
 have:=List.length_filterMap_le (sI R) (List.range R.length)
 simpa [vM] using this
theorem gD{step:V→Hp→(Option V→Hp→Prop)→Prop}{R:List V→Hp→Prop}{v:V}{α:Type}{l:List α}(g:α→V)(f:α→Option V)(hv:ItL H v (l.map g))(hl:l.length≤big)(st:∀x∈l,∀K:Option V→Hp→Prop,K (f x) H→step (g x) H K)(q:R (l.filterMap f) H) :
  iterable H v∧∀l',bQ H v l'→fV step (Still v H) l' [] H R :=
 ⟨hv.1,fun l' h=>by rw [hv.2 l' h];exact dO g f iH l [] st (Nat.le_trans (Nat.le_of_eq (Nat.zero_add _)) hl) q⟩
theorem HY{R:List av}(hl:R.length≤big)(q:Q (some (.lst ((vM R).map bu))) H):aH (wpF bodies (n+1)) "_law_own" [.lst (R.map bu)] [] [] H Q:=by
 have hz:(R.map bu).length≤big:=by rw [List.length_map];exact hl
 refine And.intro (fun c h=>by cases List.mem_singleton.mp h;rfl) (fq rfl hz (.range ⟨Int.natCast_nonneg _,Int.ofNat_le.mpr hz⟩ ?_))
 rw [List.length_map]
 refine gD (fun k:Nat=>V.int k) (fun k=>(sI R k).map bu) i6 (by rw [List.length_range];exact hl) (fun k hk K hK=>?_) (by rw [←List.map_filterMap];exact q)
 have hk:=List.mem_range.mp hk
 have hg:R[k]?=some R[k]:=List.getElem?_eq_getElem hk
 have hx:(R.map bu)[k]?=some (bu R[k]):=by rw [List.getElem?_map,hg];rfl
 have hkb:k≤big:=Nat.le_trans (Nat.le_of_lt hk) hl
 refine dW rfl hx hkb (.seq rfl (.hi hz hkb (.seq (k:=true) rfl (lG _ _) (fun x hx=>?_) ?_)))
 ·obtain ⟨r,_,rfl⟩:=List.mem_map.mp (List.mem_of_mem_take hx);exact lG _ _
 ·rw [←List.map_take]
  by_cases e:R[k]∈R.take k
  ·rw [decide_eq_true (kL.mpr e)]
   rw [show sI R k=none by unfold sI;rw [hg];exact if_pos e] at hK
   exact hK
  ·rw [decide_eq_false fun h=>e (kL.mp h)]
   rw [jU.mpr ⟨hg,e⟩] at hK
   exact dW rfl hx hkb hK
end
end Mine.L
end
section
namespace Mine.L
open scoped Classical
noncomputable abbrev Rel:=Nm→Nat→Nat→Prop
noncomputable def aY(D:Rel):List Nm→Nat→Nat→Prop
 |[],i,j=>i=j
 |s::r,i,j=>∃k,D s i k∧aY D r k j
noncomputable def trm(w:List Nm):Rel:=fun s i j=>isT s=true∧w[i]?=some s∧i+1=j
noncomputable def der(R:List av)(w:List Nm):Nat→Rel
 |0=>trm w
 |h+1=>fun X i j=>trm w X i j∨∃r,(X,r)∈R∧aY (der R w h) r i j
noncomputable def Der(R:List av)(w:List Nm):Rel:=fun X i j=>∃h,der R w h X i j
section
variable{w:List Nm}{D D':Rel}{R R':List av}
theorem cj:∀{r:List Nm},(∀s,s∈r→∀i j,D s i j→D' s i j)→∀{i j:Nat},aY D r i j→aY D' r i j
 |[],_,_,_,x=>x
 |s::_,h,_,_,x=>x.elim fun k x=>⟨k,h s (.head _) _ _ x.1,cj (fun s m=>h s (.tail _ m)) x.2⟩
theorem fL(h:∀s i j,D s i j→D' s i j){r:List Nm}{i j:Nat}:aY D r i j→aY D' r i j:=cj fun s _=>h s
theorem ju{b:List Nm}:∀{a:List Nm} {i j:Nat},aY D (a++b) i j↔∃k,aY D a i k∧aY D b k j
 |[],i,j=>⟨fun x=>⟨i,rfl,x⟩,fun x=>x.elim fun k x=>x.1▸x.2⟩
 |s::a,i,j=>⟨fun x=>x.elim fun k x=>(ju.mp x.2).elim fun m y=>⟨m,⟨k,x.1,y.1⟩,y.2⟩,fun x=>x.elim fun m x=>x.1.elim fun k y=>⟨k,y.1,ju.mpr ⟨m,y.2,x.2⟩⟩⟩
theorem jP{f:Nm→Nm}:∀{r:List Nm} {i j:Nat},aY D (r.map f) i j↔aY (fun s=>D (f s)) r i j
 |[],_,_=>.rfl
 |_::_,_,_=>exists_congr fun _=>and_congr_right fun _=>jP
theorem cI{s:Nm}{i j:Nat}:aY D [s] i j↔D s i j:=⟨fun x=>x.elim fun k x=>x.2▸x.1,fun x=>⟨j,x,rfl⟩⟩
theorem mC:∀{h:Nat} {X:Nm} {i j:Nat},der R w h X i j→der R w (h+1) X i j
 |0,_,_,_,x=>.inl x
 |_+1,_,_,_,x=>x.imp id fun x=>x.elim fun r x=>⟨r,x.1,fL (fun _ _ _=>mC) x.2⟩
theorem lJ{h h':Nat}{X:Nm}{i j:Nat}(l:h≤h')(x:der R w h X i j):der R w h' X i j:=by
 induction l with
 |refl=>exact x
 |step _ ih=>exact mC ih
theorem nR:∀{r:List Nm} {i j:Nat},aY (Der R w) r i j→∃h,aY (der R w h) r i j
 |[],_,_,x=>⟨0,x⟩
 |_::_,_,_,x=>x.elim fun k x=>x.1.elim fun h1 a=>(nR x.2).elim fun h2 y=>⟨max h1 h2,k,lJ (Nat.le_max_left ..) a,fL (fun _ _ _=>lJ (Nat.le_max_right ..)) y⟩
theorem Der.mk{X:Nm}{r:List Nm}{i j:Nat}(m:(X,r)∈R)(x:aY (Der R w) r i j):Der R w X i j:=(nR x).elim fun h y=>⟨h+1,.inr ⟨r,m,y⟩⟩
theorem Der.ind{P:Rel}(t:∀s i j,trm w s i j→P s i j)(st:∀X r i j,(X,r)∈R→aY P r i j→P X i j){X:Nm}{i j:Nat}(x:Der R w X i j):P X i j:=by
 obtain ⟨h,x⟩:=x
 induction h generalizing X i j with
 |zero=>exact t X i j x
 |succ h ih=>exact x.elim (t X i j) fun x=>x.elim fun r x=>st X r i j x.1 (fL (D':=P) (fun _ _ _=>ih) x.2)
theorem lR(h:∀s i j,D s i j→i<j):∀{r:List Nm} {i j:Nat},aY D r i j→i+r.length≤j
 |[],_,_,x=>Nat.le_of_eq x
 |s::r,i,j,x=>x.elim fun k x=>Nat.le_trans (Nat.le_of_eq (Nat.succ_add i r.length).symm) (Nat.le_trans (Nat.add_le_add_right (h _ _ _ x.1) _) (lR h x.2))
theorem yE{s:Nm}{i j:Nat}(x:trm w s i j):i<j:=Nat.le_of_eq x.2.2
theorem tC(hne:∀r∈R,r.2≠[]):∀{h:Nat} {X:Nm} {i j:Nat},der R w h X i j→i<j
 |0,_,_,_,x=>yE x
 |_+1,_,_,_,x=>x.elim yE fun x=>x.elim fun r x=>Nat.lt_of_lt_of_le (Nat.lt_add_of_pos_right (List.length_pos_iff.mpr (hne _ x.1))) (lR (fun _ _ _=>tC hne) x.2)
theorem qX(h:∀s i j,D s i j→i<j):∀{r:List Nm} {i j:Nat},aY D r i j→(∀s a b,i≤a→b≤j→(b-a<j-i∨(r=[s]∧a=i∧b=j))→D s a b→D' s a b)→aY D' r i j
 |[],i,j,x,_=>x
 |s::r,i,j,x,c=>x.elim fun k x=>by
  have hk:=h _ _ _ x.1
  have hl:=lR h x.2
  have hkj:=Nat.le_trans (Nat.le_add_right ..) hl
  refine ⟨k,c s i k (Nat.le_refl _) hkj ?_ x.1,qX h x.2 fun s' a b h1 h2 _ y=>c s' a b (Nat.le_trans (Nat.le_of_lt hk) h1) h2 (.inl ?_) y⟩
  ·cases r with
   |nil=>exact .inr ⟨rfl,rfl,x.2⟩
   |cons s' r=>exact .inl (Nat.sub_lt_sub_right (Nat.le_of_lt hk) (Nat.lt_of_lt_of_le (Nat.lt_add_of_pos_right (Nat.succ_pos _)) hl))
  ·exact Nat.lt_of_le_of_lt (Nat.le_trans (Nat.sub_le_sub_right h2 _) (Nat.sub_le_sub_left h1 _)) (Nat.sub_lt_sub_left (Nat.lt_of_lt_of_le hk hkj) hk)
theorem oM{α:Type}{p q:α→Bool}(h:∀x,p x=true→q x=true){x:α}(hp:p x=false)(hq:q x=true):∀{l:List α},x∈l→l.countP p<l.countP q
 |a::l,hx=>by
  rw [List.countP_cons,List.countP_cons]
  rcases List.mem_cons.mp hx with rfl | hx
  ·rw [hp,hq];exact Nat.lt_succ_of_le (List.countP_mono_left fun x _=>h x)
  ·refine Nat.add_lt_add_of_lt_of_le (oM h hp hq hx) ?_
   cases e:p a with
   |false=>exact Nat.zero_le _
   |true=>rw [h a e];exact Nat.le_refl _
open Classical in
theorem uw{α:Type}{p:Nat→α→Prop}(mono:∀h x,p h x→p (h+1) x)(fix:∀h,(∀x,p (h+1) x→p h x)→∀x,p (h+2) x→p (h+1) x)(l:List α)(hl:∀h x,p h x→x∈l)(h:Nat)(x:α)(y:p h x):p l.length x:=by
 have stop:∀h,(∀x,p (h+1) x→p h x)→∀k x,p (h+k) x→p h x:=fun h e k=>by
  have:∀k x,p (h+k+1) x→p (h+k) x:=fun k=>Nat.rec e (fun k=>fix (h+k)) k
  induction k with
  |zero=>exact fun x y=>y
  |succ k ih=>exact fun x y=>ih x (this k x y)
 have monoK:∀h k x,p h x→p (h+k) x:=fun h k x y=>Nat.rec y (fun k=>mono (h+k) x) k
 have cnt:∀h,(∃g,g≤h∧∀x,p (g+1) x→p g x)∨h≤l.countP (fun x=>decide (p h x)):=fun h=>by
  induction h with
  |zero=>exact .inr (Nat.zero_le _)
  |succ h ih =>
   refine ih.elim (fun ih=>ih.elim fun g hg=>.inl ⟨g,Nat.le_succ_of_le hg.1,hg.2⟩) fun ih=>?_
   by_cases e:∀x,p (h+1) x→p h x
   ·exact .inl ⟨h,Nat.le_succ h,e⟩
   ·refine (Classical.not_forall.mp e).elim fun x hx=>.inr (Nat.lt_of_le_of_lt ih (oM (fun z hp=>decide_eq_true (mono h z (of_decide_eq_true hp))) (decide_eq_false (Classical.not_imp.mp hx).2) (decide_eq_true (Classical.not_imp.mp hx).1) (hl _ _ (Classical.not_imp.mp hx).1)))
 refine (cnt l.length).elim (fun c=>c.elim fun g hg=>?_) fun hc=>of_decide_eq_true (List.countP_eq_length.mp (Nat.le_antisymm List.countP_le_length hc) x (hl h x y))
 have h2:=monoK g (l.length-g) x (stop g hg.2 h x (Nat.add_comm h g▸monoK h g x y))
 rwa [Nat.add_sub_cancel' hg.1] at h2
theorem oK(hne:∀r∈R,r.2≠[]){l:List Nm}(hT:∀s,isT s=true→s∈l)(hl:∀r∈R,r.1∈l):∀(m:Nat) {h:Nat} {X:Nm} {i j:Nat},j≤i+m→der R w h X i j→der R w (l.length*m) X i j
 |0,h,X,i,j,hj,x=>absurd (tC hne x) (Nat.not_lt.mpr hj)
 |m+1,h,X,i,j,hj,x=>by
  have hm:∀g X,der R w g X i j→X∈l:=fun g X y=>by
   cases g with
   |zero=>exact hT _ y.1
   |succ k=>exact y.elim (fun y=>hT _ y.1) fun y=>y.elim fun r y=>hl _ y.1
  rw [Nat.mul_succ]
  refine uw (p:=fun g X=>der R w (l.length*m+g) X i j) (fun g X=>mC) (fun g e X y=>y.imp id fun y=>y.elim fun r y=>⟨r,y.1,qX (D':=der R w (l.length*m+g)) (fun s i j=>tC hne) y.2 fun s a b ha hb hs z=>?_⟩) l (fun g X=>hm _ X) h X (lJ (Nat.le_add_left ..) x)
  refine hs.elim (fun hs=>lJ (Nat.le_add_right ..) (oK hne hT hl m (Nat.sub_le_iff_le_add'.mp (Nat.le_of_lt_succ (Nat.lt_of_lt_of_le hs (Nat.sub_le_iff_le_add'.mpr hj)))) z)) fun hs=>?_
  rw [hs.2.1,hs.2.2] at z ⊢;exact e s z
end
end Mine.L
end
section
namespace Mine.L
open PySem (Addr)
open scoped Classical
noncomputable abbrev bU(e:Nat):V:=.int e
noncomputable abbrev Kn:=Nm→Nat→List Nat
noncomputable def DK(w:List Nm)(K:Kn):Rel:=fun s i e=>trm w s i e∨(isT s=false∧e∈K s i)
noncomputable def yf(A M:List Nat):List Nat:=A++M.filter fun x=>x∉A
noncomputable def kc(K:Kn)(s:Nm)(A:List Nat)(e:Nat):List Nat:=yf A (K s e)
noncomputable def stepT(w:List Nm)(s:Nm)(e:Nat):Option Nat:=if w[e]?=some s then some (e+1) else none
noncomputable def nx(w:List Nm)(K:Kn)(s:Nm)(L:List Nat):List Nat:=if isT s then L.filterMap (stepT w s) else L.foldl (kc K s) []
noncomputable def dG(w:List Nm)(K:Kn)(r:List Nm)(i:Nat):List Nat:=r.foldl (fun L s=>nx w K s L) [i]
def KB(w:List Nm)(K:Kn):Prop:=∀X i,X∈NN→i≤w.length→(K X i).Nodup∧∀e∈K X i,e≤w.length
theorem bO{α:Type}[DecidableEq α]:∀{l m:List α},l.Nodup→(∀x∈l,x∈m)→l.length≤m.length
 |[],m,_,_=>Nat.zero_le _
 |a::l,m,h,s=>by
  have h:=List.nodup_cons.mp h
  have:=bO (l:=l) (m:=m.erase a) h.2 fun x hx=>(List.mem_erase_of_ne (a:=x) (b:=a) fun e=>h.1 (e▸hx)).mpr (s x (.tail _ hx))
  rw [List.length_erase_of_mem (s a (.head _))] at this
  exact Nat.le_trans (Nat.succ_le_succ this) (Nat.le_of_eq (Nat.sub_add_cancel (List.length_pos_of_mem (s a (.head _)))))
theorem gC{L:List Nat}{m:Nat}(h:L.Nodup)(hl:∀e∈L,e≤m):L.length≤m+1:=Nat.le_trans (bO (m:=List.range (m+1)) h fun x hx=>List.mem_range.mpr (Nat.lt_succ_of_le (hl x hx))) (Nat.le_of_eq List.length_range)
section
variable{w:List Nm}{K:Kn}{s:Nm}{L:List Nat}
theorem eU{A M:List Nat}{x:Nat}:x∈yf A M↔x∈A∨x∈M:=by
 refine List.mem_append.trans ⟨fun h=>h.imp id fun h=>(List.mem_filter.mp h).1,fun h=>?_⟩
 by_cases hA:x∈A
 ·exact .inl hA
 ·exact h.imp id fun h=>List.mem_filter.mpr ⟨h,decide_eq_true hA⟩
theorem jR{A:List Nat}{e x:Nat}:x∈kc K s A e↔x∈A∨x∈K s e:=eU
theorem ia:∀{L A:List Nat} {x:Nat},x∈L.foldl (kc K s) A↔x∈A∨∃e,e∈L∧x∈K s e
 |[],A,x=>⟨.inl,fun h=>h.elim id fun h=>h.elim fun _ h=>nomatch h.1⟩
 |e::L,A,x=>(ia (L:=L)).trans ⟨fun h=>h.elim (fun h=>(jR.mp h).imp id fun h=>⟨e,.head _,h⟩) fun h=>h.elim fun y h=>.inr ⟨y,.tail _ h.1,h.2⟩,
  fun h=>h.elim (fun h=>.inl (jR.mpr (.inl h))) fun h=>h.elim fun y h=>(List.mem_cons.mp h.1).elim (fun e'=>.inl (jR.mpr (.inr (e'▸h.2)))) fun m=>.inr ⟨y,m,h.2⟩⟩
theorem wN{l m:List Nat}(h1:l.Nodup)(h2:m.Nodup)(h:∀x∈m,x∉l):(l++m).Nodup:=List.nodup_append.mpr ⟨h1,h2,fun a ha b hb e=>h b hb (e▸ha)⟩
theorem m6{A M:List Nat}(h:A.Nodup)(hk:M.Nodup):(yf A M).Nodup:=wN h (hk.filter _) fun _ hx=>of_decide_eq_true (List.mem_filter.mp hx).2
theorem gG:∀{L A:List Nat},A.Nodup→(∀e,e∈L→(K s e).Nodup)→(L.foldl (kc K s) A).Nodup
 |[],_,h,_=>h
 |e::L,_,h,hk=>gG (L:=L) (m6 h (hk e (.head _))) fun e he=>hk e (.tail _ he)
theorem iI{e x:Nat}:stepT w s e=some x↔w[e]?=some s∧e+1=x:=by
 unfold stepT
 by_cases h:w[e]?=some s
 ·rw [if_pos h];exact ⟨fun e=>⟨h,Option.some.inj e⟩,fun e=>congrArg some e.2⟩
 ·rw [if_neg h];exact ⟨nofun,fun e=>absurd e.1 h⟩
theorem mw{x:Nat}:x∈L.filterMap (stepT w s)↔∃e,e∈L∧w[e]?=some s∧e+1=x:=List.mem_filterMap.trans (exists_congr fun _=>and_congr_right fun _=>iI)
theorem iL:∀{L:List Nat},L.Nodup→(L.filterMap (stepT w s)).Nodup
 |[],_=>.nil
 |e::L,h=>by
  have h:=List.nodup_cons.mp h
  rw [List.filterMap_cons]
  cases hx:stepT w s e with
  |none=>exact iL h.2
  |some x=>exact List.nodup_cons.mpr ⟨fun hm=>(mw.mp hm).elim fun e' y=>h.1 (Nat.succ.inj (y.2.2.trans (iI.mp hx).2.symm)▸y.1),iL h.2⟩
structure Ends(w:List Nm)(L:List Nat):Prop where
 nd:L.Nodup
 le:∀e∈L,e≤w.length
theorem Ends.len(h:Ends w L):L.length≤w.length+1:=gC h.nd h.le
theorem n6{i:Nat}(h:w[i]?=some s):i<w.length:=(List.getElem?_eq_some_iff.mp h).1
theorem F9(hT:isT s=true):nx w K s L=L.filterMap (stepT w s):=if_pos hT
theorem Gl(hT:isT s=false):nx w K s L=L.foldl (kc K s) []:=if_neg (hT▸nofun)
theorem BR(B:KB w K)(hs:okN s)(h:Ends w L):Ends w (nx w K s L):=by
 cases hT:isT s with
 |true=>rw [F9 hT];exact ⟨iL h.nd,fun e he=>(mw.mp he).elim fun i y=>y.2.2▸n6 y.2.1⟩
 |false=>rw [Gl hT];exact ⟨gG .nil fun e he=>(B s e (iQ hs hT) (h.le e he)).1,fun e he=>(ia.mp he).elim nofun fun y=>y.elim fun i y=>(B s i (iQ hs hT) (h.le i y.1)).2 e y.2⟩
theorem yO{x:Nat}:x∈nx w K s L↔∃e,e∈L∧DK w K s e x:=by
 cases hT:isT s with
 |true=>rw [F9 hT];exact mw.trans (exists_congr fun _=>and_congr_right fun _=>⟨fun h=>.inl ⟨hT,h⟩,fun h=>h.elim (fun h=>h.2) fun h=>nomatch h.1.symm.trans hT⟩)
 |false=>rw [Gl hT];exact ia.trans ⟨fun h=>h.elim nofun fun h=>h.imp fun _ h=>⟨h.1,.inr ⟨hT,h.2⟩⟩,fun h=>.inr (h.imp fun _ h=>⟨h.1,h.2.elim (fun h=>nomatch h.1.symm.trans hT) fun h=>h.2⟩)⟩
theorem pQ(B:KB w K):∀{r:List Nm} {L:List Nat},(∀s,s∈r→okN s)→Ends w L→Ends w (r.foldl (fun L s=>nx w K s L) L)
 |[],_,_,h=>h
 |s::r,_,hr,h=>pQ (r:=r) B (fun s hs=>hr s (.tail _ hs)) (BR B (hr s (.head _)) h)
theorem yJ:∀{r:List Nm} {L:List Nat} {x:Nat},x∈r.foldl (fun L s=>nx w K s L) L↔∃i,i∈L∧aY (DK w K) r i x
 |[],L,x=>⟨fun h=>⟨x,h,rfl⟩,fun h=>h.elim fun i h=>h.2▸h.1⟩
 |s::r,L,x=>(yJ (r:=r)).trans ⟨fun h=>h.elim fun k h=>(yO.mp h.1).elim fun e y=>⟨e,y.1,k,y.2,h.2⟩,fun h=>h.elim fun i h=>h.2.elim fun k y=>⟨k,yO.mpr ⟨i,h.1,y.1⟩,y.2⟩⟩
theorem jV{r:List Nm}{i e:Nat}:e∈dG w K r i↔aY (DK w K) r i e:=yJ.trans ⟨fun h=>h.elim fun k h=>List.mem_singleton.mp h.1▸h.2,fun h=>⟨i,.head _,h⟩⟩
end
structure qN(es:List (V×V))(w:List Nm)(K:Kn):Prop where
 keys:∀e∈es,isAtoms e.1=true
 at_:∀X i,X∈NN→i≤w.length→(aE es (.tup [.str X,.int i])).getD (.lst [])=.lst ((K X i).map bU)
section
variable{n:Nat}{H:Hp}{Q:Option V→Hp→Prop}{w:List Nm}{K:Kn}
theorem kM{e:Nat}{L:List Nat}:bU e∈L.map bU↔e∈L:=⟨fun h=>(List.mem_map.mp h).elim fun x hx=>Int.ofNat.inj (V.int.inj hx.2)▸hx.1,fun h=>List.mem_map.mpr ⟨e,h,rfl⟩⟩
theorem u6{L:List Nat}:∀x∈L.map bU,pk true 6 x=true:=fun x hx=>(List.mem_map.mp hx).elim fun e y=>y.2▸rfl
theorem wk{H' H2:Hp}{v:V}{l:List V}{c:Addr}{o:bL}(h:listOf H' v=some l)(hc:H' c=none)(E:Ext H' H2):Still v (upd H' c o) H2:=(gT h).elim (fun e=>e▸trivial) fun x=>x.elim fun b x=>x.1▸(E _ _ x.2).trans ((aq (ah hc x.2)).trans x.2).symm
end
end Mine.L
end
section
namespace Mine.L
open PySem (Addr)
open scoped Classical
section
variable{n:Nat}{H:Hp}{F:Fn}{Q:PV}{P:Bool→Hp→Prop}
theorem gx{n:Nat}{f:String}{vs:List V}{xs:List String}{ss:List MS}{Q:Option V→Hp→Prop}(e1:fills.lookup (f,vs.length,[])=none)(e0:(f !="law")=true)(e2:bodies f=some (xs,ss))(e3:(xs.length==vs.length)=true)(q:aO (wpF bodies n) ss (fun x=>(xs.zip vs).lookup x) H (vQ Q)) :
  aH (wpF bodies (n+1)) f vs [] [] H Q:=by
 unfold aH;rw [e1];show cond (f !="law") _ False;rw [e0];show onS (bodies f) _;rw [e2];show cond (xs.length==vs.length) _ _;rw [e3];exact q
theorem bS{l:Lit}{ρ:Env}(q:Q l.v H):wpE F (.lit l) ρ H Q:=q
theorem CY{i j:Int}(h1:i<j→Q (.bool true) H)(h2:¬i<j→Q (.bool false) H):iu .lt (.int i) (.int j) H Q:=by
 show Q (.bool (decide (i<j))) H
 by_cases h:i<j
 ·exact (decide_eq_true h).symm▸h1 h
 ·exact (decide_eq_false h).symm▸h2 h
theorem uI{i j:Int}(h1:j<i→Q (.bool true) H)(h2:¬j<i→Q (.bool false) H):iu .gt (.int i) (.int j) H Q:=CY h1 h2
theorem C3(k:Bool){a b:V}(ha:pk k 6 a=true)(hb:pk k 6 b=true)(h1:a=b→Q (.bool true) H)(h2:a≠b→Q (.bool false) H):iu .eq a b H Q:=by
 refine .mk k ha hb ?_
 by_cases h:a=b
 ·exact (decide_eq_true h).symm▸h1 h
 ·exact (decide_eq_false h).symm▸h2 h
theorem fy{a b:V}{l:List V}{k:Bool}(hl:listOf H b=some l)(ha:pk k 6 a=true)(hx:∀x∈l,pk k 6 x=true)(h1:a∈l→P true H)(h2:a∉l→P false H):InW H P a b:=by
 refine .seq hl ha hx ?_
 by_cases h:a∈l
 ·exact (decide_eq_true h).symm▸h1 h
 ·exact (decide_eq_false h).symm▸h2 h
theorem Jb{s:Nm}(h:okN s)(hT:isT s=true)(q:P true H):InW H P (.str s) (.str (cps "xyz")):=lH h (hT.symm▸q)
theorem Jc{s:Nm}(h:okN s)(hT:isT s=false)(q:P false H):InW H P (.str s) (.str (cps "xyz")):=lH h (hT.symm▸q)
end
theorem Cc{w:List Nm}{s:Nm}{a b L:List Nat}{e:Nat}(h:L=a++e::b):((a.filterMap (stepT w s)).map bU).length≤L.length:=by
 rw [h,List.length_map,List.length_append]
 exact Nat.le_trans (List.length_filterMap_le ..) (Nat.le_add_right ..)
theorem vA{M K:List Nat}:M.filterMap (fun x=>if x∈K then none else some (bU x))=(M.filter fun x=>x∉K).map bU:=by
 induction M with
 |nil=>rfl
 |cons y M ih=>by_cases hy:y∈K<;>simp [hy,ih]
theorem nZ{H:Hp}{x:Nat}{L:List Nat}{v:V}{R:Option V→Hp→Prop}(hv:listOf H v=some (L.map bU))(h:R (if x∈L then none else some (bU x)) H) :
  iu .notin (bU x) v H fun v H'=>onS (truth H' v) fun b=>cond b (R (some (bU x)) H') (R none H'):=by
 refine fy (k:=true) hv rfl u6 (fun m=>?_) fun m=>?_
 ·rw [if_pos (kM.mp m)] at h;exact h
 ·rw [if_neg fun e=>m (kM.mpr e)] at h;exact h
section
variable{n:Nat}{H:Hp}{Q:Option V→Hp→Prop}{w:List Nm}{K:Kn}
theorem E2{d:Addr}{es:List (V×V)}{ep:Nat}{r:List Nm}{i:Nat}(hd:H d=some (.dict es ep))(KR:qN es w K)(B:KB w K)(hw:w.length≤10)(hr:∀s∈r,okN s)(hi:i≤w.length)
  (q:∀v H',Ext H H'→listOf H' v=some ((dG w K r i).map bU)→Q (some v) H'):aH (wpF bodies (n+1)) "_law_over" [.ref d,.lst (w.map .str),.lst (r.map .str),.int i] [] [] H Q:=by
 have hbig:∀{L:List Nat},Ends w L→L.length≤11:=fun h=>Nat.le_trans h.len (Nat.succ_le_succ hw)
 have hwl:(w.map V.str).length=w.length:=List.length_map ..
 have hwb:(w.map V.str).length≤big:=by rw [hwl];exact aF hw
 refine bD (l:=r) (g:=V.str) (fun a ρ H'=>∃v,Ext H H'∧ρ "known"=some (.ref d)∧ρ "word"=some (.lst (w.map .str))∧ρ "ends"=some v∧listOf H' v=some ((dG w K a i).map bU)) (bk rfl) ⟨_,.refl H,rfl,rfl,rfl,rfl⟩ (fun _ _ _ _=>trivial) (fun a s b ρ H' Kt Qt hab h hK=>qL h fun v hE h1 h2 h3 h4 c hc=>?_)
  fun ρ H' h=>qL h fun v hE _ _ h3 h4=>aa h3 (q v H' hE h4)
 have hs:okN s:=hr s (by rw [hab];exact List.mem_append_right _ (.head _))
 have hL:Ends w (dG w K a i):=pQ B (fun s hs=>hr s (by rw [hab];exact List.mem_append_left _ hs)) ⟨List.nodup_cons.mpr ⟨List.not_mem_nil,.nil⟩,fun e he=>List.mem_singleton.mp he▸hi⟩
 have hnx:dG w K (a++[s]) i=nx w K s (dG w K a i):=List.foldl_append
 generalize dG w K a i=L at h4 hL hnx
 have hc':=hE.none hc
 have hE1:Ext H' (upd H' c (.list [])):=(Ext.refl H').new hc
 cases hT:isT s with
 |true =>
  refine aa h3 (bD (l:=L) (g:=bU) (fun a' ρ2 H2=>Ext H' H2∧ρ2 "known"=some (.ref d)∧ρ2 "word"=some (.lst (w.map .str))∧ρ2 "item"=some (.str s)∧ρ2 "after"=some (.ref c)∧H2 c=some (.list ((a'.filterMap (stepT w s)).map bU))) (bk (l6 h4 hE1)) ⟨hE1,h1,h2,rfl,rfl,aj _ _ _⟩
   (fun a' ρ2 H2 h=>wk h4 hc h.1) (fun a' e b' ρ2 H2 K2 Q2 hab' h hK2=>vP h fun g2 g3 g4 g5 g6 g7=>aa rfl (aa g5 (Jb hs hT ?_))) fun ρ2 H2 h=>vP h fun g2 g3 g4 g5 g6 g7=>aa g6 (hK _ _ ⟨_,hE.trans g2,g3,g4,rfl,?_⟩))
  ·have hno:stepT w s e=none→K2 (put ρ2 "end" (bU e)) H2:=fun h=>hK2 _ _ ⟨g2,g3,g4,g5,g6,by rw [g7,List.filterMap_append,List.filterMap_cons_none h,List.filterMap_nil,List.append_nil]⟩
   refine aa rfl (aa g4 (fq rfl hwb (CY (fun he=>?_) fun he=>aa rfl (hno ?_))))
   ·have he:e<w.length:=hwl▸Int.ofNat_lt.mp he
    have hst:∀x,w[e]=x→w[e]?=some x:=fun x h=>h▸List.getElem?_eq_getElem he
    refine aa rfl (aa g4 (dW rfl (by rw [List.getElem?_map,hst _ rfl];rfl) (aF (Nat.le_trans (Nat.le_of_lt he) hw)) (aa g5 (C3 true rfl rfl (fun h=>aa rfl (aa g6 ⟨.append g7,.add (.append g7 (aF (Nat.le_trans (Cc hab') (hbig hL))) (aa rfl (hK2 _ _ ⟨g2.new hc,g3,g4,g5,g6,(aj ..).trans ?_⟩)))⟩)) fun h=>aa rfl (hno ?_)))))
    ·rw [List.filterMap_append,List.filterMap_cons_some (iI.mpr ⟨hst _ (V.str.inj h),rfl⟩),List.map_append];rfl
    ·exact if_neg fun h'=>h (congrArg V.str (Option.some.inj ((hst _ rfl).symm.trans h')))
   ·exact if_neg fun h'=>he (hwl.symm▸Int.ofNat_lt.mpr (List.getElem?_eq_some_iff.mp h').1)
  ·rw [hnx,nx,if_pos hT];exact iB g7
 |false =>
  have hN:s∈NN:=iQ hs hT
  have hx:=fun e (he:e∈L)=>B s e hN (hL.le e he)
  refine aa h3 (bD (l:=L) (g:=bU) (fun a' ρ2 H2=>∃u,H2=upd H' c (.list [])∧ρ2 "known"=some (.ref d)∧ρ2 "word"=some (.lst (w.map .str))∧ρ2 "item"=some (.str s)∧ρ2 "after"=some u∧listOf H2 u=some ((a'.foldl (kc K s) []).map bU)) (bk (l6 h4 hE1)) ⟨.ref c,rfl,h1,h2,rfl,rfl,iB (aj _ _ _)⟩
   (fun a' ρ2 H2 h=>DB h fun u g2 g3 g4 g5 g6 g7=>g2.symm▸iH) (fun a' e b' ρ2 H2 K2 Q2 hab' h hK2=>DB h fun u g2 g3 g4 g5 g6 g7=>aa rfl (aa g5 (Jc hs hT (aa rfl (aa g6 (.intro (fun c hc=>List.mem_singleton.mp hc▸Option.isSome_iff_exists.mpr ⟨u,g6⟩) (aa g3 ⟨.get (g2▸hE1 _ _ (hE _ _ hd)),aa g5 (.get (g2▸hE1 _ _ (hE _ _ hd)) rfl KR.keys ?_)⟩))))))) fun ρ2 H2 h=>DB h fun u g2 g3 g4 g5 g6 g7=>aa g6 (hK _ _ ⟨u,g2▸hE.trans hE1,g3,g4,rfl,?_⟩))
  ·have he:e∈L:=by rw [hab'];exact List.mem_append_right _ (.head _)
   have hA:∀y,y∈a'→y∈L:=fun y h=>by rw [hab'];exact List.mem_append_left _ h
   have hAe:=hbig (⟨gG List.nodup_nil fun x h=>(hx x (hA x h)).1,fun x h=>(ia.mp h).elim (fun h'=>nomatch h') fun h=>ao h fun y h1 h2=>(hx y (hA y h1)).2 x h2⟩:Ends w (a'.foldl (kc K s) []))
   have hKe:=hbig (⟨(hx e he).1,(hx e he).2⟩:Ends w (K s e))
   rw [KR.at_ s e hN (hL.le e he)]
   refine gD bU (fun x=>if x∈a'.foldl (kc K s) [] then none else some (bU x)) (bk rfl) (aF hKe) (fun x _ K' hK'=>aa rfl (aa g6 (nZ g7 hK'))) ?_
   rw [vA]
   refine .addl g7 rfl ?_ (hK2 _ _ ⟨_,g2,g3,g4,g5,rfl,?_⟩)
   ·rw [List.length_map,List.length_map];exact aF (Nat.add_le_add hAe (Nat.le_trans (List.length_filter_le ..) hKe))
   ·rw [List.foldl_append,←List.map_append];rfl
  ·rw [hnx,nx,if_neg (hT▸nofun)];exact g7
end
end Mine.L
end
section
namespace Mine.L
open PySem (Addr)
open scoped Classical
structure KIn(es:List (V×V))(U:List V):Prop where
 nd:(es.map (·.1)).Nodup
 sub:∀e∈es,e.1∈U
theorem KIn.nil{U:List V}:KIn [] U:=⟨.nil,nofun⟩
theorem KIn.len{es:List (V×V)}{U:List V}(h:KIn es U):es.length≤U.length:=Nat.le_trans (Nat.le_of_eq (List.length_map _).symm) (bO (l:=es.map (·.1)) h.nd fun _ hx=>(List.mem_map.mp hx).elim fun e y=>y.2▸h.sub e y.1)
theorem KIn.dput{es:List (V×V)}{U:List V}(h:KIn es U){k v:V}(hk:k∈U):KIn (dput es k v) U:=by
 refine ⟨?_,bF (p:=fun x=>x∈U) hk h.sub⟩
 delta Mine.dput
 by_cases hn:(aE es k).isSome=true
 ·rw [if_pos hn,List.map_map,show ((fun e:V×V=>e.1)∘fun e=>if e.1=k then (e.1,v) else e)=fun e=>e.1 from funext fun e=>by by_cases q:e.1=k<;>simp [q]]
  exact h.nd
 ·rw [if_neg hn,List.map_append]
  refine List.nodup_append.mpr ⟨h.nd,List.nodup_cons.mpr ⟨List.not_mem_nil,.nil⟩,fun a ha b hb e=>hn ?_⟩
  exact (List.mem_map.mp ha).elim fun x hx=>(jC ⟨x,hx.1,hx.2.trans (e.trans (List.mem_singleton.mp hb))⟩).elim fun v h=>h▸rfl
section
variable{w:List Nm}{K:Kn}{R:List av}
theorem jd{D D':Rel}:∀{r:List Nm} {i j:Nat},(∀s,s∈r→∀a b,a≤w.length→D s a b→b≤w.length∧D' s a b)→i≤w.length→aY D r i j→j≤w.length∧aY D' r i j
 |[],_,_,_,hi,x=>⟨x▸hi,x⟩
 |s::_,_,_,h,hi,x=>x.elim fun k x=>have h1:=h s (.head _) _ _ hi x.1;have h2:=jd (fun s m=>h s (.tail _ m)) h1.1 x.2;⟨h2.1,k,h1.2,h2.2⟩
theorem sQ{s:Nm}{i j:Nat}(x:trm w s i j):j≤w.length:=x.2.2▸n6 x.2.1
theorem tD:∀{h:Nat} {X:Nm} {i j:Nat},i≤w.length→der R w h X i j→j≤w.length
 |0,_,_,_,_,x=>sQ x
 |h+1,_,_,_,hi,x=>x.elim sQ fun x=>x.elim fun r x=>(jd (D':=der R w h) (fun s _ a b ha y=>⟨tD ha y,y⟩) hi x.2).1
theorem HW(hw:WF R){s:Nm}(hT:isT s=true):∀{h:Nat} {i j:Nat},der R w h s i j→trm w s i j
 |0,_,_,x=>x
 |_+1,_,_,x=>x.elim id fun x=>x.elim fun r x=>nomatch (c6 (hw _ x.1).1).symm.trans hT
def Inc(w:List Nm)(K:Kn)(D:Rel):Prop:=∀X i e,X∈NN→i≤w.length→D X i e→e∈K X i
def Snd(R:List av)(w:List Nm)(K:Kn):Prop:=∀X i e,X∈NN→i≤w.length→e∈K X i→Der R w X i e
theorem EN(hw:WF R){t:Nat}(h:Inc w K (der R w t)){s:Nm}(hs:okN s){a b:Nat}(ha:a≤w.length)(y:der R w t s a b):DK w K s a b:=by
 cases hT:isT s with
 |true=>exact .inl (HW hw hT y)
 |false=>exact .inr ⟨hT,h s a b (iQ hs hT) ha y⟩
theorem rF(hw:WF R){t:Nat}(h:Inc w K (der R w t)){r:av}(hr:r∈R){i e:Nat}(hi:i≤w.length)(x:aY (der R w t) r.2 i e):aY (DK w K) r.2 i e :=
 (jd (fun s hs a b ha y=>⟨tD ha y,EN hw h ((hw r hr).2.2 s hs) ha y⟩) hi x).2
theorem y9(hw:WF R)(h:∀r i e,r∈R→i≤w.length→aY (DK w K) r.2 i e→e∈K r.1 i):∀t,Inc w K (der R w t)
 |0,_,_,_,hX,_,x=>nomatch (c6 hX).symm.trans x.1
 |t+1,X,i,e,hX,hi,x=>x.elim (fun x=>nomatch (c6 hX).symm.trans x.1) fun x=>x.elim fun r x=>h _ i e x.1 hi (rF hw (y9 hw h t) x.1 hi x.2)
noncomputable def upK(K:Kn)(X:Nm)(i:Nat)(L:List Nat):Kn:=fun Y j=>if Y=X∧j=i then L else K Y j
theorem iT{X Y:Nm}{i j:Nat}{L:List Nat}{P:Nm→Nat→List Nat→Prop}(h1:P X i L)(h2:¬(Y=X∧j=i)→P Y j (K Y j)):P Y j (upK K X i L Y j):=by
 delta upK
 by_cases h:Y=X∧j=i
 ·rw [if_pos h,h.1,h.2];exact h1
 ·rw [if_neg h];exact h2 h
theorem zo{X:Nm}{i:Nat}{L:List Nat}:upK K X i L X i=L:=if_pos ⟨rfl,rfl⟩
noncomputable def Bb(w:List Nm):List V:=NN.flatMap fun X=>(List.range (w.length+1)).map fun i:Nat=>V.tup [.str X,.int i]
theorem Au{X:Nm}{i:Nat}(hX:X∈NN)(hi:i≤w.length):V.tup [.str X,.int i]∈Bb w:=List.mem_flatMap.mpr ⟨X,hX,List.mem_map.mpr ⟨i,List.mem_range.mpr (Nat.lt_succ_of_le hi),rfl⟩⟩
theorem jm{α β:Type}{f:α→List β}{m:Nat}(h:∀x,(f x).length≤m):∀l:List α,(l.flatMap f).length≤l.length*m
 |[]=>Nat.zero_le _
 |x::l=>by simpa only [List.flatMap_cons,List.length_append,List.length_cons,Nat.succ_mul,Nat.add_comm] using Nat.add_le_add (jm h l) (h x)
theorem Av:(Bb w).length≤15*(w.length+1):=jm (fun X=>by simpa only [List.length_map,List.length_range] using Nat.le_refl _) NN
theorem qN.put{es:List (V×V)}(h:qN es w K){X:Nm}{i:Nat}{L:List Nat}:qN (dput es (.tup [.str X,.int i]) (.lst (L.map bU))) w (upK K X i L):=by
 refine ⟨bF (p:=fun x=>isAtoms x=true) rfl h.keys,fun Y j hY hj=>?_⟩
 refine (iM)▸?_
 refine iT (P:=fun Y j M=>(if V.tup [.str X,.int i]=V.tup [.str Y,.int j] then some (V.lst (L.map bU)) else aE es (.tup [.str Y,.int j])).getD (.lst [])=.lst (M.map bU)) (by refine (if_pos rfl)▸?_;rfl) fun e=>?_
 rw [if_neg fun e'=>e (by injection e' with e';injection e' with e1 e2;injection e2 with e2;exact ⟨(V.str.inj e1).symm,(Int.ofNat.inj (V.int.inj e2)).symm⟩)]
 exact h.at_ Y j hY hj
structure RSt(R:List av)(w:List Nm)(t:Nat)(H0 H:Hp)(d:Addr)(K:Kn)(m:Bool)(dn:av→Nat→Prop):Prop where
 hd:∃es ep,H d=some (.dict es ep)∧qN es w K∧KIn es (Bb w)
 B:KB w K
 inc:Inc w K (der R w t)
 snd:Snd R w K
 ext:Ext H0 H
 hdn:∀r i e,dn r i→aY (der R w t) r.2 i e→e∈K r.1 i
 hcl:m=false→∀r i e,dn r i→aY (DK w K) r.2 i e→e∈K r.1 i
variable{t:Nat}{H0 H:Hp}{d:Addr}{m:Bool}{dn:av→Nat→Prop}
theorem RSt.imp(S:RSt R w t H0 H d K m dn){dn':av→Nat→Prop}(h:∀r i,dn' r i→dn r i):RSt R w t H0 H d K m dn':={ S with hdn:=fun r i e g=>S.hdn r i e (h r i g),hcl:=fun hm r i e g=>S.hcl hm r i e (h r i g) }
theorem RSt.le{H':Hp}(S:RSt R w t H0 H d K m dn)(e:Ext H H'):RSt R w t H0 H' d K m dn:={ S with hd:=aP S.hd fun es ep h1 h2 h3=>⟨es,ep,e _ _ h1,h2,h3⟩,ext:=S.ext.trans e }
section
variable{r:av}{i:Nat}
theorem RSt.over(S:RSt R w t H0 H d K m dn)(hw:WF R)(hr:r∈R)(hi:i≤w.length){e:Nat}(x:aY (der R w t) r.2 i e):e∈dG w K r.2 i:=jV.mpr (rF hw S.inc hr hi x)
theorem RSt.sound(S:RSt R w t H0 H d K m dn)(hw:WF R)(hr:r∈R)(hi:i≤w.length){e:Nat}(he:e∈dG w K r.2 i):Der R w r.1 i e :=
 .mk (r:=r.2) hr (jd (D':=Der R w) (fun s hs a b ha y=>y.elim (fun y=>⟨sQ y,0,y⟩) fun y=>have z:=S.snd s a b (iQ ((hw r hr).2.2 s hs) y.1) ha y.2;⟨z.elim fun _ z=>tD ha z,z⟩) hi (jV.mp he)).2
theorem RSt.none(S:RSt R w t H0 H d K m dn)(hw:WF R)(hr:r∈R)(hi:i≤w.length)(hn:∀e,e∈dG w K r.2 i→e∈K r.1 i):RSt R w t H0 H d K m fun r' j=>dn r' j∨(r'=r∧j=i) :=
 { S with hdn:=fun r' j e h x=>h.elim (fun h=>S.hdn r' j e h x) fun h=>by rw [h.1,h.2] at x ⊢;exact hn e (S.over hw hr hi x),hcl:=fun hm r' j e h x=>h.elim (fun h=>S.hcl hm r' j e h x) fun h=>by rw [h.1,h.2] at x ⊢;exact hn e (jV.mpr x) }
theorem RSt.put(S:RSt R w t H0 H d K m dn)(hw:WF R)(hr:r∈R)(hi:i≤w.length)(h0:H0 d=Option.none)(hE:Ends w (dG w K r.2 i)){es:List (V×V)}{ep':Nat}(hrep:qN es w K)(hk:KIn es (Bb w)) :
  RSt R w t H0 (upd H d (.dict (dput es (.tup [.str r.1,.int i]) (.lst ((yf (K r.1 i) (dG w K r.2 i)).map bU))) ep')) d (upK K r.1 i (yf (K r.1 i) (dG w K r.2 i))) true fun r' j=>dn r' j∨(r'=r∧j=i) where
 hd:=⟨_,_,aj _ _ _,hrep.put,hk.dput (Au (hw r hr).1 hi)⟩
 B:=fun Y j hY hj=>iT (P:=fun Y j M=>M.Nodup∧∀e∈M,e≤w.length) ⟨m6 (S.B _ _ (hw r hr).1 hi).1 hE.nd,fun e he=>(eU.mp he).elim ((S.B _ _ (hw r hr).1 hi).2 e) (hE.le e)⟩ fun _=>S.B Y j hY hj
 inc:=fun Y j e hY hj y=>iT (P:=fun Y j M=>der R w t Y j e→e∈M) (fun y=>eU.mpr (.inl (S.inc _ _ e (hw r hr).1 hi y))) (fun _=>S.inc Y j e hY hj) y
 snd:=fun Y j e hY hj y=>iT (P:=fun Y j M=>e∈M→Der R w Y j e) (fun y=>(eU.mp y).elim (S.snd _ _ e (hw r hr).1 hi) (S.sound hw hr hi)) (fun _=>S.snd Y j e hY hj) y
 ext:=S.ext.new h0
 hdn:=fun r' j e h x=>h.elim (fun h=>iT (P:=fun Y j M=>e∈K Y j→e∈M) (fun y=>eU.mpr (.inl y)) (fun _=>id) (S.hdn r' j e h x)) fun h=>by
  rw [h.1,h.2] at x ⊢
  rw [zo];exact eU.mpr (.inr (S.over hw hr hi x))
 hcl:=nofun
end
end
theorem C0{H:Hp}{Q:PV}{d:Addr}{es:List (V×V)}{ep:Nat}{w:List Nm}{K:Kn}{X:Nm}{i:Nat}(he:H d=some (.dict es ep))(hr:qN es w K)(hX:X∈NN)(hi:i≤w.length)(q:Q (.lst ((K X i).map bU)) H):BmW H Q (.ref d) [.tup [.str X,.int i],.lst []] .get:=.get he rfl hr.keys ((hr.at_ X i hX hi).symm▸q)
structure DG(R:List av)(w:List Nm)(d:Addr)(ρ:Env):Prop where
 k:ρ "known"=some (.ref d)
 r:ρ "rules"=some (.lst (R.map bu))
 w:ρ "word"=some (.lst (w.map .str))
theorem Cj{n:Nat}{H:Hp}{Q:Option V→Hp→Prop}{w:List Nm}{R:List av}(hw:WF R)(hl:R.length≤big)(hwl:w.length≤10)
  (q:∀d H' es ep K,Ext H H'→H' d=some (.dict es ep)→qN es w K→KB w K→Snd R w K→Inc w K (der R w 60)→Q (some (.ref d)) H'):aH (wpF bodies (n+2)) "_law_reach" [.lst (R.map bu),.lst (w.map .str)] [] [] H Q:=by
 intro ep0 d hd
 have fin:∀{t:Nat} {m:Bool} {dn:av→Nat→Prop} {H':Hp} {K:Kn},RSt R w t H H' d K m dn→Inc w K (der R w 60)→Q (some (.ref d)) H':=fun S hinc=>aP S.hd fun es ep h1 h2 h3=>q d _ es ep _ S.ext h1 h2 S.B S.snd hinc
 refine BiW.range ⟨(of_decide_eq_true rfl),(of_decide_eq_true rfl)⟩ (vq (l:=List.range 60) (g:=bU) (fun a ρ H'=>∃K,DG R w d ρ∧RSt R w a.length H H' d K true fun _ _=>False) (i6 (m:=60)) ⟨fun _ _=>[],⟨rfl,rfl,rfl⟩,?_⟩ (fun _ _ _ _=>trivial) (fun a turn b ρ H' Kt Qt hQ hab h hK=>ao h fun K E S=>?_) fun ρ H' h=>ao h fun K E S=>aa E.k (fin S S.inc))
 ·exact { hd:=⟨[],ep0,aj _ _ _,⟨nofun,fun _ _ _ _=>rfl⟩,.nil⟩,B:=fun _ _ _ _=>⟨.nil,nofun⟩,inc:=fun X i e hX _ x=>(nomatch (c6 hX).symm.trans x.1),snd:=fun _ _ _ _ _=>nofun,ext:=(Ext.refl H).new hd,hdn:=fun _ _ _=>nofun,hcl:=nofun }
 refine aa rfl (aa E.r (bD (l:=R) (g:=bu) (fun a' ρ H'=>∃K m,DG R w d ρ∧ρ "more"=some (.bool m)∧RSt R w a.length H H' d K m fun r i=>r∈a'∧i≤w.length) (bk rfl) ⟨K,false,⟨E.k,E.r,E.w⟩,rfl,{ S with hdn:=fun _ _ _ h=>(nomatch h.1),hcl:=fun _ _ _ _ h=>(nomatch h.1) }⟩ (fun _ _ _ _=>trivial) (fun a' r b' ρ H' K2 Q2 hab' h hK2=>aP h fun K m E hm S=>?_) fun ρ H' h=>aP h fun K m E hm S=>?_))
 ·have hr:r∈R:=by rw [hab'];exact List.mem_append_right _ (.head _)
  refine aa rfl (aa E.w (fq rfl (by rw [List.length_map];exact aF hwl) (.add (.range ⟨Int.natCast_nonneg (_+1),Int.ofNat_le.mpr (by rw [List.length_map];exact aF (Nat.succ_le_succ hwl))⟩ (bD (l:=List.range ((w.map V.str).length+1)) (g:=bU)
   (fun b ρ H'=>∃K m,DG R w d ρ∧ρ "left"=some (.str r.1)∧ρ "right"=some (.lst (r.2.map .str))∧ρ "more"=some (.bool m)∧RSt R w a.length H H' d K m fun r' i=>(r'∈a'∧i≤w.length)∨(r'=r∧i∈b)) i6 ⟨K,m,⟨E.k,E.r,E.w⟩,rfl,rfl,hm,S.imp fun _ _ h=>h.resolve_right fun h=>nomatch h.2⟩ (fun _ _ _ _=>trivial)
   (fun b i c ρ H' K3 Q3 hbi h hK3=>qJ h fun K m E hL hRr hm S=>aP S.hd fun es ep he hrep hkin=>?_) fun ρ H' h=>qJ h fun K m E hL hRr hm S=>hK2 _ _ ⟨K,m,E,hm,S.imp fun r' i h=>(List.mem_append.mp h.1).elim (fun g=>.inl ⟨g,h.2⟩) fun g=>.inr ⟨List.mem_singleton.mp g,List.mem_range.mpr (by rw [List.length_map];exact Nat.lt_succ_of_le h.2)⟩⟩)))))
  have hi:i≤w.length:=by
   have:=List.mem_range.mp (hbi▸List.mem_append_right b (.head c):i∈List.range ((w.map V.str).length+1))
   rw [List.length_map] at this;exact Nat.le_of_lt_succ this
  have hends:Ends w (dG w K r.2 i):=pQ S.B (hw r hr).2.2 ⟨List.nodup_cons.mpr ⟨List.not_mem_nil,.nil⟩,fun e he=>List.mem_singleton.mp he▸hi⟩
  have hdn:∀{A:av→Nat→Prop} r' j,(A r' j∨(r'=r∧j∈b++[i]))→(A r' j∨(r'=r∧j∈b))∨(r'=r∧j=i):=fun r' j h=>h.elim (fun h=>.inl (.inl h)) fun h=>(List.mem_append.mp h.2).elim (fun g=>.inl (.inr ⟨h.1,g⟩)) fun g=>.inr ⟨h.1,List.mem_singleton.mp g⟩
  refine aa rfl (aa E.k ⟨.get he,aa hL (C0 he hrep (hw r hr).1 hi (.intro (List.forall_mem_singleton.mpr rfl) (aa E.k (aa E.w (aa hRr (E2 he hrep S.B hwl (hw r hr).2.2 hi fun v H2 e2 hv=>gD (l:=dG w K r.2 i) bU (fun x=>if x∈K r.1 i then none else some (bU x)) (bk hv) (aF (Nat.le_trans hends.len (Nat.succ_le_succ hwl))) (fun x _ K' hK'=>aa rfl (nZ rfl hK')) ?_))))))⟩)
  refine (vA)▸?_
  refine fq rfl (by rw [List.length_map];exact aF (Nat.le_trans (List.length_filter_le ..) (Nat.le_trans hends.len (Nat.succ_le_succ hwl)))) (bS (uI (fun h=>aa rfl (.addl rfl rfl (by simpa only [List.length_map] using aF (Nat.add_le_add (Nat.le_trans (Ends.len ⟨(S.B _ _ (hw r hr).1 hi).1,(S.B _ _ (hw r hr).1 hi).2⟩) (Nat.succ_le_succ hwl)) (Nat.le_trans (List.length_filter_le ..) (Nat.le_trans hends.len (Nat.succ_le_succ hwl))))) ?_)) fun h=>aa rfl (hK3 _ _ ⟨K,m,⟨E.k,E.r,E.w⟩,hL,hRr,hm,((S.le e2).none hw hr hi fun e he=>Classical.byContradiction fun hn=>h ?_).imp hdn⟩)))
  ·exact (List.map_append)▸aa E.k (aa hL (.dict (e2 _ _ he) (.inr ⟨rfl,hrep.keys⟩) (Nat.le_trans hkin.len (Nat.le_trans Av (aF (Nat.mul_le_mul_left 15 (Nat.succ_le_succ hwl))))) fun ep3=>hK3 _ _ ⟨_,true,⟨E.k,E.r,E.w⟩,hL,hRr,rfl,((S.le e2).put hw hr hi hd hends hrep hkin).imp hdn⟩))
  ·rw [List.length_map];exact Int.natCast_pos.mpr (List.length_pos_of_mem (List.mem_filter.mpr ⟨he,decide_eq_true hn⟩))
 ·refine aa hm (aa rfl (aa rfl ?_))
  cases m with
  |false=>exact aa E.k (hQ _ _ _ (fin S (y9 hw (fun r i e hr hi=>S.hcl rfl r i e ⟨hr,hi⟩) 60)))
  |true=>exact hK _ _ ⟨K,E,by
    exact (List.length_append)▸{ S with inc:=fun X i e hX hi x=>x.elim (fun x=>(nomatch (c6 hX).symm.trans x.1)) fun x=>x.elim fun r x=>S.hdn (X,r) i e ⟨x.1,hi⟩ x.2,hdn:=fun _ _ _=>nofun,hcl:=nofun }⟩
end Mine.L
end
section
namespace Mine.L
open PySem (Addr)
open scoped Classical
set_option genCtorIdx true in
inductive Ty
 |ml
 |st (U:List V)
 |dic (K:V→Prop) (τ:Ty)
noncomputable abbrev Tys:=Addr→Option Ty
inductive Has(T:Tys)(c:Nat):Ty→bL→Prop
 |ml {l:List V} (h:l.length≤c):Has T c .ml (.list l)
 |st {U es:List V} {k:aK} (h:es.Nodup) (hs:∀e,e∈es→e∈U):Has T c (.st U) (.set es k)
 |dic {K:V→Prop} {τ:Ty} {es:List (V×V)} {ep:Nat} (h:es.length≤c) (hs:∀e,e∈es→K e.1∧∃b,e.2=.ref b∧T b=some τ):Has T c (.dic K τ) (.dict es ep)
def WT(T:Tys)(c:Nat)(H:Hp):Prop:=∀b τ,T b=some τ→∃o,H b=some o∧Has T c τ o
noncomputable def tyS(T:Tys)(b:Addr)(τ:Ty):Tys:=fun x=>if x=b then some τ else T x
structure Fr(H:Hp)(T:Tys)(H':Hp)(T':Tys):Prop where
 k:∀b o,H b=some o→T b=none→H' b=some o∧T' b=none
 m:∀b τ,T b=some τ→T' b=some τ
section
variable{H H' H2:Hp}{T T' T2:Tys}{c c':Nat}{b:Addr}{o:bL}{τ:Ty}
theorem Fr.refl:Fr H T H T:=⟨fun _ _ h h'=>⟨h,h'⟩,fun _ _ h=>h⟩
theorem Fr.trans(f:Fr H T H' T')(g:Fr H' T' H2 T2):Fr H T H2 T2:=⟨fun b o h h'=>g.k b o (f.k b o h h').1 (f.k b o h h').2,fun b τ h=>g.m b τ (f.m b τ h)⟩
theorem fT{α:Type}{a:α}{x:Option α}{P:Prop}(h:x=none)(h':x=some a):P:=nomatch h.symm.trans h'
theorem WT.no(w:WT T c H)(h:H b=none):T b=none:=by
 cases e:T b with
 |none=>rfl
 |some τ=>exact ao (w b τ e) fun o h1 _=>fT h h1
theorem Has.le(h:Has T c τ o)(m:∀b τ,T b=some τ→T' b=some τ)(hc:c≤c'):Has T' c' τ o:=by
 cases h with
 |ml h=>exact .ml (Nat.le_trans h hc)
 |st h hs=>exact .st h hs
 |dic h hs=>exact .dic (Nat.le_trans h hc) fun e he=>⟨(hs e he).1,(hs e he).2.elim fun b x=>⟨b,x.1,m _ _ x.2⟩⟩
theorem WT.le(w:WT T c H)(hc:c≤c'):WT T c' H:=fun b τ h=>ao (w b τ h) fun o h1 h2=>⟨o,h1,h2.le (fun _ _ h=>h) hc⟩
theorem aR:tyS T b τ b=some τ:=if_pos rfl
theorem cY{x:Addr}(h:x≠b):tyS T b τ x=T x:=if_neg h
theorem CO{x:Addr}{σ:Ty}(h:T x=some σ)(h':T b=none):x≠b:=fun e=>fT h' (e▸h)
theorem fR(h:T b=none):∀x σ,T x=some σ→tyS T b τ x=some σ:=fun _ _ e=>(cY (CO e h)).trans e
theorem WT.upd(w:WT T c H)(hb:T b=some τ)(hc:c≤c')(ho:Has T c' τ o):WT T c' (upd H b o):=fun x σ h=>by
 by_cases e:x=b
 ·subst e;cases hb.symm.trans h;exact ⟨o,aj ..,ho⟩
 ·exact ao (w x σ h) fun o h1 h2=>⟨o,(aq e).trans h1,h2.le (fun _ _ h=>h) hc⟩
theorem Fr.upd(hb:T b=some τ):Fr H T (upd H b o) T:=⟨fun _ _ h h'=>⟨(aq fun e=>fT h' (e▸hb)).trans h,h'⟩,fun _ _ h=>h⟩
theorem WT.oth(w:WT T c H)(hb:T b=none):WT T c (Mine.upd H b o):=fun x σ h=>ao (w x σ h) fun o h1 h2=>⟨o,(aq (CO h hb)).trans h1,h2⟩
theorem WT.adopt(w:WT T c H)(hb:T b=none)(ho:H b=some o)(h:Has (tyS T b τ) c τ o):WT (tyS T b τ) c H:=fun x σ hx=>by
 by_cases e:x=b
 ·subst e;cases aR.symm.trans hx;exact ⟨o,ho,h⟩
 ·exact ao (w x σ ((cY e).symm.trans hx)) fun o h1 h2=>⟨o,h1,h2.le (fR hb) (Nat.le_refl _)⟩
theorem WT.new(w:WT T c H)(hb:H b=none)(ho:Has (tyS T b τ) c τ o):WT (tyS T b τ) c (Mine.upd H b o):=(w.oth (w.no hb)).adopt (w.no hb) (aj ..) ho
theorem Fr.new(w:WT T c H)(hb:H b=none):Fr H T (Mine.upd H b o) (tyS T b τ):=⟨fun _ _ h h'=>have n:=ah hb h;⟨(aq n).trans h,(cY n).trans h'⟩,fR (w.no hb)⟩
variable{K:V→Prop}{k v:V}{es:List (V×V)}{ep ep':Nat}{d:Addr}
theorem WT.dic(w:WT T c H)(hd:T d=some (.dic K τ)):∃es ep,H d=some (.dict es ep)∧es.length≤c∧∀e,e∈es→K e.1∧∃b,e.2=.ref b∧T b=some τ:=ao (w d _ hd) fun o h1 h2=>by cases h2 with | dic h hs=>exact ⟨_,_,h1,h,hs⟩
theorem WT.ml(w:WT T c H)(hd:T d=some .ml):∃l,H d=some (.list l)∧l.length≤c:=ao (w d _ hd) fun o h1 h2=>by cases h2 with | ml h=>exact ⟨_,h1,h⟩
theorem WT.st{U:List V}(w:WT T c H)(hd:T d=some (.st U)):∃es k,H d=some (.set es k)∧es.Nodup∧∀e,e∈es→e∈U:=ao (w d _ hd) fun o h1 h2=>by cases h2 with | st h hs=>exact ⟨_,_,h1,h,hs⟩
theorem oJ{es:List (V×V)}{k v:V}{p:V×V→Prop}(hk:∀k',k'=k→p (k',v))(h:∀e,e∈es→p e):∀e,e∈dput es k v→p e:=by
 intro e he
 delta dput at he
 by_cases c:(aE es k).isSome=true
 ·rw [if_pos c] at he
  refine (List.mem_map.mp he).elim fun x hx=>hx.2▸?_
  by_cases q:x.1=k
  ·rw [if_pos q];exact hk _ q
  ·rw [if_neg q];exact h x hx.1
 ·rw [if_neg c] at he
  exact (List.mem_append.mp he).elim (h e) fun he=>List.mem_singleton.mp he▸hk k rfl
theorem Has.put(h:es.length≤c)(hs:∀e,e∈es→K e.1∧∃b,e.2=.ref b∧T b=some τ)(hk:K k)(hb:T b=some τ):Has T (c+1) (.dic K τ) (.dict (dput es k (.ref b)) ep) :=
 .dic (Nat.le_trans dZ (Nat.succ_le_succ h)) (oJ (p:=fun e=>K e.1∧∃b,e.2=.ref b∧T b=some τ) (fun _ e=>⟨e.symm▸hk,b,rfl,hb⟩) hs)
end
end Mine.L
end
section
namespace Mine.L
open PySem (Addr)
open scoped Classical
noncomputable def c9(f:String→Option V)(n:String)(v:V):String→Option V:=fun m=>if m=n then some v else f m
noncomputable def isObj:Option bL→Bool
 |some (.inst _ _)=>true
 |some (.attrs _)=>true
 |_=>false
structure Self(H:Hp)(a dx:Addr)(f:String→Option V):Prop where
 hi:H a=some (.inst "CFG" dx)
 hd:H dx=some (.attrs f)
def Own(H0:Hp)(T:Tys)(H:Hp)(b:Addr)(o:bL):Prop:=H b=some o∧T b=none∧H0 b=none
structure Obj(H0:Hp)(a dx:Addr)(f:String→Option V)(T:Tys)(c:Nat)(H:Hp):Prop where
 s:Self H a dx f
 w:WT T c H
 old:∀b o,H0 b=some o→b≠dx→H b=some o∧T b=none
section
variable{H0 H H':Hp}{a dx b d:Addr}{f:String→Option V}{T T':Tys}{c c':Nat}{o o':bL}{v:V}{m:String}{Q:PV}
theorem pC{x:Addr}(h:isObj (H b)=false)(hx:isObj (H x)=true):x≠b:=fun e=>Bool.false_ne_true (h.symm.trans (e▸hx))
theorem Self.upd(S:Self H a dx f)(h:isObj (H b)=false):Self (upd H b o) a dx f:=⟨(aq (pC h (S.hi▸rfl))).trans S.hi,(aq (pC h (S.hd▸rfl))).trans S.hd⟩
theorem Self.set(S:Self H a dx f):Self (Mine.upd H dx (.attrs (c9 f m v))) a dx (c9 f m v):=⟨(aq fun e=>by have:=S.hi;simp only [e,S.hd] at this;exact nomatch this).trans S.hi,aj ..⟩
theorem Self.at(S:Self H a dx f)(hm:gW m=true)(hv:f m=some v)(q:Q v H):uQ H Q a m:=.mk S.hi S.hd hm hv q
theorem WT.obj(w:WT T c H)(h:isObj (H b)=true):T b=none:=by
 cases e:T b with
 |none=>rfl
 |some τ=>exact ao (w b τ e) fun o h1 h2=>by replace h:=(h1)▸h;cases h2<;>injection h
theorem Own.ne{x:Addr}(h:Own H0 T H b o)(hx:H x=none):b≠x:=ah hx h.1
theorem Own.two{x:Addr}(h:Own H0 T H b o)(h':Own H0 T H x o')(n:o≠o'):b≠x:=fun e=>n (Option.some.inj (h.1.symm.trans (e▸h'.1)))
theorem Own.fr(h:Own H0 T H b o)(f:Fr H T H' T'):Own H0 T' H' b o:=⟨(f.k _ _ h.1 h.2.1).1,(f.k _ _ h.1 h.2.1).2,h.2.2⟩
theorem Own.upd{x:Addr}(h:Own H0 T H b o)(e:b≠x):Own H0 T (upd H x o') b o:=⟨(aq e).trans h.1,h.2⟩
theorem Own.self(h:Own H0 T H b o):Own H0 T (Mine.upd H b o') b o':=⟨aj ..,h.2⟩
theorem Obj.fr(O:Obj H0 a dx f T c H)(g:Fr H T H' T')(w:WT T' c' H'):Obj H0 a dx f T' c' H' :=
 ⟨⟨(g.k _ _ O.s.hi (O.w.obj (O.s.hi▸rfl))).1,(g.k _ _ O.s.hd (O.w.obj (O.s.hd▸rfl))).1⟩,w,fun b o h n=>g.k b o (O.old b o h n).1 (O.old b o h n).2⟩
theorem Obj.le(O:Obj H0 a dx f T c H)(h:c≤c'):Obj H0 a dx f T c' H:={ O with w:=O.w.le h }
theorem Obj.upd(O:Obj H0 a dx f T c H)(h:isObj (H b)=false)(h1:T b=none)(h0:H0 b=none):Obj H0 a dx f T c (upd H b o):=⟨O.s.upd h,O.w.oth h1,fun x y hx n=>have z:=O.old x y hx n;⟨(aq (ah h0 hx)).trans z.1,z.2⟩⟩
theorem Obj.own(O:Obj H0 a dx f T c H)(h:Own H0 T H b o)(ho:isObj (some o)=false):Obj H0 a dx f T c (Mine.upd H b o'):=O.upd (h.1▸ho) h.2.1 h.2.2
theorem Obj.h0(O:Obj H0 a dx f T c H)(h:H b=none):H0 b=none:=by
 cases e:H0 b with
 |none=>rfl
 |some o=>exact fT h (O.old b o e (ah h O.s.hd).symm).1
theorem Obj.new(O:Obj H0 a dx f T c H)(h:H b=none):Obj H0 a dx f T c (Mine.upd H b o)∧Own H0 T (Mine.upd H b o) b o:=⟨O.upd (h▸rfl) (O.w.no h) (O.h0 h),aj ..,O.w.no h,O.h0 h⟩
theorem Obj.set(O:Obj H0 a dx f T c H):Obj H0 a dx (c9 f m v) T c (Mine.upd H dx (.attrs (c9 f m v))):=⟨O.s.set,O.w.oth (O.w.obj (O.s.hd▸rfl)),fun x y hx n=>have z:=O.old x y hx n;⟨(aq n).trans z.1,z.2⟩⟩
theorem Own.set(h:Own H0 T H b o)(O:Obj H0 a dx f T c H)(ho:isObj (some o)=false):Own H0 T (Mine.upd H dx (.attrs (c9 f m v))) b o:=h.upd (pC (h.1▸ho) (O.s.hd▸rfl)).symm
end
section
variable{F:Fn}{H:Hp}{Q:PV}{d:Addr}{es:List (V×V)}{ep:Nat}{k:V}
theorem vg(hd:H d=some (.dict es ep))(hk:vU es k)(h1:aE es k=none→Q (.bool true) H)(h2:∀v,aE es k=some v→Q (.bool false) H):iu .notin k (.ref d) H Q:=by
 refine .dict hd hk ?_
 cases e:aE es k with
 |none=>exact h1 e
 |some v=>exact h2 v e
theorem cQ{v:V}:aE (dput es k v) k=some v:=iM.trans (if_pos rfl)
theorem jX{k' v:V}(h:k'≠k):aE (dput es k v) k'=aE es k':=iM.trans (if_neg h.symm)
theorem ow{x nm:String}{rest:List MS}{ρ:Env}{a dx:Addr}{f:String→Option V}{pv:V}{Q:PS}(S:Self H a dx f)(hs:ρ "self"=some (.ref a))(hx:ρ x=some k)(hp:ρ "prod"=some pv)(hn:gW nm=true)(hf:f nm=some (.ref d))
  (hd:H d=some (.dict es ep)) (hk:isAtoms k=true) (hka:∀e,e∈es→isAtoms e.1=true) (hz:es.length≤big) (hv:∀v,aE es k=some v→∃b l,v=.ref b∧H b=some (.list l)∧l.length≤big)
  (q1:aE es k=none→∀b ep',H b=none→aO F rest ρ (upd (upd (upd H b (.list [])) d (.dict (dput es k (.ref b)) ep')) b (.list [pv])) Q)
  (q2:∀b l,aE es k=some (.ref b)→H b=some (.list l)→aO F rest ρ (upd H b (.list (l++[pv]))) Q) :
  aO F (.ite (.cmp .notin (vr x) (slf nm)) [.asgSub (slf nm) (vr x) (.lst true [])] []::.expr (b1 (.sub (slf nm) (vr x)) .append (vr "prod"))::rest) ρ H Q:=by
 refine aa hx (aa hs (S.at hn hf (vg hd (.inr ⟨hk,hka⟩) (fun e=>aa rfl fun b hb=>?_) fun v e=>aa rfl (aP (hv v e) fun b l h1 h2 h3=>?_))))
 ·have S1:Self (upd H b (.list [])) a dx f:=S.upd (hb▸rfl)
  refine aa hs (S1.at hn hf (aa hx (.dict ((aq (ah hb hd)).trans hd) (.inr ⟨hk,hka⟩) hz fun ep'=>aa hs ((S1.upd (((aq (ah hb hd)).trans hd)▸rfl)).at hn hf (aa hx (.dict (aj ..) (.inr ⟨hk,bF (p:=fun v=>isAtoms v=true) hk hka⟩) cQ ?_))))))
  have hb2:upd (upd H b (.list [])) d (.dict (dput es k (.ref b)) ep') b=some (.list []):=(aq (ah hb hd).symm).trans (aj ..)
  exact ⟨.append hb2,aa hp (.append hb2 (Nat.zero_le _) (aa rfl (q1 e b ep' hb)))⟩
 ·subst h1
  exact aa hs (S.at hn hf (aa hx (.dict hd (.inr ⟨hk,hka⟩) e ⟨.append h2,aa hp (.append h2 h3 (aa rfl (q2 b l e h2)))⟩)))
end
section
variable{F:Fn}{H0 H:Hp}{a dx d:Addr}{f:String→Option V}{T:Tys}{c:Nat}{k pv:V}{K:V→Prop}{ρ:Env}
theorem ER{x nm:String}{rest:List MS}{Q:PS}(O:Obj H0 a dx f T c H)(hs:ρ "self"=some (.ref a))(hx:ρ x=some k)(hp:ρ "prod"=some pv)(hn:gW nm=true)(hf:f nm=some (.ref d))
  (hd:T d=some (.dic (fun k=>isAtoms k=true) .ml)) (hk:isAtoms k=true) (hc:c≤big) (q:∀H' T',Fr H T H' T'→WT T' (c+1) H'→aO F rest ρ H' Q) :
  aO F (.ite (.cmp .notin (vr x) (slf nm)) [.asgSub (slf nm) (vr x) (.lst true [])] []::.expr (b1 (.sub (slf nm) (vr x)) .append (vr "prod"))::rest) ρ H Q :=
 aP (O.w.dic hd) fun es ep h1 h2 h3=>ow O.s hs hx hp hn hf h1 hk (fun e he=>(h3 e he).1) (Nat.le_trans h2 hc) (fun v e=>ao (h3 _ (cA e)).2 fun b x1 x2=>ao (O.w.ml x2) fun l y1 y2=>⟨b,l,x1,y1,Nat.le_trans y2 hc⟩)
  (fun e b ep' hb=>q _ _ (((Fr.new O.w hb).trans (Fr.upd ((cY (ah hb h1)).trans hd))).trans (Fr.upd aR)) (((O.w.new hb (.ml (Nat.zero_le _))).upd ((cY (ah hb h1)).trans hd) (Nat.le_succ _) (.put h2 (fun e he=>⟨(h3 e he).1,(h3 e he).2.imp fun b x=>⟨x.1,fR (O.w.no hb) _ _ x.2⟩⟩) hk aR)).upd aR (Nat.le_refl _) (.ml (Nat.succ_le_succ (Nat.zero_le _)))))
  fun b l e hb=>ao (h3 _ (cA e)).2 fun b' x1 x2=>by
   cases x1
   exact q _ _ (Fr.upd x2) (O.w.upd x2 (Nat.le_succ _) (.ml ((List.length_append)▸Nat.succ_le_succ (ao (O.w.ml x2) fun l' y1 y2=>by cases hb.symm.trans y1;exact y2))))
end
end Mine.L
end
section
namespace Mine.L
open PySem (Addr)
open scoped Classical
noncomputable abbrev ofN(R:List av)(X:Nm):List av:=R.filter fun r=>r.1=X
def LI(H0:Hp)(T:Tys)(H:Hp)(li:Addr)(R:List av):Prop:=∃le lp,Own H0 T H li (.dict le lp)∧le.length≤R.length∧(∀e,e∈le→isAtoms e.1=true) ∧
 ∀X,X∈NN→(aE le (cB X)=none∧ofN R X=[])∨∃b,aE le (cB X)=some (.ref b)∧Own H0 T H b (.list ((ofN R X).map aB))∧ofN R X≠[]
def EI(H0:Hp)(T:Tys)(H:Hp)(ei:Addr)(R:List av):Prop:=∃ee ep,Own H0 T H ei (.dict ee ep)∧ee.length≤R.length∧(∀e,e∈ee→isAtoms e.1=true)∧(ee=[]↔∀r∈R,r.2≠[])
section
variable{F:Fn}{H0 H H':Hp}{a dx d li ei b:Addr}{f:String→Option V}{T T':Tys}{c:Nat}{k pv:V}{ρ:Env}{R:List av}{r:av}{X Y:Nm}
theorem rm:ofN (R++[r]) r.1=ofN R r.1++[r]:=by simp only [List.filter_append,List.filter_cons_of_pos (p:=fun q:av=>decide (q.1=r.1)) (decide_eq_true rfl)];rfl
theorem vf(h:¬r.1=X):ofN (R++[r]) X=ofN R X:=by simp only [List.filter_append,List.filter_cons_of_neg (p:=fun q:av=>decide (q.1=X)) (fun e=>h (of_decide_eq_true e))];exact List.append_nil _
theorem Er(h:ofN R X≠[])(e:(ofN R X).map aB=(ofN R Y).map aB):X=Y:=(List.exists_mem_of_ne_nil _ h).elim fun q hq=>(List.mem_map.mp (e▸List.mem_map.mpr ⟨q,hq,rfl⟩:aB q∈(ofN R Y).map aB)).elim fun p hp =>
 ((of_decide_eq_true (List.mem_filter.mp hq).2:q.1=X).symm.trans (V.prod.inj hp.2).1.symm).trans (of_decide_eq_true (List.mem_filter.mp hp.1).2)
theorem LI.imp(h:LI H0 T H li R)(g:∀b o,isObj (some o)=false→((∃l,o=.list l)∨b=li)→Own H0 T H b o→Own H0 T' H' b o):LI H0 T' H' li R :=
 fm h fun le lp h1 h2 h3 h4=>⟨le,lp,g _ _ rfl (.inr rfl) h1,h2,h3,fun X hX=>(h4 X hX).imp id fun x=>br x fun b x1 x2 x3=>⟨b,x1,g _ _ rfl (.inl ⟨_,rfl⟩) x2,x3⟩⟩
theorem LI.fr(h:LI H0 T H li R)(g:Fr H T H' T'):LI H0 T' H' li R:=h.imp fun _ _ _ _ x=>x.fr g
theorem EI.fr(h:EI H0 T H ei R)(g:Fr H T H' T'):EI H0 T' H' ei R:=fm h fun le lp h1 h2 h3 h4=>⟨le,lp,h1.fr g,h2,h3,h4⟩
theorem EJ{rest:List MS}{Q:PS}(O:Obj H0 a dx f T c H)(L:LI H0 T H li R)(hX:r.1∈NN)(hl:R.length≤big)(hs:ρ "self"=some (.ref a))(hx:ρ "lhs"=some (cB r.1))(hp:ρ "prod"=some (aB r))(hf:f "_lhs_index"=some (.ref li))
  (q:∀H',Obj H0 a dx f T c H'→LI H0 T H' li (R++[r])→(∀b es ep,b≠li→Own H0 T H b (.dict es ep)→Own H0 T H' b (.dict es ep))→aO F rest ρ H' Q) :
  aO F (.ite (.cmp .notin (vr "lhs") (slf "_lhs_index")) [.asgSub (slf "_lhs_index") (vr "lhs") (.lst true [])] []::.expr (b1 (.sub (slf "_lhs_index") (vr "lhs")) .append (vr "prod"))::rest) ρ H Q :=
 fm L fun le lp h1 h2 h3 h4=>ow O.s hs hx hp rfl hf h1.1 rfl h3 (Nat.le_trans h2 hl) (fun v e=>(h4 _ hX).elim (fun x=>fT x.1 e) fun x=>br x fun b x1 x2 x3=>⟨b,_,Option.some.inj (e.symm.trans x1),x2.1,by rw [List.length_map];exact Nat.le_trans (List.length_filter_le ..) hl⟩)
  (fun e b ep' hb=>by
   have hne:=h1.ne hb
   refine q _ (((O.new (o:=.list []) hb).1.own (h1.upd (o':=.list []) hne) rfl (o':=.dict (dput le (cB r.1) (.ref b)) ep')).own ((O.new (o:=.list []) hb).2.upd (o':=.dict (dput le (cB r.1) (.ref b)) ep') hne.symm) rfl) ⟨_,_,(h1.upd (o':=.list []) hne).self.upd hne,Nat.le_trans dZ (by simp only [List.length_append];exact Nat.succ_le_succ h2),bF (p:=fun v=>isAtoms v=true) rfl h3,fun Y hY=>?_⟩ fun x es ep hx h=>((h.upd (h.ne hb)).upd hx).upd (h.ne hb)
   by_cases hYX:r.1=Y
   ·subst hYX
    have e0:=(h4 _ hX).elim (fun x=>x.2) fun x=>br x fun b x1 _ _=>fT e x1
    refine .inr ⟨b,cQ,?_,?_⟩<;>rw [rm,e0]
    ·exact ((O.new (o:=.list []) hb).2.upd (o':=.dict (dput le (cB r.1) (.ref b)) ep') hne.symm).self
    ·exact List.cons_ne_nil _ _
   ·rw [vf hYX,jX (fun e=>hYX (V.str.inj (List.cons.inj (List.cons.inj (V.tup.inj e)).2).1).symm)]
    exact (h4 Y hY).imp id fun x=>br x fun y x1 x2 x3=>⟨y,x1,((x2.upd (x2.ne hb)).upd (x2.two h1 nofun)).upd (x2.ne hb),x3⟩)
  fun b l e hb=>by
   refine (h4 _ hX).elim (fun x=>fT x.1 e) fun x=>br x fun b' x1 x2 x3=>?_
   cases x1.symm.trans e
   cases hb.symm.trans x2.1
   refine q _ (O.own x2 rfl) ⟨_,_,h1.upd (h1.two x2 nofun),by simp only [List.length_append];exact Nat.le_succ_of_le h2,h3,fun Y hY=>?_⟩ fun x es ep hx h=>h.upd (h.two x2 nofun)
   by_cases hYX:r.1=Y
   ·subst hYX
    refine .inr ⟨b,e,?_,?_⟩<;>refine (rm)▸?_
    ·exact (List.map_append)▸x2.self
    ·exact List.append_ne_nil_of_right_ne_nil _ (List.cons_ne_nil _ _)
   ·exact (vf hYX).symm▸(h4 Y hY).imp id fun z=>br z fun y z1 z2 z3=>⟨y,z1,z2.upd fun e=>hYX (Er x3 (bL.list.inj (Option.some.inj (x2.1.symm.trans (e▸z2.1))))),z3⟩
theorem EI.ne(h:EI H0 T H ei R)(hr:r.2≠[]):EI H0 T H ei (R++[r]):=fm h fun ee ep h1 h2 h3 h4=>⟨ee,ep,h1,(List.length_append)▸Nat.le_succ_of_le h2,h3,h4.trans ⟨fun h q hq=>(List.mem_append.mp hq).elim (h q) fun e=>List.mem_singleton.mp e▸hr,fun h q hq=>h q (List.mem_append_left _ hq)⟩⟩
theorem Ak{Q:PS}{rest:List MS}(O:Obj H0 a dx f T c H)(hs:ρ "self"=some (.ref a))(hx:ρ "token"=some k)(hp:ρ "prod"=some pv)(hf:f "_lexical_index"=some (.ref d))
  (hd:T d=some (.dic (fun k=>isStr k=true) .ml)) (hk:isStr k=true) (hc:c≤big) (q:∀H' T',Fr H T H' T'→WT T' (c+1) H'→aO F rest ρ H' Q) :
  aO F (.expr (b1 (b2 (slf "_lexical_index") .setdefault (vr "token") (.lst true [])) .append (vr "prod"))::rest) ρ H Q :=
 aP (O.w.dic hd) fun es ep h1 h2 h3=>aa hs (O.s.at rfl hf ⟨.setdefault h1,aa hx fun b hb=>by
  refine .setdefault ((aq (ah hb h1)).trans h1) hk (fun e he=>(h3 e he).1) (Nat.le_trans h2 hc) fun H' h'=>?_
  cases e:aE es k with
  |none =>
   rw [e] at h'
   obtain ⟨ep',rfl⟩:=h'
   exact ⟨.append ((aq (ah hb h1).symm).trans (aj ..)),aa hp (.append ((aq (ah hb h1).symm).trans (aj ..)) (Nat.zero_le _) (aa rfl (q _ _ (((Fr.new O.w hb).trans (Fr.upd ((cY (ah hb h1)).trans hd))).trans (Fr.upd aR)) (((O.w.new hb (.ml (Nat.zero_le _))).upd ((cY (ah hb h1)).trans hd) (Nat.le_succ _) (.put h2 (fun e he=>⟨(h3 e he).1,(h3 e he).2.imp fun b x=>⟨x.1,fR (O.w.no hb) _ _ x.2⟩⟩) hk aR)).upd aR (Nat.le_refl _) (.ml (Nat.succ_le_succ (Nat.zero_le _)))))))⟩
  |some v =>
   rw [e] at h'
   subst h'
   refine ao (h3 _ (cA e)).2 fun y x1 x2=>ao (O.w.ml x2) fun l y1 y2=>?_
   subst x1
   exact ⟨.append ((aq (ah hb y1)).trans y1),aa hp (.append ((aq (ah hb y1)).trans y1) (Nat.le_trans y2 hc) (aa rfl (q _ T ⟨fun z o h h'=>⟨(aq fun e=>fT h' (e▸x2)).trans ((aq (ah hb h)).trans h),h'⟩,fun _ _ h=>h⟩ ((O.w.oth (O.w.no hb)).upd x2 (Nat.le_succ _) (.ml ((List.length_append)▸Nat.succ_le_succ y2))))))⟩⟩)
end
end Mine.L
end
section
namespace Mine.L
open PySem (Addr)
open scoped Classical
section
variable{F:Fn}{ρ:Env}{H:Hp}{Q:PS}{rest:List MS}{x:String}{e:ME}{n:Nat}{a dx:Addr}{f:String→Option V}
theorem nil_of(q:Q .next ρ H):aO F [] ρ H Q:=q
theorem ay{w:Env→Hp→PS→Prop}(q:w ρ H Q):sH w Q .next ρ H:=q
theorem B0{l:Nm}{r:List V}{Q:PV}(hp:ρ "prod"=some (.prod l r))(q:Q (cB l) H):wpE (wpF bodies (n+1)) (key (.attr (vr "prod") "_lhs")) ρ H Q:=aa hp q
theorem As{l s:Nm}{r:List V}{Q:PV}(hp:ρ "prod"=some (.prod l (bZ s::r)))(q:Q (dQ s) H):wpE (wpF bodies (n+1)) (key (.sub (.attr (vr "prod") "_rhs") (nm 0))) ρ H Q:=aa hp (kJ (i:=0) rfl (of_decide_eq_true rfl) (uL (aa rfl q)))
theorem B4(s:Nm):isAtoms (dQ s)=true:=gQ (P:=fun _ _ k=>isAtoms k=true) s rfl rfl
theorem lC{s:Nm}(h:isT s=true):bZ s=.str s:=if_pos h
theorem gq{s:Nm}(h:isT s=false):bZ s=.nt s:=if_neg (h▸Bool.false_ne_true)
theorem aN(q:wpE F e ρ H fun v H'=>aO F rest (put ρ x v) H' Q):aO F (.asg x e::rest) ρ H Q:=q
end
def IxS(H0:Hp)(a dx:Addr)(f:String→Option V)(li ri ei xi:Addr)(N:Nat)(R R':List av)(H:Hp):Prop:=∃T c,Obj H0 a dx f T c H∧LI H0 T H li R∧EI H0 T H ei R'∧T ri=some (.dic (fun k=>isAtoms k=true) .ml)∧T xi=some (.dic (fun k=>isStr k=true) .ml)∧c≤N
section
variable{H0 H H':Hp}{a dx d li ri ei xi b:Addr}{f:String→Option V}{T T':Tys}{c N N' n:Nat}{R R':List av}
theorem IxS.fr(O:Obj H0 a dx f T c H)(L:LI H0 T H li R)(E:EI H0 T H ei R')(hr:T ri=some (.dic (fun k=>isAtoms k=true) .ml))(hx:T xi=some (.dic (fun k=>isStr k=true) .ml))(hc:c≤N)(g:Fr H T H' T')(w:WT T' (c+1) H'):IxS H0 a dx f li ri ei xi (N+1) R R' H':=⟨T',c+1,O.fr g w,L.fr g,E.fr g,g.m _ _ hr,g.m _ _ hx,Nat.succ_le_succ hc⟩
theorem IxS.le(h:IxS H0 a dx f li ri ei xi N R R' H)(hn:N≤N'):IxS H0 a dx f li ri ei xi N' R R' H:=o5 h fun T c h1 h2 h3 h4 h5 h6=>⟨T,c,h1,h2,h3,h4,h5,Nat.le_trans h6 hn⟩
theorem LI.upd(L:LI H0 T H li R){es:List (V×V)}{ep:Nat}{o:bL}(h:Own H0 T H ei (.dict es ep))(hne:li≠ei):LI H0 T (upd H ei o) li R:=L.imp fun b o ho hb x=>x.upd (hb.elim (fun hb=>hb.elim fun l e=>x.two h (e▸nofun)) fun e=>e▸hne)
theorem EI.put{X:Nm}{pv:V}{ee:List (V×V)}{ep ep':Nat}(h1:Own H0 T H ei (.dict ee ep))(h2:ee.length≤R.length)(h3:∀e,e∈ee→isAtoms e.1=true):EI H0 T (Mine.upd H ei (.dict (dput ee (cB X) pv) ep')) ei (R++[(X,[])]) :=
 ⟨_,_,h1.self,(List.length_append)▸Nat.le_trans dZ (Nat.succ_le_succ h2),bF (p:=fun v=>isAtoms v=true) rfl h3,fun e=>fT (e▸xD:aE (dput ee (cB X) pv) (cB X)=none) cQ,fun e=>absurd rfl (e _ (List.mem_append_right _ (.head _)))⟩
noncomputable abbrev ixA(f:String→Option V)(li ri ei xi:Addr):String→Option V:=c9 (c9 (c9 (c9 f "_lhs_index" (.ref li)) "_rhs_index" (.ref ri)) "_empty_index" (.ref ei)) "_lexical_index" (.ref xi)
theorem vj{ρ:Env}{X:Nm}{β:List Nm}{Q:PS}(I:IxS H0 a dx (ixA f li ri ei xi) li ri ei xi N R R' H)(hs:ρ "self"=some (.ref a))(hp:ρ "prod"=some (.prod X (β.map bZ)))(hN:N+β.length≤big)
  (q:∀ρ H',ρ "self"=some (.ref a)→IxS H0 a dx (ixA f li ri ei xi) li ri ei xi (N+β.length) R R' H'→Q .next ρ H') :
  aO (wpF bodies (n+1)) [.for_ ["token"] (.attr (vr "prod") "_rhs") [.ite (.call "is_terminal" [vr "token"]) [.expr (b1 (b2 (slf "_lexical_index") .setdefault (vr "token") (.lst true [])) .append (vr "prod"))] []]] ρ H Q :=
 aa hp (bD (l:=β) (g:=bZ) (fun c ρ H'=>ρ "self"=some (.ref a)∧ρ "prod"=some (.prod X (β.map bZ))∧IxS H0 a dx (ixA f li ri ei xi) li ri ei xi (N+c.length) R R' H') iZ ⟨hs,hp,I⟩ (fun _ _ _ _=>trivial) (fun c s e ρ3 H3 K3 Q3 hc h hK3=>bG h fun hs3 hp3 I3=>o5 I3 fun T cc O L E hr hx hcc=>aa rfl (HZ (aa rfl (aa rfl (by
  cases hT:isT s with
  |true=>exact Ak (c:=cc) O hs3 rfl hp3 rfl hx (lC hT▸rfl) (Nat.le_trans hcc (Nat.le_trans (Nat.add_le_add_left (by simpa only [hc,List.length_append] using Nat.le_add_right ..) N) hN)) fun H' T' g w=>hK3 _ _ ⟨hs3,hp3,(show (c++[s]).length=c.length+1 from List.length_append)▸IxS.fr O L E hr hx hcc g w⟩
  |false=>exact hK3 _ _ ⟨hs3,hp3,I3.le ((show (c++[s]).length=c.length+1 from List.length_append)▸Nat.le_succ _)⟩))))) fun ρ H h=>q ρ H h.1 h.2.2)
theorem xO{Q:Option V→Hp→Prop}(S:Self H a dx f)(hp:f "_productions"=some (.lst (R.map aB)))(hw:WF R)(hl:R.length≤19000)
  (q:∀H' T c li ri ei xi,Obj H a dx (ixA f li ri ei xi) T c H'→LI H T H' li R→EI H T H' ei R→Q (some .none) H'):aH (wpF bodies (n+2)) "CFG._calculate_indexes" [.ref a] [] [] H Q:=by
 have O:Obj H a dx f (fun _=>none) 0 H:=⟨S,nofun,fun _ _ h _=>⟨h,rfl⟩⟩
 refine fun ep1 li hli=>?_
 have O1:=O.new (o:=.dict [] ep1) hli
 refine ⟨a,"CFG",dx,f,rfl,rfl,O1.1.s.hi,O1.1.s.hd,fun ep2 ri hri=>?_⟩
 have P1:=O1.1.set (m:="_lhs_index") (v:=.ref li)
 have w2:=P1.w.new (o:=.dict [] ep2) (τ:=.dic (fun k=>isAtoms k=true) .ml) hri (.dic (Nat.zero_le _) nofun)
 have O2:=P1.fr (Fr.new (τ:=.dic (fun k=>isAtoms k=true) .ml) (o:=.dict [] ep2) P1.w hri) w2
 refine ⟨a,"CFG",dx,_,rfl,rfl,O2.s.hi,O2.s.hd,fun ep3 ei hei=>?_⟩
 have l2:=((O1.2.set (m:="_lhs_index") (v:=.ref li) O1.1 rfl).fr (Fr.new (τ:=.dic (fun k=>isAtoms k=true) .ml) (o:=.dict [] ep2) P1.w hri)).set (m:="_rhs_index") (v:=.ref ri) O2 rfl
 have O3:=(O2.set (m:="_rhs_index") (v:=.ref ri)).new (o:=.dict [] ep3) hei
 refine ⟨a,"CFG",dx,_,rfl,rfl,O3.1.s.hi,O3.1.s.hd,fun ep4 xi hxi=>?_⟩
 have P3:=O3.1.set (m:="_empty_index") (v:=.ref ei)
 have l3:=(l2.upd (o':=.dict [] ep3) (l2.ne hei)).set (m:="_empty_index") (v:=.ref ei) O3.1 rfl
 have e3:=O3.2.set (m:="_empty_index") (v:=.ref ei) O3.1 rfl
 have f4:=Fr.new (τ:=.dic (fun k=>isStr k=true) .ml) (o:=.dict [] ep4) P3.w hxi
 have O4:=P3.fr f4 (P3.w.new (o:=.dict [] ep4) (τ:=.dic (fun k=>isStr k=true) .ml) hxi (.dic (Nat.zero_le _) nofun))
 refine ⟨a,"CFG",dx,_,rfl,rfl,O4.s.hi,O4.s.hd,?_⟩
 have P4:=O4.set (m:="_lexical_index") (v:=.ref xi)
 have hne:=l2.ne hei
 refine P4.s.at rfl hp (bD (l:=R) (g:=aB) (fun b ρ H'=>ρ "self"=some (.ref a)∧IxS H a dx (ixA f li ri ei xi) li ri ei xi (5*b.length) b b H') (bk rfl) ⟨rfl,(⟨_,_,P4,⟨_,_,((l3.fr f4).set (m:="_lexical_index") (v:=.ref xi) O4 rfl),Nat.le_refl _,nofun,fun _ _=>.inl ⟨rfl,rfl⟩⟩,⟨_,_,((e3.fr f4).set (m:="_lexical_index") (v:=.ref xi) O4 rfl),Nat.le_refl _,nofun,fun _=>nofun,fun _=>rfl⟩,f4.m _ _ aR,aR,Nat.zero_le _⟩)⟩ (fun _ _ _ _=>trivial) (fun b r c ρ H' K Qk hb h hK=>?_) fun ρ H' h=>o5 h.2 fun T c O L E _ _ _=>q _ _ _ _ _ _ _ O L E)
 refine cX h fun hs h=>?_
 refine o5 h fun T cc O L E hr hx hc=>?_
 obtain ⟨X,β⟩:=r
 refine bG (hw _ ((hb)▸List.mem_append_right _ (.head _))) fun w1 w2 w3=>?_
 have hbl:=Nat.le_trans (by simpa only [hb,List.length_append] using Nat.le_add_right ..) hl
 have hN:5*b.length+4≤big:=Nat.le_trans (Nat.add_le_add_right (Nat.mul_le_mul_left 5 hbl) 4) (of_decide_eq_true rfl)
 have h4:5*b.length+1+β.length≤5*b.length+4:=Nat.add_le_add_left w2 (5*b.length+1)
 have h5':5*b.length+1+β.length≤5*(b++[(X,β)]).length:=by simp only [List.length_append];exact Nat.le_trans h4 (Nat.le_succ _)
 refine aa rfl (aN (B0 rfl (EJ (r:=(X,β)) O L w1 (aF hbl) hs rfl rfl rfl fun H2 O2 L2 k2=>aa (G6 (by rw [List.length_map];exact aF w2)) ?_)))
 cases β with
 |nil=>exact fm E fun ee ep h1 h2 h3 h4=>have h1:=k2 _ _ _ hne.symm h1;aa hs (O2.s.at rfl rfl (.dict h1.1 (.inr ⟨rfl,h3⟩) (aF (Nat.le_trans h2 hbl)) fun ep'=>ay (nil_of (ay (vj (β:=[]) (N:=5*b.length) ⟨T,cc,O2.own h1 rfl,L2.upd h1 hne,EI.put h1 h2 h3,hr,hx,hc⟩ hs rfl (Nat.le_trans (Nat.le_add_right _ 4) hN) fun ρ H' hs I=>hK _ _ ⟨hs,I.le (Nat.le_trans (Nat.le_succ _) h5')⟩)))))
 |cons s β=>exact aN (As rfl (ER O2 hs rfl rfl rfl rfl hr (B4 s) (Nat.le_trans hc (Nat.le_trans (Nat.le_add_right _ _) hN)) fun H3 T3 g w=>nil_of (ay (vj (IxS.fr O2 L2 (EI.ne (fm E fun ee ep h1 h2 h3 h4=>⟨ee,ep,k2 _ _ _ hne.symm h1,h2,h3,h4⟩) (List.cons_ne_nil _ _)) hr hx hc g w) hs rfl (Nat.le_trans h4 hN) fun ρ H' hs I=>hK _ _ ⟨hs,I.le h5'⟩))))
end
end Mine.L
end
section
namespace Mine.L
open PySem (Addr)
open scoped Classical
section
variable{n:Nat}{H H':Hp}{F:Fn}
theorem pK{α:Type}{g:α→V}{f:α→Option Bool}{step:V→Hp→(Option V→Hp→Prop)→Prop}{Q:PV}:∀{l:List α},(∀x,x∈l→∀K:Option V→Hp→Prop,K ((f x).map .bool) H→step (g x) H K)→Q (.bool (l.all fun x=>(f x).getD true)) H→sN step (l.map g) H Q
 |[],_,q=>q
 |x::l,st,q=>by
  refine st x (.head _) _ ?_
  simp only [List.all_cons] at q
  have st':=fun y (hy:y∈l)=>st y (.tail _ hy)
  cases e:f x with
  |none=>replace q:=(e)▸q;exact pK st' q
  |some b=>rw [e] at q;exact ⟨b,rfl,by
   cases b with
   |true=>exact pK st' q
   |false=>exact q⟩
theorem qk{α:Type}{g:α→V}{m:V→Int}{step:V→Hp→(Option V→Hp→Prop)→Prop}{Q:Hp→Prop}:∀{l:List α},(∀x,x∈l→∀K:Option V→Hp→Prop,K (some (.int (m (g x)))) H→step (g x) H K)→Q H→ki m step (l.map g) H Q
 |[],_,q=>q
 |x::_,st,q=>st x (.head _) _ ⟨rfl,qk (fun y hy=>st y (.tail _ hy)) q⟩
section
variable{Q:Option V→Hp→Prop}{r:av}
theorem mF(q:Q (some (.bool (aV r.2))) H):aH (wpF bodies (n+2)) "Production.is_nonlexical" [aB r] [] [] H Q:=⟨_,.inr rfl,.inl rfl,pK (g:=bZ) (f:=fun s=>some (!isT s)) (fun s _ K hK=>zh (aa rfl hK)) q⟩
theorem uK(q:Q (some (.bool (!aV r.2))) H):aH (wpF bodies (n+3)) "Production.is_lexical" [aB r] [] [] H Q:=mF (aa rfl (aa rfl q))
theorem sJ{Q:PV}(hz:r.2.length≤big)(q:Q (.int r.2.length) H):BiW (wpF bodies (n+1)) H Q .len [aB r]:=.len (.prod (by
 exact .len (.tup ((show (r.2.map bZ).length=r.2.length from List.length_map _)▸hz) (aa rfl ⟨_,rfl,(show (r.2.map bZ).length=r.2.length from List.length_map _)▸hz,(show (r.2.map bZ).length=r.2.length from List.length_map _).symm▸q⟩))))
end
variable{a dx:Addr}{f:String→Option V}{R:List av}{nm:String}{rest:List MS}{ρ:Env}{Q:PS}{cond elt:ME}
theorem pP(g:av→Option Bool)(S:Self H a dx f)(hs:ρ "self"=some (.ref a))(hn:cR "CFG" nm=true)(hv:ρ "prods"=some (.lst (R.map aB)))
  (st:∀r,r∈R→∀K:Option V→Hp→Prop,K ((g r).map .bool) H→kh (dB cond) (wpE F cond (put (fun _=>none) "p" (aB r)) H) H fun b H3=>_root_.cond b (wpE F elt (put (fun _=>none) "p" (aB r)) H3 fun r H4=>K (some r) H4) (K none H3))
  {b:Bool} (hb:(R.all fun r=>(g r).getD true)=b) (q:aO F rest ρ (upd H dx (.attrs (c9 f nm (.bool b)))) Q):aO F (.asgAttr "self" nm (.quant .all elt "p" (vr "prods") cond)::rest) ρ H Q :=
 aa hv ⟨_,.inl rfl,.inl rfl,pK st (hb.symm▸⟨a,"CFG",dx,f,hn,hs,S.hi,S.hd,q⟩)⟩
noncomputable def yb:V→Int
 |.prod _ r=>r.length
 |_=>0
theorem gS{r:av}:yb (aB r)=r.2.length:=congrArg Int.ofNat (List.length_map _)
theorem Bv(S:Self H a dx f)(hs:ρ "self"=some (.ref a))(hn:cR "CFG" nm=true)(hv:ρ "prods"=some (.lst (R.map aB)))(hR:R≠[])
  (st:∀r,r∈R→∀K:PV,K (.int (yb (aB r))) H→wpE F elt (put (fun _=>none) "p" (aB r)) H K)
  (q:∀m,uG m R→aO F rest ρ (upd H dx (.attrs (c9 f nm (.int m)))) Q):aO F (.asgAttr "self" nm (.quant .min elt "p" (vr "prods") .no)::rest) ρ H Q :=
 aa hv ⟨_,.inl rfl,.inr rfl,fun e=>hR (List.map_eq_nil_iff.mp e),yb,qk (fun r hr K hK=>st r hr (fun v H=>K (some v) H) hK) fun m hm hy=>⟨a,"CFG",dx,f,hn,hs,S.hi,S.hd,q m ⟨fun r hr=>gS▸hy _ (List.mem_map.mpr ⟨_,List.mem_map.mpr ⟨r,hr,rfl⟩,rfl⟩),
  (List.mem_map.mp hm).elim fun y h=>(List.mem_map.mp h.1).elim fun r h'=>⟨r,h'.1,h.2.symm.trans (h'.2▸gS)⟩⟩⟩⟩
theorem Bw(S:Self H a dx f)(hs:ρ "self"=some (.ref a))(hn:cR "CFG" nm=true)(hv:ρ "prods"=some (.lst (R.map aB)))(hR:R≠[])
  (st:∀r,r∈R→∀K:PV,K (.int (yb (aB r))) H→wpE F elt (put (fun _=>none) "p" (aB r)) H K)
  (q:∀m,uH m R→aO F rest ρ (upd H dx (.attrs (c9 f nm (.int m)))) Q):aO F (.asgAttr "self" nm (.quant .max elt "p" (vr "prods") .no)::rest) ρ H Q :=
 aa hv ⟨_,.inl rfl,.inr rfl,fun e=>hR (List.map_eq_nil_iff.mp e),yb,qk (fun r hr K hK=>st r hr (fun v H=>K (some v) H) hK) fun m hm hy=>⟨a,"CFG",dx,f,hn,hs,S.hi,S.hd,q m ⟨fun r hr=>gS▸hy _ (List.mem_map.mpr ⟨_,List.mem_map.mpr ⟨r,hr,rfl⟩,rfl⟩),
  (List.mem_map.mp hm).elim fun y h=>(List.mem_map.mp h.1).elim fun r h'=>⟨r,h'.1,h.2.symm.trans (h'.2▸gS)⟩⟩⟩⟩
theorem len_eq{k:Nat}{P:PV}(q:P (.bool (k==1)) H):iu .eq (.int k) (.int 1) H P:=⟨true,rfl,rfl,by rw [show decide (V.int k=V.int 1)=(k==1) by rw [Bool.eq_iff_iff,decide_eq_true_eq,beq_iff_eq];exact ⟨fun e=>Int.ofNat.inj (V.int.inj e),fun e=>e▸rfl⟩];exact q⟩
theorem yT{k:Nat}{P:PV}(q:P (.bool (!(k==1))) H):iu .ne (.int k) (.int 1) H P:=len_eq (P:=fun v H=>P (match v with | .bool b=>.bool (!b) | v=>v) H) q
noncomputable abbrev fmA(f:String→Option V)(R:List av)(mi ma:Int):String→Option V:=c9 (c9 (c9 (c9 (c9 f "_is_lexical" (.bool (R.all fun r=>!aV r.2))) "_is_nonlexical" (.bool (nlR R))) "_min_len" (.int mi)) "_max_len" (.int ma)) "_all_unary_are_lexical" (.bool (ulR R))
theorem Cm{Q:Option V→Hp→Prop}(S:Self H a dx f)(hp:f "_productions"=some (.lst (R.map aB)))(hw:WF R)(hR:R≠[])
  (q:∀mi ma H',uG mi R→uH ma R→Self H' a dx (fmA f R mi ma)→(∀b,b≠dx→H' b=H b)→Q (some .none) H'):aH (wpF bodies (n+5)) "CFG._calculate_grammar_forms" [.ref a] [] [] H Q :=
 have hz:=fun r hr=>aF (hw r hr).2.1
 S.at rfl hp (pP (fun r=>some (!aV r.2)) S rfl rfl rfl (fun r hr K hK=>uK (aa rfl hK)) rfl (pP (fun r=>if r.2.length==1 then none else some (aV r.2)) S.set rfl rfl rfl (fun r hr K hK=>sJ (hz r hr) (bS (yT (aa rfl (by
   generalize (r.2.length==1)=b at hK ⊢
   cases b with
   |true=>exact hK
   |false=>exact mF (aa rfl hK)))))) (b:=nlR R) (congrArg R.all (funext fun r=>by cases r.2.length==1<;>rfl))
  (Bv S.set.set rfl rfl rfl hR (fun r hr K hK=>sJ (hz r hr) (gS▸hK)) fun mi hmi=>Bw S.set.set.set rfl rfl rfl hR (fun r hr K hK=>sJ (hz r hr) (gS▸hK)) fun ma hma =>
  pP (fun r=>if r.2.length==1 then some (!aV r.2) else none) S.set.set.set.set rfl rfl rfl (fun r hr K hK=>sJ (hz r hr) (bS (len_eq (aa rfl (by
   generalize (r.2.length==1)=b at hK ⊢
   cases b with
   |true=>exact uK (aa rfl hK)
   |false=>exact hK))))) (b:=ulR R) (congrArg R.all (funext fun r=>by delta bne;cases r.2.length==1<;>rfl))
  (nil_of (q mi ma _ hmi hma S.set.set.set.set.set fun b hb=>(aq hb).trans ((aq hb).trans ((aq hb).trans ((aq hb).trans (aq hb)))))))))
end
end Mine.L
end
section
namespace Mine.L
open PySem (Addr)
open scoped Classical
theorem lQ{test:Env→Hp→(Bool→Hp→Prop)→Prop}{body:Env→Hp→PS→Prop}{Q:PS}(P:Nat→Env→Hp→Prop)(Fin:Env→Hp→Prop)
  (step:∀m ρ H (K D:Env→Hp→Prop) (Q:PS),P m ρ H→(∀m' ρ2 H2,m'<m→P m' ρ2 H2→K ρ2 H2)→(∀ρ2 H2,Fin ρ2 H2→D ρ2 H2)→test ρ H fun b H1=>cond b (body ρ H1 (eF K Q)) (D ρ H1))
  (done:∀ρ H,Fin ρ H→Q .next ρ H):∀(n m:Nat) (ρ:Env) (H:Hp),m<n→P m ρ H→lA test body n ρ H Q
 |0,m,_,_,h,_=>absurd h (Nat.not_lt_zero _)
 |n+1,m,ρ,H,h,p=>step m ρ H (fun ρ2 H2=>lA test body n ρ2 H2 Q) (fun ρ H=>Q .next ρ H) Q p (fun m' ρ2 H2 hm p'=>lQ P Fin step done n m' ρ2 H2 (Nat.lt_of_lt_of_le hm (Nat.le_of_lt_succ h)) p') done
noncomputable abbrev UN:List V:=NN.map cB
theorem jH{es:List V}(h:es.Nodup)(hs:∀e,e∈es→e∈UN):es.length≤15:=bO (m:=UN) h hs
theorem yD{s:Nm}(h:s∈NN):cB s∈UN:=List.mem_map.mpr ⟨s,h,rfl⟩
theorem lB{P:V→Prop}(h:∀s:Nm,P (cB s))(u:V)(hu:u∈UN):P u:=(List.mem_map.mp hu).elim fun s x=>x.2▸h s
theorem j7:∀u,u∈UN→isTup u=true:=lB fun _=>rfl
theorem eB:∀u,u∈UN→isAtoms u=true:=lB fun _=>rfl
theorem uW{es:List V}{x:V}(h:x∈es):dg es x=es:=if_pos h
theorem cD{es:List V}{x:V}(h:x∉es):dg es x=es++[x]:=if_neg h
theorem di{es:List V}{x:V}(h:es.Nodup):(dg es x).Nodup:=by
 by_cases hx:x∈es
 ·rw [uW hx];exact h
 ·rw [cD hx];exact List.nodup_append.mpr ⟨h,List.nodup_cons.mpr ⟨List.not_mem_nil,.nil⟩,fun a ha b hb e=>hx (List.mem_singleton.mp hb▸e▸ha)⟩
theorem gB{U es:List V}{x:V}(h:∀e,e∈es→e∈U)(hx:x∈U):∀e,e∈dg es x→e∈U:=by
 by_cases hm:x∈es
 ·rw [uW hm];exact h
 ·rw [cD hm];exact fun e he=>(List.mem_append.mp he).elim (h e) fun he=>List.mem_singleton.mp he▸hx
noncomputable abbrev dUN(U:List V):Ty:=.dic (fun k=>k∈UN) (.st U)
section
variable{H H' H2:Hp}{T T' T2:Tys}{c N:Nat}{b g cc fa ga d:Addr}{τ:Ty}{Q:PV}{P:Bool→Hp→Prop}
theorem Fr.adopt(f:Fr H T H2 T2)(hb:H b=none)(h2:T2 b=none):Fr H T H2 (tyS T2 b τ):=⟨fun x o h h'=>⟨(f.k x o h h').1,(cY (ah hb h)).trans (f.k x o h h').2⟩,fun x σ h=>fR h2 x σ (f.m x σ h)⟩
theorem Fr.put{o:bL}(f:Fr H T H2 T2)(hb:H b=none):Fr H T (Mine.upd H2 b o) T2:=⟨fun x o h h'=>⟨(aq (ah hb h)).trans (f.k x o h h').1,(f.k x o h h').2⟩,f.m⟩
theorem yr{a:V}{es:List V}{k:aK}(h:H d=some (.set es k))(ha:isTup a=true)(hes:∀e,e∈es→isTup e=true)(h1:a∈es→P true H)(h2:a∉es→P false H):InW H P a (.ref d):=by
 refine .set h ha hes ?_
 by_cases hm:a∈es
 ·exact (decide_eq_true hm).symm▸h1 hm
 ·exact (decide_eq_false hm).symm▸h2 hm
theorem rD{es:List (V×V)}{ep:Nat}(h:H d=some (.dict es ep))(hl:es.length≤big):ItL H (.ref d) (es.map (·.1)):=by delta ItL iterable bQ;dsimp only;exact (h)▸⟨hl,fun _ h=>h⟩
structure CS(H:Hp)(T:Tys)(N:Nat)(g:Addr)(gd:bL)(fa ga:Addr)(fs al:List V)(H2:Hp):Prop where
 fr:Fr H T H2 T
 w:WT T N H2
 hg:H2 g=some gd
 hf:∃k,H2 fa=some (.set fs k)
 ha:H2 ga=some (.list al)
 nd:fs.Nodup
 fu:∀e,e∈fs→e∈UN
 au:∀e,e∈al→e∈UN
structure CE(g cc fa ga:Addr)(i:V)(ρ:Env):Prop where
 g:ρ "graph"=some (.ref g)
 c:ρ "closure"=some (.ref cc)
 i:ρ "i"=some i
 f:ρ "found"=some (.ref fa)
 a:ρ "agenda"=some (.ref ga)
variable{n:Nat}{gd:bL}{fs al l:List V}{i x:V}{ρ:Env}{ge:List (V×V)}{gp:Nat}
theorem CS.ag(S:CS H T N g gd fa ga fs al H2)(h:H ga=none)(ht:T ga=none)(hfg:fa≠ga)(hgg:g≠ga)(hl:∀e,e∈l→e∈UN):CS H T N g gd fa ga fs l (upd H2 ga (.list l)) :=
 ⟨S.fr.put h,S.w.oth ht,(aq hgg).trans S.hg,S.hf.imp fun k h=>(aq hfg).trans h,aj ..,S.nd,S.fu,hl⟩
theorem CS.fd{k:aK}(S:CS H T N g gd fa ga fs al H2)(h:H fa=none)(ht:T fa=none)(hfg:fa≠ga)(hgf:g≠fa)(hn:l.Nodup)(hl:∀e,e∈l→e∈UN):CS H T N g gd fa ga l al (upd H2 fa (.set l k)) :=
 ⟨S.fr.put h,S.w.oth ht,(aq hgf).trans S.hg,⟨k,aj ..⟩,(aq hfg.symm).trans S.ha,hn,hl,S.au⟩
theorem CS.Dv{o:bL}(S:CS H T N g gd fa ga fs al H2)(h:H2 b=none):CS H T N g gd fa ga fs al (upd H2 b o) :=
 ⟨S.fr.trans ⟨fun x o h1 h2=>⟨(aq (ah h h1)).trans h1,h2⟩,fun _ _ h=>h⟩,S.w.oth (S.w.no h),(aq (ah h S.hg)).trans S.hg,S.hf.imp fun k h'=>(aq (ah h h')).trans h',(aq (ah h S.ha)).trans S.ha,S.nd,S.fu,S.au⟩
theorem G2:∀u,u∈UN→isStr u=true→False:=lB fun _ h=>Bool.false_ne_true h
variable{y:V}{F:Fn}
theorem AS{K:Env→Hp→Prop}{Q:PS}(E:CE g cc fa ga i ρ)(S:CS H T N g gd fa ga fs al H2)(hy:y∈UN)(hfa:H fa=none)(hga:H ga=none)(tfa:T fa=none)(tga:T ga=none)(hfg:fa≠ga)(hgf:g≠fa)(hgg:g≠ga)(hal:al.length≤15)
  (hK:∀fs' al' H3,CS H T N g gd fa ga fs' al' H3→(15-fs'.length)+al'.length=(15-fs.length)+al.length→K (put ρ "k" y) H3) :
  aO F [.ite (.cmp .notin (vr "k") (vr "found")) [.expr (b1 (vr "found") .add (vr "k")),.expr (b1 (vr "agenda") .append (vr "k"))] []] (put ρ "k" y) H2 (eF K Q) :=
 aL S.hf fun k hf=>aa E.f (yr hf (j7 y hy) (fun e he=>j7 e (S.fu e he)) (fun _=>aa rfl (hK fs al _ S rfl)) fun hn=>aa rfl (aa E.f ⟨.add hf,.add hf (.inr ⟨j7 y hy,fun e he=>j7 e (S.fu e he)⟩) (Nat.le_trans (jH S.nd S.fu) (of_decide_eq_true rfl)) (fun h=>(G2 y hy h).elim) fun es' k' hp=>by
  have hu:=fun e he=>gB S.fu hy e (hp.mem_iff.mp he)
  refine aa rfl (ay (aa E.a ⟨.append (S.fd (k:=k') hfa tfa hfg hgf (hp.nodup_iff.mpr (di S.nd)) hu).ha,.append (S.fd (k:=k') hfa tfa hfg hgf (hp.nodup_iff.mpr (di S.nd)) hu).ha (aF hal) (aa rfl (hK es' (al++[y]) _ ((S.fd (k:=k') hfa tfa hfg hgf (hp.nodup_iff.mpr (di S.nd)) hu).ag hga tga hfg hgg fun e he=>(List.mem_append.mp he).elim (S.au e) fun he=>List.mem_singleton.mp he▸hy) ?_))⟩))
  have h1:=jH (hp.nodup_iff.mpr (di S.nd)) hu
  have h2:=hp.length_eq
  simp only [cD hn,List.length_append] at h2
  rw [h2] at h1 ⊢
  rw [List.length_append,Nat.add_comm al.length,←Nat.add_assoc]
  exact congrArg (· + al.length) (Nat.sub_add_cancel (Nat.sub_pos_of_lt h1):15-fs.length-1+1=_)⟩))
theorem xM{Q:PS}(E:CE g cc fa ga i ρ)(S:CS H T N g (.dict ge gp) fa ga fs al H2)(hfa:H fa=none)(hga:H ga=none)(tfa:T fa=none)(tga:T ga=none)(hfg:fa≠ga)(hgf:g≠fa)(hgg:g≠ga)(hm:(15-fs.length)+al.length≤15)
  (hge:∀e,e∈ge→e.1∈UN∧∃b,e.2=.ref b∧T b=some (.st UN)) (q:∀ρ H2 fs,CE g cc fa ga i ρ→CS H T N g (.dict ge gp) fa ga fs [] H2→Q .next ρ H2) :
  wpS (wpF bodies n) (.while_ (vr "agenda") [.asg "j" (b0 (vr "agenda") .pop),.for_ ["k"] (.sorted (b2 (vr "graph") .get (vr "j") (.setNil))) [
   .ite (.cmp .notin (vr "k") (vr "found")) [.expr (b1 (vr "found") .add (vr "k")),.expr (b1 (vr "agenda") .append (vr "k"))] []]]) ρ H2 Q:=by
 refine ⟨16,lQ (fun m ρ H2=>∃fs al,CE g cc fa ga i ρ∧CS H T N g (.dict ge gp) fa ga fs al H2∧m=(15-fs.length)+al.length∧m≤15) (fun ρ H2=>∃fs,CE g cc fa ga i ρ∧CS H T N g (.dict ge gp) fa ga fs [] H2)
  (fun m ρ H2 K D Q h hK hD=>fm h fun fs al E S hm hm15=>?_) (fun ρ H h=>ao h fun fs E S=>q ρ H fs E S) 16 _ ρ H2 (Nat.lt_succ_of_le hm) ⟨fs,al,E,S,rfl,hm⟩⟩
 refine aa E.a (aa (CP S.ha (aF (Nat.le_trans (Nat.le_add_left ..) (hm▸hm15)))) ?_)
 rcases List.eq_nil_or_concat al with e | ⟨l,x,e⟩
 ·subst e;exact hD _ _ ⟨fs,E,S⟩
 ·simp only [List.concat_eq_append] at e
  subst e
  have hll:l.length<(l++[x]).length:=by simp only [List.length_append];exact Nat.lt_succ_self _
  rw [show (l++[x]).isEmpty=false from List.isEmpty_eq_false_iff.mpr (List.append_ne_nil_of_right_ne_nil _ (List.cons_ne_nil _ _))]
  refine aa E.a ⟨.pop S.ha,.pop S.ha (aF (Nat.le_trans (Nat.le_add_left ..) (hm▸hm15))) (aa E.g ⟨.get (S.ag hga tga hfg hgg fun e he=>S.au e (List.mem_append_left _ he)).hg,fun ks sa hsa=>?_⟩)⟩
  have S4:=(S.ag hga tga hfg hgg fun e he=>S.au e (List.mem_append_left _ he)).Dv (o:=.set [] ks) hsa
  have hv:∃sb es ke,(aE ge x).getD (.ref sa)=.ref sb∧upd (upd H2 ga (.list l)) sa (.set [] ks) sb=some (.set es ke)∧es.Nodup∧∀e,e∈es→e∈UN:=by
   cases hl:aE ge x with
   |none=>exact ⟨sa,[],ks,rfl,aj ..,.nil,nofun⟩
   |some v=>exact ao (hge _ (cA hl)).2 fun b h1 h2=>aP (S4.w.st h2) fun es k y1 y2 y3=>⟨b,es,k,h1,y1,y2,y3⟩
  refine .get S4.hg (eB x (S.au x (List.mem_append_right _ (.head _)))) (fun e he=>eB _ (hge e he).1) (kW hv fun sb es ke y0 y1 y2 y3=>y0.symm▸.mk y1 (fun e he=>lB (P:=fun u=>∃s t,u=.tup [.str s,.str t]) (fun s=>⟨_,s,rfl⟩) e (y3 e he)) (Nat.lt_of_le_of_lt (jH y2 y3) (of_decide_eq_true rfl)) fun l' hp=>bD (l:=l') (g:=id) (fun _ ρ5 H5=>∃fs' al',CE g cc fa ga i ρ5∧CS H T N g (.dict ge gp) fa ga fs' al' H5∧(15-fs'.length)+al'.length=(15-fs.length)+l.length) (bk (congrArg some (List.map_id l').symm)) ⟨fs,l,⟨E.g,E.c,E.i,E.f,E.a⟩,S4,rfl⟩ (fun _ _ _ _=>trivial)
   (fun a' y b' ρ5 H5 K5 Q5 hab h hK5=>aP h fun fs5 al5 E5 S5 hm5=>aa rfl (AS E5 S5 (y3 y (hp.mem_iff.mp (hab▸List.mem_append_right _ (.head _)))) hfa hga tfa tga hfg hgf hgg (Nat.le_trans (Nat.le_add_left _ _) (hm5▸Nat.le_trans (Nat.add_le_add_left (Nat.le_of_lt hll) _) (hm▸hm15))) fun fs6 al6 H6 S6 hm6=>hK5 _ _ ⟨fs6,al6,⟨E5.g,E5.c,E5.i,E5.f,E5.a⟩,S6,hm6.trans hm5⟩))
   fun ρ5 H5 h=>aP h fun fs5 al5 E5 S5 hm5=>hK _ _ _ ?_ ⟨fs5,al5,E5,S5,rfl,?_⟩)
  ·simp only [hm5,hm];exact Nat.add_lt_add_left hll _
  ·exact (hm5)▸Nat.le_trans (Nat.add_le_add_left (Nat.le_of_lt hll) _) (hm▸hm15)
theorem xR{Q:Option V→Hp→Prop}(w:WT T c H)(hg:T g=some (dUN UN))(hc:c≤5000)(q:∀H' T' cc,Fr H T H' T'→WT T' (2*c) H'→T' cc=some (dUN UN)→Q (some (.ref cc)) H') :
  aH (wpF bodies (n+1)) "transitive_closure" [.ref g] [] [] H Q:=by
 refine aP (w.dic hg) fun ge gp hgd hl hge=>fun ep0 cc hcc=>?_
 have hgc:=ah hcc hgd
 refine bD (l:=ge) (g:=fun e=>e.1) (fun a ρ H'=>∃T',ρ "graph"=some (.ref g)∧ρ "closure"=some (.ref cc)∧Fr (upd H cc (.dict [] ep0)) (tyS T cc (dUN UN)) H' T'∧WT T' (c+a.length) H'∧H' g=some (.dict ge gp)) (rD ((aq hgc).trans hgd) (aF (Nat.le_trans hl hc))) ⟨_,rfl,rfl,.refl,(w.new (o:=.dict [] ep0) (τ:=dUN UN) hcc (.dic (Nat.zero_le _) nofun)),((aq hgc).trans hgd)⟩ (fun a ρ H' h=>qL h fun _ _ _ _ _ h5=>h5.trans ((aq hgc).trans hgd).symm)
  (fun a e b ρ H' K Qk hab h hK=>qL h fun T' r1 r2 fr w' hg'=>?_) fun ρ H' h=>qL h fun T' r1 r2 fr w' hg'=>aa r2 (q H' T' cc ((Fr.new (o:=.dict [] ep0) (τ:=dUN UN) w hcc).trans fr) (w'.le (Nat.two_mul c▸Nat.add_le_add_left hl c)) (fr.m _ _ aR))
 have hi:=(hge e (hab▸List.mem_append_right _ (.head _))).1
 refine And.intro (.inr ⟨j7 _ hi,nofun⟩) fun k0 fa hfa ga hga'=>?_
 have hga:=(aq (ah hga' (aj ..)).symm).symm.trans hga'
 have tfa:=w'.no hfa
 refine xM (H:=H') (T:=T') (N:=c+a.length) (gp:=gp) (i:=e.1) ⟨r1,r2,rfl,rfl,rfl⟩ ⟨(Fr.refl.put hfa).put hga,(w'.oth tfa).oth (w'.no hga),(aq (ah hga hg')).trans ((aq (ah hfa hg')).trans hg'),⟨k0,(aq (ah hga' (aj ..))).trans (aj ..)⟩,aj ..,List.nodup_cons.mpr ⟨List.not_mem_nil,.nil⟩,fun x hx=>List.mem_singleton.mp hx▸hi,fun x hx=>List.mem_singleton.mp hx▸hi⟩ hfa hga tfa (w'.no hga) (ah hga' (aj ..)) (ah hfa hg') (ah hga hg') (Nat.le_refl _)
  (fun e he=>⟨(hge e he).1,(hge e he).2.imp fun b x=>⟨x.1,fr.m _ _ (fR (w.no hcc) _ _ x.2)⟩⟩) fun ρ2 H2 fs E S=>ay (aa E.f (aa E.c (aa E.i (aP (S.w.dic (fr.m _ _ aR)) fun ce cp h1 h2 h3=>aL S.hf fun k hf=>.dict h1 (.inr ⟨eB _ hi,fun e he=>eB _ (h3 e he).1⟩) (Nat.le_trans h2 ?_) fun ep2 =>
   hK _ _ ⟨tyS T' fa (.st UN),E.g,E.c,fr.trans ((S.fr.adopt hfa tfa).trans (Fr.upd (fR tfa _ _ (fr.m _ _ aR)))),?_,(aq hgc).trans S.hg⟩))))
 ·exact Nat.le_trans (Nat.add_le_add hc (Nat.le_trans (by simpa only [hab,List.length_append] using Nat.le_add_right _ _) (Nat.le_trans hl hc))) (of_decide_eq_true rfl)
 ·rw [List.length_append]
  exact (S.w.adopt tfa hf (.st S.nd S.fu)).upd (fR tfa _ _ (fr.m _ _ aR)) (Nat.le_succ _) (.put h2 (fun e he=>⟨(h3 e he).1,(h3 e he).2.imp fun b x=>⟨x.1,fR tfa _ _ x.2⟩⟩) hi aR)
end
end Mine.L
end
section
set_option backward.match.sparseCases false
namespace Mine.L
open PySem (Addr)
open scoped Classical
def Frx(dx:Addr)(H:Hp)(T:Tys)(H':Hp)(T':Tys):Prop:=∀b o,b≠dx→H b=some o→T b=none→H' b=some o∧T' b=none
section
variable{H0 H H' H2:Hp}{T T' T2:Tys}{a b d dx:Addr}{c m:Nat}{o:bL}{f:String→Option V}{U:List V}
theorem Fr.x(h:Fr H T H' T'):Frx dx H T H' T':=fun b o _=>h.k b o
theorem Fr.fresh(fr:Fr H T H' T')(w:WT T' c H')(h:H' d=none):H d=none:=by
 cases e:H d with
 |none=>rfl
 |some o =>
  cases e2:T d with
  |none=>exact fT h (fr.k _ _ e e2).1
  |some τ=>exact ao (w d τ (fr.m _ _ e2)) fun o h1 _=>fT h h1
theorem Frx.trans(h:Frx dx H T H' T')(g:Frx dx H' T' H2 T2):Frx dx H T H2 T2:=fun b o n h1 h2=>g b o n (h b o n h1 h2).1 (h b o n h1 h2).2
theorem Frx.set:Frx dx H T (upd H dx o) T:=fun _ _ n h1 h2=>⟨(aq n).trans h1,h2⟩
theorem Self.cls(S:Self H a dx f):ni H (.ref a)=some "CFG":=by simp only [ni,S.hi,S.hd]
noncomputable abbrev qQ(p:V×Addr):V:=.tup [p.1,.ref p.2]
noncomputable abbrev Ba(es:List (V×V))(p:V):List (V×V):=match p with
 |.tup [kv,wv]=>dput es kv wv
 |_=>es
theorem rK{P:V×V→Prop}:∀{ps:List (V×Addr)} {es:List (V×V)},(∀p,p∈ps→P (p.1,.ref p.2))→(∀e,e∈es→P e)→es.length+ps.length≤m →
  ((ps.map qQ).foldl Ba es).length≤m∧(∀e,e∈(ps.map qQ).foldl Ba es→P e)∧∀k,(k∈ps.map (·.1)∨∃v,aE es k=some v)→∃v,aE ((ps.map qQ).foldl Ba es) k=some v
 |[],es,_,h,hl=>⟨hl,h,fun _ h=>h.elim nofun id⟩
 |p::ps,es,hp,h,hl=>by
  have ih:=rK (P:=P) (ps:=ps) (es:=dput es p.1 (.ref p.2)) (fun q hq=>hp q (.tail _ hq)) (oJ (fun _ e=>e.symm▸hp p (.head _)) h) (Nat.le_trans (Nat.add_le_add_right dZ _) (Nat.le_trans (Nat.le_of_eq (Nat.succ_add_eq_add_succ es.length ps.length)) hl))
  refine ⟨ih.1,ih.2.1,fun k hk=>ih.2.2 k ?_⟩
  by_cases e:k=p.1
  ·exact (e).symm▸.inr ⟨_,cQ⟩
  ·exact hk.elim (fun hk=>.inl ((List.mem_cons.mp hk).resolve_left e)) fun hk=>.inr (hk.imp fun v hv=>(jX e).trans hv)
structure DS(T:Tys)(cats:List V)(U:List V)(es:List (V×V)):Prop where
 len:es.length≤15
 ty:∀e,e∈es→e.1∈UN∧∃b,e.2=.ref b∧T b=some (.st U)
 all:∀u,u∈cats→∃v,aE es u=some v
theorem DS.fr{cats:List V}{es:List (V×V)}(h:DS T cats U es)(g:Fr H T H' T'):DS T' cats U es:={ h with ty:=fun e he=>⟨(h.ty e he).1,(h.ty e he).2.imp fun b x=>⟨x.1,g.m _ _ x.2⟩⟩ }
theorem mX{F:Fn}{w:ME}{nm:String}{rest:List MS}{ρ:Env}{Q:PS}{cr:Addr}{cats:List V}(fe:V→List V)(hfe:∀u,u∈UN→(fe u).Nodup∧∀e,e∈fe u→e∈U)
  (hw:∀H (K:PV) u,u∈UN→(∀k b,H b=none→K (.ref b) (upd H b (.set (fe u) k)))→wpE F w (put (fun _=>none) "cat" u) H K)
  (O:Obj H0 a dx f T c H) (hs:ρ "self"=some (.ref a)) (hn:cR "CFG" nm=true) (hcat:f "_categories"=some (.ref cr)) (hc:H cr=some (.list cats)) (hu:∀u,u∈cats→u∈UN) (hl:cats.length≤15)
  (q:∀H' T' d es ep,Fr H T H' T'→WT T' c H'→DS T' cats U es→Own H0 T' H' d (.dict es ep)→H d=none→aO F rest ρ (upd H' dx (.attrs (c9 f nm (.ref d)))) Q) :
  aO F (.asgAttr "self" nm (.dcomp (vr "cat") w "cat" (slf "_categories"))::rest) ρ H Q:=by
 refine aa hs (O.s.at rfl hcat ?_)
 have hi:=bk (iB hc)
 refine And.intro hi.1 fun l' hl'=>hi.2 l' hl'▸j3 (fun l acc H'=>∃T' ps,cats=ps.map (·.1)++l∧acc=ps.map qQ∧Fr H T H' T'∧WT T' c H'∧H' cr=some (.list cats)∧∀p,p∈ps→T' p.2=some (.st U))
  (fun l acc H' h=>o5 h fun T' ps h1 h2 h3 h4 h5 h6=>⟨h5.trans hc.symm,?_⟩) (fun v vs acc H' K h hK=>o5 h fun T' ps h1 h2 h3 h4 h5 h6=>?_) (fun acc H' h ep d hd=>o5 h fun T' ps h1 h2 h3 h4 h5 h6=>?_) cats [] H ⟨T,[],rfl,rfl,.refl,O.w,hc,nofun⟩
 ·rw [h1,List.length_append,List.length_map] at hl
  rw [h2,List.length_map];exact aF (Nat.le_trans (Nat.le_add_right _ _) hl)
 ·have hv:v∈UN:=hu v (h1▸List.mem_append_right _ (.head _))
  refine hw _ _ v hv fun k b hb=>And.intro (eB v hv) (hK _ _ ⟨tyS T' b (.st U),ps++[(v,b)],?_,?_,h3.trans (Fr.new h4 hb),h4.new hb (.st (hfe v hv).1 (hfe v hv).2),(aq (ah hb h5)).trans h5,fun p hp=>(List.mem_append.mp hp).elim (fun hp=>fR (h4.no hb) _ _ (h6 p hp)) fun hp=>List.mem_singleton.mp hp▸aR⟩)
  ·rw [List.map_append,List.append_assoc];exact h1
  ·rw [List.map_append,h2];rfl
 ·rw [List.append_nil] at h1
  subst h2
  have F3:=rK (m:=15) (P:=fun e=>e.1∈UN∧∃b,e.2=.ref b∧T' b=some (.st U)) (es:=[]) (fun p hp=>⟨hu _ (h1▸List.mem_map.mpr ⟨p,hp,rfl⟩),p.2,rfl,h6 p hp⟩) nofun (by rw [h1,List.length_map] at hl;exact (Nat.zero_add _).symm▸hl)
  have O':=(O.fr h3 h4).new (o:=.dict ((ps.map qQ).foldl Ba []) ep) hd
  exact ⟨a,"CFG",dx,f,hn,hs,O'.1.s.hi,O'.1.s.hd,q _ T' d _ ep (h3.trans ⟨fun x o h1 h2=>⟨(aq (ah hd h1)).trans h1,h2⟩,fun _ _ h=>h⟩) O'.1.w ⟨F3.1,F3.2.1,fun u hu'=>F3.2.2 u (.inl (h1▸hu'))⟩ O'.2 (h3.fresh h4 hd)⟩
end
end Mine.L
end
section
namespace Mine.L
open PySem (Addr)
open scoped Classical
noncomputable abbrev UT:List V:=TT.map V.str
def UOk(U:List V):Prop:=U.length≤15∧((∀u,u∈U→isTup u=true)∨(∀u,u∈U→isStr u=true)∧U.length≤4)
theorem G1:UOk UN:=⟨Nat.le_refl _,.inl j7⟩
theorem pn:∀u,u∈UT→isStr u=true:=fun u hu=>(List.mem_map.mp hu).elim fun s x=>x.2▸rfl
theorem GX:UOk UT:=⟨(of_decide_eq_true rfl),.inr ⟨pn,(of_decide_eq_true rfl)⟩⟩
section
variable{H0 H H':Hp}{T T':Tys}{a b d dx:Addr}{c n:Nat}{f:String→Option V}{U:List V}{x:V}{Q:PV}
theorem zk(w:WT T c H)(tb:T b=some (.st U))(hU:UOk U)(hx:x∈U)(q:∀H',Fr H T H' T→WT T c H'→Q .none H'):BmW H Q (.ref b) [x] .add :=
 aP (w.st tb) fun es k h1 h2 h3=>.add h1 (hU.2.imp (fun h=>⟨h x hx,fun e he=>h e (h3 e he)⟩) (fun h=>⟨h.1 x hx,fun e he=>h.1 e (h3 e he)⟩) |>.symm) (Nat.le_trans (bO h2 h3) (Nat.le_trans hU.1 (of_decide_eq_true rfl)))
  (fun hs=>hU.2.elim (fun h=>by have:=h x hx;cases x<;>first | contradiction;done | cases this) fun h=>Nat.le_trans (bO (di h2) (gB h3 hx)) h.2)
  fun es' k' hp=>q _ (Fr.upd tb) (w.upd tb (Nat.le_refl _) (.st (hp.nodup_iff.mpr (di h2)) fun e he=>gB h3 hx e (hp.mem_iff.mp he)))
theorem Gs(w:WT T c H)(tb:T b=some (.st U)):BmK H (.ref b) .add:=aP (w.st tb) fun es k h1 _ _=>.add h1
noncomputable abbrev lcA(f:String→Option V)(d1 d2 cc wd:Addr):String→Option V:=c9 (c9 (c9 (c9 f "_immediate_leftcorner_categories" (.ref d1)) "_immediate_leftcorner_words" (.ref d2)) "_leftcorners" (.ref cc)) "_leftcorner_words" (.ref wd)
theorem ET{es:List (V×V)}{ep:Nat}{k d v:V}(h:H a=some (.dict es ep))(hk:isAtoms k=true)(hes:∀e,e∈es→isAtoms e.1=true)(e:(aE es k).getD d=v)(q:Q v H):BmW H Q (.ref a) [k,d] .get:=.get h hk hes (e.symm▸q)
theorem Fr.Dv{o:bL}(h:H b=none):Fr H T (Mine.upd H b o) T:=⟨fun x o h1 h2=>⟨(aq (ah h h1)).trans h1,h2⟩,fun _ _ h=>h⟩
theorem Am{ρ:Env}{Q:PS}{d2 sb lb:Addr}{D2:List (V×V)}{p2:Nat}{ls:List V}{k:aK}(O:Obj H0 a dx f T c H)(hs:ρ "self"=some (.ref a))(hl:ρ "lefts"=some (.ref lb))(hlc:ρ "lc"=some (.ref sb))(hf:f "_immediate_leftcorner_words"=some (.ref d2))
  (h2:H d2=some (.dict D2 p2)) (hD:∀e,e∈D2→e.1∈UN∧∃b,e.2=.ref b∧T b=some (.st UT)∧b≠sb) (tb:T sb=some (.st UT)) (hlb:H lb=some (.set ls k)) (hn:ls.Nodup) (hls:∀e,e∈ls→e∈UN) (hne:lb≠sb)
  (td:T d2=none) (q:∀ρ H',ρ "self"=some (.ref a)→Obj H0 a dx f T c H'→Fr H T H' T→(∀b o,b≠sb→H b=some o→H' b=some o)→Q .next ρ H') :
  wpS (wpF bodies n) (.for_ ["left"] (vr "lefts") [.expr (b1 (vr "lc") .update (b2 (slf "_immediate_leftcorner_words") .get (vr "left") (.setNil)))]) ρ H Q:=by
 refine aa hl (And.intro (by delta iterable;dsimp only;exact (hlb)▸⟨Nat.le_trans (jH hn hls) (of_decide_eq_true rfl),fun e he=>j7 e (hls e he)⟩) fun l' hl'=>?_)
 refine (List.map_id l')▸?_
 refine mj (l:=l') (g:=id) (fun _ ρ H'=>ρ "self"=some (.ref a)∧ρ "lc"=some (.ref sb)∧Obj H0 a dx f T c H'∧Fr H T H' T∧∀b o,b≠sb→H b=some o→H' b=some o) (fun _ ρ H' h=>(h.2.2.2.2 _ _ hne hlb).trans hlb.symm) (fun a' y b' ρ' H' K hab h hK=>DC h fun hs hlc O' fr ne=>?_) (fun ρ H' h=>q ρ H' h.1 h.2.2.1 h.2.2.2.1 h.2.2.2.2) l' [] ρ H rfl ⟨hs,hlc,O,.refl,fun _ _ _ h=>h⟩
 have h2':=(fr.k _ _ h2 td).1
 refine aP (O'.w.st tb) fun es0 k0 g1 g2 g3=>aa rfl (aa hlc ⟨.update g1,aa hs (O'.s.at rfl hf ⟨.get h2',fun ks sa hsa=>?_⟩)⟩)
 have hv:∃wb,(aE D2 y).getD (.ref sa)=.ref wb∧wb≠sb∧∃fs k1,upd H' sa (.set [] ks) wb=some (.set fs k1)∧fs.Nodup∧∀e,e∈fs→e∈UT:=by
  cases hl:aE D2 y with
  |none=>exact ⟨sa,rfl,(ah hsa g1).symm,[],ks,aj ..,.nil,nofun⟩
  |some v=>exact br (hD _ (cA hl)).2 fun b h1 h2 h3=>aP (O'.w.st h2) fun fs k1 y1 y2 y3=>⟨b,h1,h3,fs,k1,(aq (ah hsa y1)).trans y1,y2,y3⟩
 refine br hv fun wb y0 y1 y2=>aP y2 fun fs k1 y2 y3 y4=>ET ((aq (ah hsa h2')).trans h2') (eB y (hls y ((show l'.Perm ls from by unfold bQ at hl';dsimp only at hl';rw [hlb] at hl';exact hl').mem_iff.mp (hab▸List.mem_append_right _ (.head _))))) (fun e he=>eB _ (hD e he).1) y0 (.update ((aq (ah hsa g1)).trans g1) y1 y2 (fun x hx=>(List.mem_append.mp hx).elim (fun h=>pn x (g3 x h)) fun h=>pn x (y4 x h)) (Nat.add_le_add (bO g2 g3) (bO y3 y4)) fun gs k2 z1 z2=>aa rfl (hK _ _ ⟨hs,hlc,(O'.new hsa).1.fr (Fr.upd tb) ((O'.new hsa).1.w.upd tb (Nat.le_refl _) (.st z1 fun e he=>((z2 e).mp he).elim (g3 e) (y4 e))),(fr.trans (Fr.Dv hsa)).trans (Fr.upd tb),fun b o hb ho=>(aq hb).trans ((aq (ah hsa (ne b o hb ho))).trans (ne b o hb ho))⟩))
theorem yN{F:Fn}{s:MS}{ρ:Env}{Q:PS}(q:wpS F s ρ H (sH (fun ρ H Q=>aO F [] ρ H Q) Q)):aO F [s] ρ H Q:=q
theorem BW{ρ:Env}{Q:PS}{d2 cc wd:Addr}{D2:List (V×V)}{p2:Nat}(O:Obj H0 a dx f T c H)(hs:ρ "self"=some (.ref a))(hc:c≤20000)(f1:f "_leftcorners"=some (.ref cc))(f2:f "_leftcorner_words"=some (.ref wd))(f3:f "_immediate_leftcorner_words"=some (.ref d2))
  (h2:H d2=some (.dict D2 p2)) (td:T d2=none) (hD:∀e,e∈D2→e.1∈UN∧∃b,e.2=.ref b∧T b=some (.st UT)) (tc:T cc=some (dUN UN)) (tw:T wd=some (dUN UT)) (hne:cc≠wd)
  (q:∀ρ H' T',Obj H0 a dx f T' (2*c) H'→Fr H T H' T'→Q .next ρ H') :
  wpS (wpF bodies n) (.for_ ["cat"] (slf "_leftcorners") [
   .asg "lefts" (.sub (slf "_leftcorners") (vr "cat")),
   .asg2 "lc" (slf "_leftcorner_words") (vr "cat") (.setNil),
   .for_ ["left"] (vr "lefts") [.expr (b1 (vr "lc") .update (b2 (slf "_immediate_leftcorner_words") .get (vr "left") (.setNil)))]]) ρ H Q:=by
 refine aP (O.w.dic tc) fun ce cp h1 hl hce=>aa hs (O.s.at rfl f1 (bD (l:=ce) (g:=fun e=>e.1) (fun b ρ H'=>∃T',ρ "self"=some (.ref a)∧Obj H0 a dx f T' (c+b.length) H'∧Fr H T H' T'∧H' cc=some (.dict ce cp)) (rD h1 (aF (Nat.le_trans hl hc))) ⟨T,hs,O,.refl,h1⟩ (fun b ρ H' h=>jF h fun _ _ _ _ h4=>h4.trans h1.symm)
  (fun b e b' ρ H' K Qk hab h hK=>jF h fun T' hs O' fr hcc=>?_) fun ρ H' h=>jF h fun T' hs O' fr hcc=>q ρ H' T' (O'.le (Nat.two_mul c▸Nat.add_le_add_left hl c)) fr))
 have he:=hab▸List.mem_append_right _ (.head _)
 refine (jC ⟨e,he,rfl⟩).elim fun v hv=>ao (hce _ (cA hv)).2 fun lb x1 x2=>aa rfl (aa hs (O'.s.at rfl f1 (.dict hcc (.inr ⟨eB _ (hce e he).1,(fun e h=>eB _ (hce e h).1)⟩) hv fun k sb hsb=>?_)))
 subst x1
 have w2:=O'.w.new (o:=.set [] k) (τ:=.st UT) hsb (.st .nil nofun)
 have g2:=Fr.new (o:=.set [] k) (τ:=.st UT) O'.w hsb
 have tw2:=g2.m _ _ (fr.m _ _ tw)
 refine aa hs ((O'.fr g2 w2).s.at rfl f2 (aP (w2.dic tw2) fun we wp y1 y2 y3=>.dict y1 (.inr ⟨eB _ (hce e he).1,fun e h=>eB _ (y3 e h).1⟩) (Nat.le_trans y2 ?_) fun ep=>?_))
 ·exact Nat.le_trans (Nat.add_le_add hc (Nat.le_trans (by simpa only [hab,List.length_append] using Nat.le_add_right _ _) (Nat.le_trans hl hc))) (of_decide_eq_true rfl)
 ·have w3:=w2.upd tw2 (Nat.le_succ _) (.put (ep:=ep) y2 y3 (hce e he).1 aR)
  have hsc:=ah hsb hcc
  refine aP (w3.st (g2.m _ _ (fr.m _ _ x2))) fun ls k2 z1 z2 z3=>ay (yN (Am ((O'.fr g2 w2).fr (Fr.upd tw2) w3) hs rfl rfl f3 (((fr.trans g2).trans (Fr.upd (o:=.dict (dput we e.1 (.ref sb)) ep) tw2)).k _ _ h2 td).1 (fun e he=>⟨(hD e he).1,(hD e he).2.imp fun b x=>⟨x.1,g2.m _ _ (fr.m _ _ x.2),aP (O'.w.st (fr.m _ _ x.2)) fun _ _ h _ _=>ah hsb h⟩⟩) aR z1 z2 z3 (aP (O'.w.st (fr.m _ _ x2)) fun _ _ h _ _=>ah hsb h) (((fr.trans g2).trans (Fr.upd (o:=.dict (dput we e.1 (.ref sb)) ep) tw2)).k _ _ h2 td).2
   fun ρ H4 hs O4 g4 k4=>hK _ _ ⟨_,hs,by rw [List.length_append];exact O4,((fr.trans g2).trans (Fr.upd (o:=.dict (dput we e.1 (.ref sb)) ep) tw2)).trans g4,k4 _ _ hsc ((aq hne).trans ((aq hsc).trans hcc))⟩))
theorem An{ρ:Env}{Q:PS}{d1 d2:Addr}{D1 D2:List (V×V)}{p1 p2:Nat}{cats:List V}{R:List av}(O:Obj H0 a dx f T c H)(hs:ρ "self"=some (.ref a))(hp:f "_productions"=some (.lst (R.map aB)))(f1:f "_immediate_leftcorner_categories"=some (.ref d1))(f2:f "_immediate_leftcorner_words"=some (.ref d2))
  (h1:H d1=some (.dict D1 p1)) (t1:T d1=none) (ds1:DS T cats UN D1) (h2:H d2=some (.dict D2 p2)) (t2:T d2=none) (ds2:DS T cats UT D2) (hw:WF R) (hR:∀r,r∈R→cB r.1∈cats)
  (q:∀ρ H',ρ "self"=some (.ref a)→Obj H0 a dx f T c H'→Fr H T H' T→Q .next ρ H') :
  wpS (wpF bodies (n+1)) (.for_ ["prod"] (m0 (vr "self") "productions") [
   .ite (.cmp .gt (len (vr "prod")) (nm 0)) [
    .asgs ["cat","left"] (.tup [key (m0 (vr "prod") "lhs"),.sub (m0 (vr "prod") "rhs") (nm 0)]),
    .ite (.call "is_nonterminal" [vr "left"])
     [.expr (b1 (.sub (slf "_immediate_leftcorner_categories") (vr "cat")) .add (key (vr "left")))]
     [.expr (b1 (.sub (slf "_immediate_leftcorner_words") (vr "cat")) .add (vr "left"))]] []]) ρ H Q:=by
 refine aa hs (bC O.s.cls (O.s.at rfl hp (bD (l:=R) (g:=aB) (fun _ ρ H'=>ρ "self"=some (.ref a)∧Obj H0 a dx f T c H'∧Fr H T H' T) (bk rfl) ⟨hs,O,.refl⟩ (fun _ _ _ _=>trivial)
  (fun b r b' ρ H' K Qk hab h hK=>bG h fun hs O' fr=>?_) fun ρ H' h=>q ρ H' h.1 h.2.1 h.2.2)))
 have hcat:=hR r (hab▸List.mem_append_right _ (.head _))
 obtain ⟨X,β⟩:=r
 refine bG (hw _ (hab▸List.mem_append_right _ (.head _))) fun w1 w2 w3=>?_
 refine aa rfl (sJ (r:=(X,β)) (aF w2) (bS (uI (fun h=>aa rfl ?_) fun h=>aa rfl (hK _ _ ⟨hs,O',fr⟩))))
 cases β with
 |nil=>exact absurd h (Int.lt_irrefl 0)
 |cons s β =>
  refine kJ (i:=0) rfl (of_decide_eq_true rfl) (aa rfl (zh (aa rfl (aa rfl ?_))))
  cases hT:isT s with
  |true=>exact (ds2.all _ hcat).elim fun v hv=>ao (ds2.ty _ (cA hv)).2 fun y x1 x2=>aa hs (O'.s.at rfl f2 (.dict (fr.k _ _ h2 t2).1 (.inr ⟨rfl,(fun e h=>eB _ (ds2.ty e h).1)⟩) hv (by
    cases x1
    exact ⟨Gs O'.w x2,zk O'.w x2 GX (lC hT▸List.mem_map.mpr ⟨_,gj hT,rfl⟩) fun H2 g w=>aa rfl (hK _ _ ⟨hs,O'.fr g w,fr.trans g⟩)⟩)))
  |false=>exact (ds1.all _ hcat).elim fun v hv=>ao (ds1.ty _ (cA hv)).2 fun y x1 x2=>aa hs (O'.s.at rfl f1 (.dict (fr.k _ _ h1 t1).1 (.inr ⟨rfl,(fun e h=>eB _ (ds1.ty e h).1)⟩) hv (by
    cases x1
    refine ⟨Gs O'.w x2,uL (aa rfl (zk O'.w x2 G1 ?_ fun H2 g w=>aa rfl (hK _ _ ⟨hs,O'.fr g w,fr.trans g⟩)))⟩
    exact (show dQ s=cB s from if_neg (hT▸Bool.false_ne_true))▸yD (iQ (w3 s (.head _)) hT))))
theorem nE{Q:Option V→Hp→Prop}{cr:Addr}{cats:List V}{R:List av}(O:Obj H0 a dx f T c H)(hp:f "_productions"=some (.lst (R.map aB)))(hcat:f "_categories"=some (.ref cr))(hcr:Own H0 T H cr (.list cats))(hu:∀u,u∈cats→u∈UN)(hcl:cats.length≤15)(hR:∀r,r∈R→cB r.1∈cats)(hw:WF R)(hc:c≤4000)
  (q:∀H' T' c' d1 d2 cc wd,Obj H0 a dx (lcA f d1 d2 cc wd) T' c' H'→Frx dx H T H' T'→Q (some .none) H'):aH (wpF bodies (n+2)) "CFG._calculate_leftcorners" [.ref a] [] [] H Q:=by
 refine gx rfl rfl rfl rfl (mX (w:=.set1 (vr "cat")) (U:=UN) (fun u=>[u]) (fun u hu=>⟨List.nodup_cons.mpr ⟨List.not_mem_nil,.nil⟩,fun e he=>List.mem_singleton.mp he▸hu⟩) (fun H K u hu h=>And.intro (.inr ⟨j7 u hu,nofun⟩) h) O rfl rfl hcat hcr.1 hu hcl fun H1 T1 d1 D1 p1 g1 w1 ds1 o1 n1=>?_)
 have O1:=O.fr g1 w1
 refine mX (w:=.setNil) (U:=UT) (fun u=>[]) (fun u hu=>⟨.nil,nofun⟩) (fun H K u hu h=>h) O1.set rfl rfl hcat ((hcr.fr g1).set (m:="_immediate_leftcorner_categories") (v:=.ref d1) O1 rfl).1 hu hcl fun H3 T3 d2 D2 p2 g3 w3 ds2 o3 n3=>?_
 have O3:=O1.set.fr g3 w3
 have a4:=((o1.set (m:="_immediate_leftcorner_categories") (v:=.ref d1) O1 rfl).fr g3).set (m:="_immediate_leftcorner_words") (v:=.ref d2) O3 rfl
 refine ay (An O3.set rfl hp rfl rfl a4.1 a4.2.1 (ds1.fr g3) (o3.set (m:="_immediate_leftcorner_words") (v:=.ref d2) O3 rfl).1 (o3.set (m:="_immediate_leftcorner_words") (v:=.ref d2) O3 rfl).2.1 ds2 hw hR fun ρ H5 hs O5 g5=>?_)
 have a5:=a4.fr g5
 have w6:WT (tyS T3 d1 (dUN UN)) (c+15) H5:=(O5.w.le (Nat.le_add_right c 15)).adopt a5.2.1 a5.1 (.dic (Nat.le_trans ds1.len (Nat.le_add_left ..)) fun e he=>⟨((ds1.fr g3).ty e he).1,((ds1.fr g3).ty e he).2.imp fun b x=>⟨x.1,fR a5.2.1 _ _ x.2⟩⟩)
 have X6:Frx dx H T H5 (tyS T3 d1 (dUN UN)):=fun b o n h1 h2=>have z:=((((g1.x.trans Frx.set).trans g3.x).trans Frx.set).trans g5.x) b o n h1 h2;⟨z.1,(cY (ah n1 h1)).trans z.2⟩
 refine aa hs (O5.s.at rfl rfl (xR w6 aR (Nat.le_trans (Nat.add_le_add_right hc 15) (of_decide_eq_true rfl)) fun H7 T7 cc g7 w7 t7=>aa rfl ?_))
 have O7:=(show Obj H0 a dx (c9 (c9 f "_immediate_leftcorner_categories" (.ref d1)) "_immediate_leftcorner_words" (.ref d2)) (tyS T3 d1 (dUN UN)) (c+15) H5 from ⟨O5.s,w6,fun b o h n=>have z:=O5.old b o h n;⟨z.1,(cY (ah a5.2.2 h)).trans z.2⟩⟩).fr g7 w7
 have O8:=O7.set (m:="_leftcorners") (v:=.ref cc)
 refine ⟨a,"CFG",dx,_,rfl,hs,O7.s.hi,O7.s.hd,fun ep wd hwd=>?_⟩
 have g9:=Fr.new (o:=.dict [] ep) (τ:=dUN UT) O8.w hwd
 have O9:=O8.fr g9 (O8.w.new (o:=.dict [] ep) (τ:=dUN UT) hwd (.dic (Nat.zero_le _) nofun))
 refine ⟨a,"CFG",dx,_,rfl,hs,O9.s.hi,O9.s.hd,yN (BW O9.set hs (Nat.le_trans (Nat.mul_le_mul_left 2 (Nat.add_le_add_right hc 15)) (of_decide_eq_true rfl)) rfl rfl rfl (((((show Own H0 (tyS T3 d1 (dUN UN)) H5 d2 (.dict D2 p2) from ⟨((o3.set (m:="_immediate_leftcorner_words") (v:=.ref d2) O3 rfl).fr g5).1,(cY (ah n3 (o1.set (m:="_immediate_leftcorner_categories") (v:=.ref d1) O1 rfl).1).symm).trans ((o3.set (m:="_immediate_leftcorner_words") (v:=.ref d2) O3 rfl).fr g5).2.1,((o3.set (m:="_immediate_leftcorner_words") (v:=.ref d2) O3 rfl).fr g5).2.2⟩).fr g7).set (m:="_leftcorners") (v:=.ref cc) O7 rfl).fr g9).set (m:="_leftcorner_words") (v:=.ref wd) O9 rfl).1 (((((show Own H0 (tyS T3 d1 (dUN UN)) H5 d2 (.dict D2 p2) from ⟨((o3.set (m:="_immediate_leftcorner_words") (v:=.ref d2) O3 rfl).fr g5).1,(cY (ah n3 (o1.set (m:="_immediate_leftcorner_categories") (v:=.ref d1) O1 rfl).1).symm).trans ((o3.set (m:="_immediate_leftcorner_words") (v:=.ref d2) O3 rfl).fr g5).2.1,((o3.set (m:="_immediate_leftcorner_words") (v:=.ref d2) O3 rfl).fr g5).2.2⟩).fr g7).set (m:="_leftcorners") (v:=.ref cc) O7 rfl).fr g9).set (m:="_leftcorner_words") (v:=.ref wd) O9 rfl).2.1 (fun e he=>⟨(ds2.ty e he).1,(ds2.ty e he).2.imp fun b x=>⟨x.1,g9.m _ _ (g7.m _ _ (fR a5.2.1 _ _ x.2))⟩⟩) (g9.m _ _ t7) aR (aP (O8.w.dic t7) fun _ _ h _ _=>ah hwd h)
  fun ρ HA TA OA gA=>ay (nil_of (q HA TA _ d1 d2 cc wd OA (((((X6.trans g7.x).trans Frx.set).trans g9.x).trans Frx.set).trans gA.x))))⟩
end
end Mine.L
end
section
namespace Mine.L
open PySem (Addr)
open scoped Classical
section
variable{H H' H0 M:Hp}{n:Nat}{a b dx:Addr}{f f':String→Option V}{T T' T0:Tys}{c c0:Nat}{o:bL}{R:List av}
theorem call_k{f:String}{vs ks:List V}{kn:List String}{as:List Ar}{xs:List String}{ss:List MS}{Q:Option V→Hp→Prop}(e1:fills.lookup (f,vs.length,kn)=some as)(e2:bodies f=some (xs,ss))(e3:(xs.length==(as.map (·.v vs ks)).length)=true)(q:aO (wpF bodies n) ss (fun x=>(xs.zip (as.map (·.v vs ks))).lookup x) H (vQ Q)) :
  aH (wpF bodies (n+1)) f vs kn ks H Q:=by
 unfold aH;rw [e1];show onS (bodies f) _;rw [e2];show cond (xs.length==(as.map (·.v vs ks)).length) _ _;rw [e3];exact q
theorem Obj.base(O:Obj M a dx f T0 c0 H)(O':Obj H a dx f' T c H'):Obj M a dx f' T c H':={ O' with old:=fun b o h n=>O'.old b o (O.old b o h n).1 n }
theorem Obj.but(O:Obj M a dx f T c H)(S:Self H' a dx f')(e:∀b,b≠dx→H' b=H b):Obj M a dx f' T c H' :=
 ⟨S,fun b τ h=>ao (O.w b τ h) fun o h1 h2=>⟨o,(e b fun e=>fT (O.w.obj (O.s.hd▸rfl)) (e▸h)).trans h1,h2⟩,fun b o h n=>have z:=O.old b o h n;⟨(e b n).trans z.1,z.2⟩⟩
theorem Own.CV(h:Own H0 T H b o)(ho:isObj (some o)=false)(S:Self H a dx f):b≠dx:=(pC (h.1▸ho) (S.hd▸rfl)).symm
theorem HT{st:Nm}{li ei:Addr}{mi ma:Int}(S:Self H a dx f)(L:LI H0 T H li R)(E:EI H0 T H ei R)(hl:R.length≤big)(s:f "_start"=some (.nt st))(p:f "_productions"=some (.lst (R.map aB)))(nl:f "_is_nonlexical"=some (.bool (nlR R)))(ul:f "_all_unary_are_lexical"=some (.bool (ulR R)))
  (h1:f "_min_len"=some (.int mi)) (h2:f "_max_len"=some (.int ma)) (hmi:uG mi R) (hma:uH ma R) (l:f "_lhs_index"=some (.ref li)) (e:f "_empty_index"=some (.ref ei)):G H a st R :=
 fm L fun le lp l1 _ l3 l4=>fm E fun ee ep e1 e2 _ e4=>.mk (dx:=dx) (f:=f) (li:=li) (ei:=ei) (le:=le) (ee:=ee) (lp:=lp) (ep:=ep) (mi:=mi) (ma:=ma) ⟨S.hi,S.hd,s,p,nl,ul,h1,hmi,h2,hma,l,l1.1,⟨l3,fun X hX=>(l4 X hX).imp id fun x=>br x fun b x1 x2 _=>⟨b,x1,x2.1⟩⟩,e,e1.1,Nat.le_trans e2 hl,e4⟩
theorem jq{st:Nm}{Q:PV}(hw:WF R)(hR:R≠[])(hl:R.length≤19000)(q:∀a H',Ext H H'→H a=none→G H' a st R→Q (.ref a) H'):o8 (wpF bodies (n+6)) H Q "CFG" [.nt st,.lst (R.map aB)] [] []:=by
 refine .cfg fun a dx hadx ha hdx=>?_
 have S0:Self (made H dx a "CFG" fun _=>none) a dx (fun _=>none):=⟨aj ..,(aq hadx.symm).trans (aj ..)⟩
 have x0:Ext H (made H dx a "CFG" fun _=>none):=((Ext.refl H).new hdx).new ha
 generalize made H dx a "CFG" (fun _=>none)=M at S0 x0 ⊢
 have O:Obj M a dx (fun _=>none) (fun _=>none) 0 M:=⟨S0,nofun,fun _ _ h _=>⟨h,rfl⟩⟩
 have O1:=O.set (m:="_start") (v:=.nt st)
 have O2:=O1.set (m:="_productions") (v:=.lst (R.map aB))
 refine call_k rfl rfl rfl (Exists.intro a ⟨"CFG",dx,_,rfl,rfl,S0.hi,S0.hd,Exists.intro a ⟨"CFG",dx,_,rfl,rfl,O1.s.hi,O1.s.hd,fun cr hcr=>?_⟩⟩)
 have O3:=O2.new (o:=.list []) hcr
 refine ⟨a,"CFG",dx,_,rfl,rfl,O3.1.s.hi,O3.1.s.hd,?_⟩
 have O4:=O3.1.set (m:="_categories") (v:=.ref cr)
 have c4:=O3.2.set (m:="_categories") (v:=.ref cr) O3.1 rfl
 refine ay (bD (l:=R) (g:=aB) (fun b ρ H'=>∃cats,ρ "self"=some (.ref a)∧ρ "calculate_leftcorners"=some (.bool true)∧Obj M a dx _ (fun _=>none) 0 H'∧Own M (fun _=>none) H' cr (.list cats)∧cats.Nodup∧(∀u,u∈cats→u∈UN)∧∀r,r∈b→cB r.1∈cats) (bk rfl) ⟨[],rfl,rfl,O4,c4,.nil,nofun,nofun⟩ (fun _ _ _ _=>trivial)
  (fun b r e ρ H' K Qk hb h hK=>GD h fun cats r1 r2 O5 c5 h2 h3 h4=>?_) fun ρ H4 h=>GD h fun cats r1 r2 O5 c5 h2 h3 h4=>?_)
 ·have hr:r∈R:=hb▸List.mem_append_right _ (.head _)
  have hin:cB r.1∈UN:=yD (hw r hr).1
  have hm:∀{cs:List V},(∀u,u∈cats→u∈cs)→cB r.1∈cs→∀r',r'∈b++[r]→cB r'.1∈cs:=fun h0 h1 r' hr'=>(List.mem_append.mp hr').elim (fun h=>h0 _ (h4 r' h)) fun h=>List.mem_singleton.mp h▸h1
  exact aa rfl (aa r1 (O5.s.at rfl rfl (fy (k:=true) (iB c5.1) rfl (fun x hx=>lB (P:=fun u=>pk true 6 u=true) (fun _=>rfl) x (h3 x hx)) (fun hi=>aa rfl (hK _ _ ⟨cats,r1,r2,O5,c5,h2,h3,hm (fun _ h=>h) hi⟩))
   fun hi=>aa rfl (aa r1 (O5.s.at rfl rfl ⟨.append c5.1,.append c5.1 (aF (jH h2 h3)) (aa rfl (hK _ _ ⟨cats++[cB r.1],r1,r2,O5.own c5 rfl,c5.self,cD hi▸di h2,cD hi▸gB h3 hin,hm (fun _ h=>List.mem_append_left _ h) (List.mem_append_right _ (.head _))⟩))⟩)))))
 ·have ncr:=c5.CV rfl O5.s
  refine ay (aa r1 (bC O5.s.cls (xO O5.s rfl hw hl fun H5 T5 cn li ri ei xi OI L E=>aa rfl (aa rfl (ay (aa r1 (bC OI.s.cls (Cm OI.s rfl hw hR fun mi ma H6 hmi hma S6 e6=>aa rfl (aa rfl (ay (aa r2 (aa rfl (aa r1 (bC S6.cls ?_))))))))))))))
  have o6:=(O5.base OI).but S6 e6
  have O6:Obj M a dx _ (fun _=>none) 0 H6:=⟨S6,nofun,fun b o h n=>⟨(o6.old b o h n).1,rfl⟩⟩
  have zc:=OI.old cr _ c5.1 ncr
  refine nE O6 rfl rfl ⟨(e6 cr ncr).trans zc.1,rfl,c5.2.2⟩ h3 (jH h2 h3) h4 hw (Nat.zero_le _) fun H7 T7 c7 d1 d2 cc wd O7 X7=>aa rfl (aa rfl (ay (nil_of (ay (nil_of (aa rfl ⟨rfl,q a H7 (fun b o ho=>(O7.old b o (x0 b o ho) (ah hdx ho)).1) ha ?_⟩))))))
  have cv:∀b o,isObj (some o)=false→Own H4 T5 H5 b o→Own H4 T7 H7 b o:=fun b o ho x=>have n:=x.CV ho OI.s;have z:=X7 b o n ((e6 b n).trans x.1) rfl;⟨z.1,z.2,x.2.2⟩
  exact HT O7.s (L.imp fun b o ho _=>cv b o ho) (fm E fun ee ep e1 e2 e3 e4=>⟨ee,ep,cv _ _ rfl e1,e2,e3,e4⟩) (Nat.le_trans hl (by decide)) rfl rfl rfl rfl rfl rfl hmi hma rfl rfl
end
end Mine.L
end
section
namespace Mine.L
open scoped Classical
noncomputable abbrev N3:List Nm:=[nS,nA,nB]
noncomputable def DE:List Nm:=[bH nS nS,bH nS nA,bH nS nB,bH nA nS,bH nA nA,bH nA nB,bH nB nS,bH nB nA,bH nB nB]
noncomputable def bW(R:List av):List av×Nm:=if R.any (fun r=>r.2.contains nS) then (R++[(nS0,[nS])],nS0) else (R,nS)
noncomputable def qV(r:av):List av:=match r.2 with
 |[a,b,c]=>[(r.1,[a,bH r.1 a]),(bH r.1 a,[b,c])]
 |_=>[r]
noncomputable def iw(R:List av):List av:=R.flatMap qV
noncomputable def kT(s:Nm):Nm:=if isT s then dum s else s
noncomputable def iR(r:av):List av:=if aV r.2||decide (r.2.length≤1) then [r] else (r.2.filter isT).map (fun t=>(dum t,[t]))++[(r.1,r.2.map kT)]
noncomputable def dP(R:List av):List av:=R.flatMap iR
noncomputable def aW(r:av):Bool:=r.2.length==1&&aV r.2
section
variable{w:List Nm}{D D':Rel}{R R':List av}
theorem Der.trm{s:Nm}{i j:Nat}(h:trm w s i j):Der R w s i j:=⟨0,h⟩
theorem Der.sub(h:∀r,r∈R→r∈R'){X:Nm}{i j:Nat}(x:Der R w X i j):Der R' w X i j:=x.ind (P:=Der R' w) (fun _ _ _=>.trm) fun X r i j m y=>.mk (h _ m) y
theorem AM{S0 S:Nm}(hT:isT S0=false)(h1:∀r,r∈R→r.1≠S0)(h2:∀r,r∈R→S0∉r.2){i j:Nat}(hS:S≠S0):Der (R++[(S0,[S])]) w S0 i j↔Der R w S i j:=by
 refine ⟨fun x=>?_,fun x=>.mk (r:=[S]) (List.mem_append_right _ (.head _)) (cI.mpr (x.sub fun r m=>List.mem_append_left _ m))⟩
 have key:=x.ind (P:=fun X i j=>(X=S0→Der R w S i j)∧(X≠S0→Der R w X i j)) (fun s i j h=>⟨fun e=>(Bool.false_ne_true (hT.symm.trans (e▸h.1))).elim,fun _=>.trm h⟩) fun X r i j m y=>?_
 ·exact key.1 rfl
 ·refine (List.mem_append.mp m).elim (fun m=>⟨fun e=>absurd e (h1 _ m),fun _=>.mk m (cj (fun s hs i j z=>z.2 fun e=>h2 _ m (e▸hs)) y)⟩) fun m=>?_
  cases List.mem_singleton.mp m
  exact ⟨fun _=>(cI.mp y).2 hS,fun e=>absurd rfl e⟩
structure Dl(R:List av):Prop where
 fresh:∀l a b c,(l,[a,b,c])∈R→isT (bH l a)=false∧∀r,r∈R→r.1≠bH l a∧bH l a∉r.2
 inj:∀l a b c l' a' b' c',(l,[a,b,c])∈R→(l',[a',b',c'])∈R→bH l a=bH l' a'→l=l'∧a=a'
theorem ne3{l:List Nm}(h:l.length≠3)(a b c:Nm):l≠[a,b,c]:=fun e=>h (congrArg List.length e)
theorem eS{P:List av→Prop}{r:av}(h3:∀a b c,r.2=[a,b,c]→P [(r.1,[a,bH r.1 a]),(bH r.1 a,[b,c])])(h1:(∀a b c,r.2≠[a,b,c])→P [r]):P (qV r):=by
 obtain ⟨X,l⟩:=r
 cases l with
 |nil=>exact h1 (ne3 (of_decide_eq_true rfl))
 |cons a l=>cases l with
  |nil=>exact h1 (ne3 (of_decide_eq_true rfl))
  |cons b l=>cases l with
   |nil=>exact h1 (ne3 (of_decide_eq_true rfl))
   |cons c l=>cases l with
    |nil=>exact h3 a b c rfl
    |cons d l=>exact h1 (ne3 fun e=>Nat.succ_ne_zero _ (Nat.succ.inj (Nat.succ.inj (Nat.succ.inj e))))
theorem A2(K:Dl R){X:Nm}{i j:Nat}(hX:∀l a b c,(l,[a,b,c])∈R→X≠bH l a):Der (iw R) w X i j↔Der R w X i j:=by
 refine ⟨fun x=>?_,fun x=>x.ind (fun _ _ _=>.trm) fun X r i j m y=>eS (r:=(X,r)) (P:=fun L=>(∀z,z∈L→z∈iw R)→Der (iw R) w X i j) (fun a b c e h=>?_) (fun _ h=>.mk (h _ (.head _)) y) fun z hz=>List.mem_flatMap.mpr ⟨_,m,hz⟩⟩
 ·refine (x.ind (P:=fun X i j=>(∃l a b c,(l,[a,b,c])∈R∧X=bH l a∧aY (Der R w) [b,c] i j)∨((∀l a b c,(l,[a,b,c])∈R→X≠bH l a)∧Der R w X i j))
   (fun s i j h=>.inr ⟨fun l a b c hm e=>(Bool.false_ne_true ((K.fresh l a b c hm).1.symm.trans (e▸h.1))).elim,.trm h⟩) fun X r i j m y=>?_).elim (fun x=>vO x fun l a b c h1 h2 _=>absurd h2 (hX l a b c h1)) fun x=>x.2
  refine (List.mem_flatMap.mp m).elim fun q hq=>?_
  have old:∀s,s∈q.2→∀i j,((∃l a b c,(l,[a,b,c])∈R∧s=bH l a∧aY (Der R w) [b,c] i j)∨((∀l a b c,(l,[a,b,c])∈R→s≠bH l a)∧Der R w s i j))→Der R w s i j :=
   fun s hs i j z=>z.elim (fun z=>vO z fun l a b c h1 h2 _=>absurd (h2▸hs) ((K.fresh l a b c h1).2 q hq.1).2) fun z=>z.2
  have new:=fun l a b c h=>((K.fresh l a b c h).2 q hq.1).1
  refine eS (r:=q) (P:=fun L=>(X,r)∈L→_) (fun a b c e h=>?_) (fun _ h=>?_) hq.2
  ·obtain ⟨l,β⟩:=q
   subst e
   refine (List.mem_cons.mp h).elim (fun h=>?_) fun h=>?_
   ·cases h
    exact .inr ⟨new,ao y fun k y1 y2=>ao y2 fun k2 y3 y4=>y4▸y3.elim (fun z=>vO z fun l' a' b' c' h1 h2 y5=>by
     refine cX (K.inj _ _ _ _ _ _ _ _ hq.1 h1 h2) ?_;rintro rfl rfl
     exact .mk h1 ⟨k,old _ (.head _) _ _ y1,y5⟩) fun z=>absurd rfl (z.1 _ _ _ _ hq.1)⟩
   ·cases List.mem_singleton.mp h
    exact .inl ⟨l,a,b,c,hq.1,rfl,cj (fun s hs=>old s (.tail _ hs)) y⟩
  ·cases List.mem_singleton.mp h
   exact .inr ⟨new,.mk hq.1 (cj old y)⟩
 ·subst e
  exact ao y fun k y1 y2=>.mk (h _ (.head _)) ⟨k,y1,j,.mk (h _ (.tail _ (.head _))) y2,rfl⟩
structure Dj(R:List av):Prop where
 fresh:∀t,isT t=true→isT (dum t)=false∧∀r,r∈R→r.1≠dum t∧dum t∉r.2
 inj:∀t t',isT t=true→isT t'=true→dum t=dum t'→t=t'
 nt:∀r,r∈R→isT r.1=false
theorem lZ{P:Nm→Prop}{s:Nm}(h1:isT s=true→P (dum s))(h2:isT s=false→P s):P (kT s):=by
 delta kT
 cases h:isT s with
 |true=>exact h1 h
 |false=>exact h2 h
theorem eL{P:List av→Prop}{r:av}(h1:(aV r.2||decide (r.2.length≤1))=true→P [r])(h2:(aV r.2||decide (r.2.length≤1))=false→P ((r.2.filter isT).map (fun t=>(dum t,[t]))++[(r.1,r.2.map kT)])):P (iR r):=by
 delta iR
 cases h:aV r.2||decide (r.2.length≤1) with
 |true=>exact h1 h
 |false=>exact h2 h
theorem Ab(K:Dj R){X:Nm}{i j:Nat}(hX:∀t,isT t=true→X≠dum t):Der (dP R) w X i j↔Der R w X i j:=by
 refine ⟨fun x=>?_,fun x=>x.ind (fun _ _ _=>.trm) fun X r i j m y=>eL (r:=(X,r)) (P:=fun L=>(∀z,z∈L→z∈dP R)→Der (dP R) w X i j) (fun _ h=>.mk (h _ (.head _)) y) (fun _ h=>?_) fun z hz=>List.mem_flatMap.mpr ⟨_,m,hz⟩⟩
 ·refine (x.ind (P:=fun X i j=>(∃t,isT t=true∧X=dum t∧trm w t i j)∨((∀t,isT t=true→X≠dum t)∧Der R w X i j∧(isT X=true→trm w X i j))) (fun s i j h=>.inr ⟨fun t ht e=>(Bool.false_ne_true ((K.fresh t ht).1.symm.trans (e▸h.1))).elim,.trm h,fun _=>h⟩) fun X r i j m y=>?_).elim (fun x=>br x fun t h1 h2 _=>absurd h2 (hX t h1)) fun x=>x.2.1
  refine (List.mem_flatMap.mp m).elim fun q hq=>?_
  have old:∀s,s∈q.2→∀i j,((∃t,isT t=true∧s=dum t∧trm w t i j)∨((∀t,isT t=true→s≠dum t)∧Der R w s i j∧(isT s=true→trm w s i j)))→Der R w s i j :=
   fun s hs i j z=>z.elim (fun z=>br z fun t h1 h2 _=>absurd (h2▸hs) ((K.fresh t h1).2 q hq.1).2) fun z=>z.2.1
  have new:=fun t h=>((K.fresh t h).2 q hq.1).1
  refine eL (r:=q) (P:=fun L=>(X,r)∈L→_) (fun _ h=>?_) (fun _ h=>(List.mem_append.mp h).elim (fun h=>(List.mem_map.mp h).elim fun t ht=>?_) fun h=>?_) hq.2
  ·cases List.mem_singleton.mp h
   exact .inr ⟨new,.mk hq.1 (cj old y),fun h=>(Bool.false_ne_true ((K.nt _ hq.1).symm.trans h)).elim⟩
  ·refine cX ht ?_;clear ht;rintro ht e
   cases e
   have hT:=(List.mem_filter.mp ht).2
   exact .inl ⟨t,hT,rfl,(cI.mp y).elim (fun z=>br z fun t' h1 h2 _=>(Bool.false_ne_true ((K.fresh t' h1).1.symm.trans (h2▸hT))).elim) fun z=>z.2.2 hT⟩
  ·cases List.mem_singleton.mp h
   exact .inr ⟨new,.mk (r:=q.2) hq.1 (cj (fun s hs i j z=>lZ (P:=fun s'=>((∃t,isT t=true∧s'=dum t∧trm w t i j)∨((∀t,isT t=true→s'≠dum t)∧Der R w s' i j∧(isT s'=true→trm w s' i j)))→Der R w s i j)
    (fun hT z=>z.elim (fun z=>br z fun t h1 h2 h3=>by exact (K.inj _ _ hT h1 h2)▸.trm h3) fun z=>absurd rfl (z.1 s hT)) (fun _=>old s hs i j) z) (jP.mp y)),fun h=>(Bool.false_ne_true ((K.nt _ hq.1).symm.trans h)).elim⟩
 ·refine .mk (h _ (List.mem_append_right _ (.head _))) (jP.mpr (cj (fun s hs i j z=>lZ (P:=fun s'=>Der (dP R) w s' i j) (fun hT=>.mk (h _ (List.mem_append_left _ (List.mem_map.mpr ⟨s,List.mem_filter.mpr ⟨hs,hT⟩,rfl⟩))) (cI.mpr z)) fun _=>z) y))
structure pL(R R':List av):Prop where
 sound:∀X β,(X,β)∈R'→∀(w:List Nm) i j,aY (Der R w) β i j→Der R w X i j
 keep:∀r,r∈R→aW r=false→r∈R'
 nt:∀r,r∈R→isT r.1=false
 ch:∃ch:Nm→Nm→Prop,(∀X Y,(X,[Y])∈R→isT Y=false→ch X Y)∧(∀X Y Z,ch X Y→(Y,[Z])∈R→isT Z=false→ch X Z)∧∀X Y β,ch X Y→(Y,β)∈R→aW (Y,β)=false→(X,β)∈R'
theorem Dt{b:Bool}(h:(!b)=true):b=false:=by cases b with
 |true=>exact h.symm
 |false=>rfl
theorem cu{r:av}:aW r=true↔∃Y,r.2=[Y]∧isT Y=false:=by
 refine Bool.and_eq_true_iff.trans ⟨fun h=>(List.length_eq_one_iff.mp (beq_iff_eq.mp h.1)).elim fun s hs=>⟨s,hs,?_⟩,fun h=>ao h fun Y h1 h2=>?_⟩
 ·have:=h.2;rw [hs] at this;simpa [aV] using this
 ·rw [h1];simp [aV,h2]
theorem zq(K:pL R R'){X:Nm}{i j:Nat}:Der R' w X i j↔Der R w X i j:=by
 refine ⟨fun x=>x.ind (P:=Der R w) (fun _ _ _=>.trm) fun X r i j m y=>K.sound X r m w i j y,fun x=>br K.ch fun ch c1 c2 c3=>?_⟩
 have key:=x.ind (P:=fun X i j=>(isT X=true→trm w X i j)∧(isT X=false→∀X0,X0=X∨ch X0 X→Der R' w X0 i j)) (fun s i j h=>⟨fun _=>h,fun e=>(Bool.false_ne_true (e.symm.trans h.1)).elim⟩) fun X r i j m y=>⟨fun e=>(Bool.false_ne_true ((K.nt _ m).symm.trans e)).elim,fun _ X0 h0=>?_⟩
 ·cases hT:isT X with
  |true=>exact .trm (key.1 hT)
  |false=>exact key.2 hT X (.inl rfl)
 ·cases hu:aW (X,r) with
  |true =>
   refine ao (cu.mp hu) fun s h1 hT=>?_
   subst h1
   exact (cI.mp y).2 hT X0 (.inr (h0.elim (fun e=>c1 _ _ (e▸m) hT) fun h0=>c2 _ _ _ h0 m hT))
  |false =>
   refine .mk (h0.elim (fun e=>e▸K.keep _ m hu) fun h0=>c3 _ _ _ h0 m hu) (fL (fun s i j z=>?_) y)
   cases hT:isT s with
   |true=>exact .trm (z.1 hT)
   |false=>exact z.2 hT s (.inl rfl)
end
end Mine.L
end
section
namespace Mine.L
open scoped Classical
def Sd(R:List av)(X:Nm)(β:List Nm):Prop:=∀(w:List Nm) (i j:Nat),aY (Der R w) β i j→Der R w X i j
structure kF(R Rr Ur:List av)(ch:Nm→Nm→Prop):Prop where
 a:∀r,r∈Rr→aW r=false∧r.1∈NN∧(∃r0,r0∈R∧r0.2=r.2)∧Sd R r.1 r.2
 b:∀r,r∈Ur→(∃Y,r.2=[Y]∧Y∈NN)∧r.1∈NN∧Sd R r.1 r.2
 c:∀r,r∈R→aW r=false→r∈Rr
 d:∀X Y,(X,[Y])∈R→isT Y=false→ch X Y∨(X,[Y])∈Ur
 e:∀X Y β,ch X Y→(Y,β)∈R→(aW (Y,β)=false→(X,β)∈Rr)∧∀Z,β=[Z]→isT Z=false→ch X Z∨(X,[Z])∈Ur
section
variable{R Rr Ur:List av}{ch:Nm→Nm→Prop}{X Y:Nm}
theorem kF.start(hw:WF R):kF R (R.filter fun r=>!aW r) (R.filter aW) (fun _ _=>False) where
 a:=fun r hr=>have h:=List.mem_filter.mp hr;⟨Dt h.2,(hw r h.1).1,⟨r,h.1,rfl⟩,fun w i j=>.mk h.1⟩
 b:=fun r hr=>have h:=List.mem_filter.mp hr;⟨ao (cu.mp h.2) fun Y h3 h4=>⟨Y,h3,iQ ((hw r h.1).2.2 Y (h3▸.head _)) h4⟩,(hw r h.1).1,fun w i j=>.mk h.1⟩
 c:=fun r hr hu=>List.mem_filter.mpr ⟨hr,hu▸rfl⟩
 d:=fun X Y hm hT=>.inr (List.mem_filter.mpr ⟨hm,cu.mpr ⟨Y,rfl,hT⟩⟩)
 e:=fun _ _ _ h=>h.elim
theorem kF.skip(h:kF R Rr ((X,[Y])::Ur) ch)(hc:ch X Y):kF R Rr Ur ch :=
 have g:∀a b,ch a b∨(a,[b])∈(X,[Y])::Ur→ch a b∨(a,[b])∈Ur:=fun a b h=>h.elim .inl fun h=>(List.mem_cons.mp h).elim (fun e=>.inl (by cases e;exact hc)) .inr
 { a:=h.a,b:=fun r hr=>h.b r (.tail _ hr),c:=h.c,d:=fun a b hm hT=>g _ _ (h.d a b hm hT),e:=fun a b β hc' hm=>⟨(h.e a b β hc' hm).1,fun Z hZ hT=>g _ _ ((h.e a b β hc' hm).2 Z hZ hT)⟩ }
noncomputable def newR(X:Nm)(u:Bool)(c:List av):List av:=(c.filter fun r=>aW r==u).map fun r=>(X,r.2)
theorem rz{u:Bool}{r:av}(h:r∈newR X u (R.filter fun r=>r.1=Y)):r.1=X∧(Y,r.2)∈R∧aW (Y,r.2)=u:=(List.mem_map.mp h).elim fun q x=>by
 refine cX x ?_;clear x;rintro hq rfl
 have h2:=List.mem_filter.mp (List.mem_filter.mp hq).1
 skip
 cases (of_decide_eq_true h2.2:q.1=Y)
 exact ⟨rfl,h2.1,beq_iff_eq.mp (List.mem_filter.mp hq).2⟩
theorem BU{β:List Nm}(h:(Y,β)∈R):(X,β)∈newR X (aW (Y,β)) (R.filter fun r=>r.1=Y):=List.mem_map.mpr ⟨(Y,β),List.mem_filter.mpr ⟨List.mem_filter.mpr ⟨h,decide_eq_true rfl⟩,beq_iff_eq.mpr rfl⟩,rfl⟩
theorem kF.step(hw:WF R)(h:kF R Rr ((X,[Y])::Ur) ch){ch':Nm→Nm→Prop}(hc:∀a b,ch' a b↔ch a b∨(a=X∧b=Y)):kF R (Rr++newR X false (R.filter fun r=>r.1=Y)) (Ur++newR X true (R.filter fun r=>r.1=Y)) ch':=by
 refine bG (h.b (X,[Y]) (.head _)) fun _ hX hs=>?_
 have shift:∀{a b:Nm},ch a b∨(a,[b])∈(X,[Y])::Ur→ch' a b∨(a,[b])∈Ur++newR X true (R.filter fun r=>r.1=Y):=fun {a b} hh =>
  hh.elim (fun hh=>.inl ((hc a b).mpr (.inl hh))) fun hh=>(List.mem_cons.mp hh).elim (fun e=>.inl ((hc a b).mpr (.inr (by cases e;exact ⟨rfl,rfl⟩)))) fun hh=>.inr (List.mem_append_left _ hh)
 refine ⟨fun r hr=>(List.mem_append.mp hr).elim (h.a r) fun hr=>?_,fun r hr=>(List.mem_append.mp hr).elim (fun hr=>h.b r (.tail _ hr)) fun hr=>?_,fun r hr hu=>List.mem_append_left _ (h.c r hr hu),fun a b hm hT=>shift (h.d a b hm hT),fun a b β hc' hm=>((hc a b).mp hc').elim (fun hh=>⟨fun hu=>List.mem_append_left _ ((h.e a b β hh hm).1 hu),fun Z hZ hT=>shift ((h.e a b β hh hm).2 Z hZ hT)⟩) fun e=>?_⟩
 ·refine bG (rz hr) fun h1 h2 h3=>?_
  exact ⟨h3,h1▸hX,⟨_,h2,rfl⟩,h1▸(fun β hm w i j x=>hs w i j (cI.mpr (.mk hm x))) _ h2⟩
 ·refine bG (rz hr) fun h1 h2 h3=>?_
  exact ⟨ao (cu.mp h3) fun Z h4 h5=>⟨Z,h4,iQ ((hw _ h2).2.2 Z (h4▸.head _)) h5⟩,h1▸hX,h1▸(fun β hm w i j x=>hs w i j (cI.mpr (.mk hm x))) _ h2⟩
 ·refine cX e ?_;clear e;rintro rfl rfl
  have:=BU (X:=a) hm
  refine ⟨fun hu=>List.mem_append_right _ (hu▸this),fun Z hZ hT=>.inr (List.mem_append_right _ ?_)⟩
  subst hZ
  rw [cu.mpr ⟨Z,rfl,hT⟩] at this;exact this
theorem kF.fin(hw:WF R)(h:kF R Rr [] ch):pL R Rr where
 sound:=fun X β hm=>(h.a (X,β) hm).2.2.2
 keep:=h.c
 nt:=fun r hr=>c6 (hw r hr).1
 ch:=⟨ch,fun X Y hm hT=>(h.d X Y hm hT).resolve_right List.not_mem_nil,fun X Y Z hc hm hT=>((h.e X Y _ hc hm).2 Z rfl hT).resolve_right List.not_mem_nil,fun X Y β hc hm hu=>(h.e X Y β hc hm).1 hu⟩
end
end Mine.L
end
section
namespace Mine.L
open PySem (Addr)
open scoped Classical
section
variable{n:Nat}{H H':Hp}{F:Fn}{a x dx g:Addr}{st:Nm}{R:List av}
theorem l5{c:String}{f f':String→Option V}(h:x≠dx):upd (made H dx x c f) dx (.attrs f')=made H dx x c f':=by
 funext b
 by_cases e:b=dx
 ·exact (e).symm▸(aj ..).trans ((aq h.symm).trans (aj ..)).symm
 ·refine (aq e).trans ?_
  by_cases e':b=x
  ·exact (e').symm▸(aj ..).trans (aj ..).symm
  ·exact (aq e').trans ((aq e).trans ((aq e').trans (aq e)).symm)
theorem jJ{s:Nm}{Q:PV}(q:Q (.nt s) H):o8 (wpF bodies (n+1)) H Q "Nonterminal" [.str s] [] [] :=
 .nt (fun x dx h hx hd=>gx rfl rfl rfl rfl ⟨x,"Nonterminal",dx,_,rfl,rfl,aj ..,(aq h.symm).trans (aj ..),⟨rfl,l5 h⟩⟩) q
theorem ou{l:Nm}{v:V}{items:List V}{ρ:Env}{Q:Option V→Hp→Prop}(h:x≠dx)(hx:H x=none)(hd:H dx=none)(r1:ρ "self"=some (.ref x))(r2:ρ "lhs"=some (.nt l))(r3:ρ "rhs"=some v)(hv:v=.tup items∨listOf H v=some items)(hz:items.length≤big)
  (q:Q (some .none) (made H dx x "Production" fun m=>if m="_rhs" then some (.tup items) else if m="_lhs" then some (.nt l) else none)):aO (wpF bodies n) vH ρ (made H dx x "Production" fun _=>none) (vQ Q):=by
 have E:∀f,Ext H (made H dx x "Production" f):=fun f=>((Ext.refl H).new hd).new hx
 have key:aO (wpF bodies n) [.asgAttr "self" "_lhs" (vr "lhs"),.asgAttr "self" "_rhs" (.bi .tuple [vr "rhs"])] ρ (made H dx x "Production" fun _=>none) (vQ Q) :=
  aa r2 ⟨x,"Production",dx,_,rfl,r1,aj ..,(fun f=>(aq h.symm).trans (aj ..)) _,aa r3 (by
   exact (l5 h).symm▸(show ∀(f:String→Option V) (K:PV),K (.tup items) (made H dx x "Production" f)→BiW (wpF bodies n) (made H dx x "Production" f) K .tuple [v] from fun f K k=>hv.elim (fun e=>e▸.tupT k) fun e=>.tupL (l6 e (E f)) hz k) _ _ ⟨x,"Production",dx,_,rfl,r1,aj ..,(fun f=>(aq h.symm).trans (aj ..)) _,by exact (l5 h).symm▸q⟩)⟩
 refine aa r3 ?_
 rcases hv with rfl | e
 ·exact ⟨rfl,key⟩
 ·rcases gT e with rfl | ⟨b,rfl,ho⟩
  ·exact ⟨rfl,key⟩
  ·exact ⟨rfl,⟨items,E _ _ _ ho⟩,key⟩
theorem eK{l:Nm}{v:V}{items:List V}{Q:PV}(hv:v=.tup items∨listOf H v=some items)(hz:items.length≤big)(q:Q (.prod l items) H):o8 (wpF bodies (n+1)) H Q "Production" [.nt l,v] [] [] :=
 .prod (fun x dx h hx hd=>gx rfl rfl rfl rfl (ou h hx hd rfl rfl rfl hv hz (aa rfl ⟨rfl,rfl⟩))) q
theorem wO{l:Nm}{v:V}{items:List V}{Q:PV}(hv:v=.tup items∨listOf H v=some items)(hz:items.length≤big)(q:Q (.prod l items) H):o8 (wpF bodies (n+1)) H Q "Production" [.nt l] ["rhs"] [v] :=
 .prod (fun x dx h hx hd=>call_k rfl rfl rfl (ou h hx hd rfl rfl rfl hv hz (aa rfl ⟨rfl,rfl⟩))) q
theorem rB{s t:Nm}(h:dQ s=dQ t):s=t:=by
 delta dQ at h
 cases h1:isT s<;>cases h2:isT t<;>rw [h1,h2] at h<;>exact V.str.inj (List.cons.inj (List.cons.inj (V.tup.inj h)).2).1
theorem yV{s:Nm}{r:List Nm}:dQ s∈r.map dQ↔s∈r:=⟨fun h=>(List.mem_map.mp h).elim fun t ht=>rB ht.2▸ht.1,fun h=>List.mem_map.mpr ⟨s,h,rfl⟩⟩
theorem BL(k:Bool)(s:Nm):pk k 6 (dQ s)=true:=gQ (P:=fun _ _ v=>pk k 6 v=true) s rfl rfl
theorem xP{Q:Option V→Hp→Prop}(hw:WF R)(hR:R≠[])(hl:R.length≤400)(q:∀a H',Ext H H'→H a=none→G H' a nS R→Q (some (.ref a)) H'):aH (wpF bodies (n+7)) "_law_grammar" [.lst (R.map bu)] [] [] H Q :=
 gx rfl rfl rfl rfl (aN (And.intro nofun (fK (l:=R) bu aB (bk rfl) (Nat.le_trans hl (of_decide_eq_true rfl)) (fun r hr K hK=>jJ (And.intro nofun (fK (l:=r.2) V.str bZ (bk rfl) (aF (hw r hr).2.1) (fun s hs K' hK'=>lH ((hw r hr).2.2 s hs) (aa rfl (by
  cases hT:isT s with
  |true=>exact lC hT▸hK'
  |false=>exact jJ (gq hT▸hK'))))
  (eK (.inr rfl) (by rw [List.length_map];exact aF (hw r hr).2.1) hK)))) (jJ (jq hw hR (Nat.le_trans hl (of_decide_eq_true rfl)) fun a H' e1 e2 g=>q a H' e1 e2 g)))))
theorem G.el{P:Prop}(h:G H g st R)(k:∀dx f li ei le ee lp ep mi ma,IsG H g st R dx f li ei le ee lp ep mi ma→P):P:=by
 cases h with | mk h=>exact k _ _ _ _ _ _ _ _ _ _ h
theorem i7{x:String}{ρ:Env}{Q:PV}(h:G H g st R)(hx:ρ x=some (.ref g))(q:Q (.lst (R.map aB)) H):wpE (wpF bodies (n+1)) (m0 (vr x) "productions") ρ H Q:=h.el fun _ _ _ _ _ _ _ _ _ _ G=>aa hx (bC G.cls (vG G (aa rfl q)))
theorem vp{x:String}{ρ:Env}{Q:PV}(h:G H g st R)(hx:ρ x=some (.ref g))(q:Q (.nt st) H):wpE (wpF bodies (n+1)) (m0 (vr x) "start") ρ H Q:=h.el fun _ _ _ _ _ _ _ _ _ _ G=>aa hx (bC G.cls (kR G (aa rfl q)))
theorem aT{x:String}{e:ME}{ρ:Env}{l:List V}{v:V}{rest:List MS}{Q:PS}(hx:ρ x=some (.ref a))(ha:H a=some (.list l))(hl:l.length≤big)(he:∀K:PV,K v H→wpE F e ρ H K)(q:aO F rest ρ (upd H a (.list (l++[v]))) Q):aO F (.expr (b1 (vr x) .append e)::rest) ρ H Q :=
 aa hx ⟨.append ha,he _ (.append ha hl (aa rfl q))⟩
theorem ja(h:Ext H H')(ha:H a=none):Ext H (del H' a):=fun b o e=>(if_neg (ah ha e)).trans (h b o e)
theorem p9{ρ:Env}{R':List av}{Q:Option V→Hp→Prop}(h:G H g st R)(hg:ρ "grammar"=some (.ref g))(hr:ρ "result"=some (.ref a))(ha:H a=some (.list (R'.map aB)))(hw:WF R')(hR:R'≠[])(hl:R'.length≤19000)(q:∀c H',Ext (del H a) H'→G H' c st R'→Q (some (.ref c)) H') :
  aO (wpF bodies (n+6)) [.asg "n_grammar" (.new "CFG" [m0 (vr "grammar") "start",.frz (vr "result")] [] []),.ret (vr "n_grammar")] ρ H (vQ Q) :=
 aN (vp h hg (aa hr (.mk ha (jq hw hR hl fun c H' e1 _ g=>q c H' e1 g))))
end
end Mine.L
end
section
namespace Mine.L
open PySem (Addr)
open scoped Classical
section
variable{n:Nat}{H:Hp}{F:Fn}{g:Addr}{st:Nm}{R:List av}
theorem gw{xs:List String}{iter:ME}{body rest:List MS}{ρ:Env}{Q:PS}(q:wpE F iter ρ H fun v H1=>iterable H1 v∧∀l,bQ H1 v l→forL (fun ρ H Q=>aO F body ρ H Q) (Still v H1) xs l ρ H1 (sH (fun ρ H Q=>aO F rest ρ H Q) Q)):aO F (.for_ xs iter body::rest) ρ H Q:=q
theorem cC{x:String}{v:V}{ρ:Env}(h:ρ x=some v)(K:PV)(k:K v H):wpE F (vr x) ρ H K:=aa h k
theorem DN{r:av}(hw:WF R)(h:r.1∈NN∧r.2.length≤3∧∀s∈r.2,okN s):WF (R++[r]):=fun q hq=>(List.mem_append.mp hq).elim (hw q) fun e=>List.mem_singleton.mp e▸h
theorem uc{b c:List av}{r:av}{m k:Nat}(hb:R=b++r::c)(hl:R.length≤m)(hm:m≤big:=by decide):(b.map aB).length≤big:=by
 rw [List.length_map];exact Nat.le_trans (Nat.le_trans (by rw [hb,List.length_append];exact Nat.le_add_right _ _) hl) hm
theorem E3{Q:Option V→Hp→Prop}(h:G H g nS R)(hw:WF R)(hR:R≠[])(hl:R.length≤300)(q:∀a H',Ext H H'→G H' a (bW R).2 (bW R).1→Q (some (.ref a)) H'):aH (wpF bodies (n+7)) "CFG.eliminate_start" [.cls "CFG",.ref g] [] [] H Q:=by
 refine gx rfl rfl rfl rfl (aN (vp h rfl (aN fun res hres=>gw (i7 (h.ext ((Ext.refl H).new hres)) rfl (bD (l:=R) (g:=aB) (fun b ρ H'=>ρ "grammar"=some (.ref g)∧ρ "start"=some (.nt nS)∧ρ "result"=some (.ref res)∧ρ "need_to_add"=some (if b.any (fun r=>r.2.contains nS) then .bool true else .none)∧Ext H H'∧H' res=some (.list (b.map aB))) (bk rfl)
  ⟨rfl,rfl,rfl,rfl,(Ext.refl H).new hres,aj ..⟩ (fun _ _ _ _=>trivial) (fun b r c ρ H' K Qk hb h hK=>vP h fun r1 r2 r3 r4 hE hr'=>?_) fun ρ H' h'=>vP h' fun r1 r2 r3 r4 hE hr'=>?_)))))
 ·have hr:r∈R:=hb▸List.mem_append_right _ (.head _)
  have go:∀ρ2:Env,ρ2 "grammar"=some (.ref g)→ρ2 "start"=some (.nt nS)→ρ2 "result"=some (.ref res)→ρ2 "rule"=some (aB r)→ρ2 "need_to_add"=some (if (b++[r]).any (fun r=>r.2.contains nS) then .bool true else .none) →
    aO (wpF bodies (n+6)) [.expr (b1 (vr "result") .append (vr "rule"))] ρ2 H' (eF K Qk):=fun ρ2 e1 e2 e3 e4 e5=>aT e3 hr' (uc (k:=0) hb hl) (cC e4) (nil_of (hK _ _ ⟨e1,e2,e3,e5,hE.new hres,(aj ..).trans (by rw [List.map_append];rfl)⟩))
  have hany:(b++[r]).any (fun r=>r.2.contains nS)=(b.any (fun r=>r.2.contains nS)||r.2.contains nS):=by rw [List.any_append,List.any_cons,List.any_nil,Bool.or_false]
  refine aa rfl (aa r2 (And.intro nofun (fK (l:=r.2) bZ dQ iZ (aF (hw r hr).2.1) (fun s _ K hK=>uL (aa rfl hK)) (fy (k:=true) rfl rfl (fun x hx=>(List.mem_map.mp hx).elim fun s y=>y.2▸BL _ _) (fun hi=>aa rfl (go _ r1 r2 r3 rfl ?_)) fun hi=>aa rfl (go _ r1 r2 r3 rfl ?_)))))
  ·rw [hany,List.contains_iff_mem.mpr (yV (s:=nS).mp hi),Bool.or_true];rfl
  ·rw [hany,show r.2.contains nS=false from Bool.eq_false_iff.mpr fun e=>hi (yV (s:=nS).mpr (List.contains_iff_mem.mp e)),Bool.or_false];exact r4
 ·have hlm:(R.map aB).length≤big:=by rw [List.length_map];exact Nat.le_trans hl (by decide)
  refine ay (aa r4 ?_)
  unfold bW at q
  cases e:R.any fun r=>r.2.contains nS with
  |true =>
   rw [e] at q
   refine aa rfl (aN (jJ (aT (v:=.prod nS0 [.nt nS]) r3 hr' hlm (fun K k=>(h.ext hE).el fun _ _ _ _ _ _ _ _ _ _ G=>aa r1 (bC G.cls (kR G (aa rfl (eK (.inr rfl) (by decide) k))))) (aN (aa r3 (.mk (aj ..) ?_))))))
   have hm:R.map aB++[V.prod nS0 [.nt nS]]=(R++[(nS0,[nS])]).map aB:=by rw [List.map_append];rfl
   rw [hm]
   exact jq (n:=n) (DN hw ⟨by decide,by decide,fun s hs=>List.mem_singleton.mp hs▸.inl (by decide)⟩) (List.append_ne_nil_of_right_ne_nil _ (List.cons_ne_nil _ _)) (by rw [List.length_append];exact Nat.le_trans (Nat.succ_le_succ hl) (by decide)) fun a H2 e1 e2 g2=>q a H2 ((ja (hE.new hres) hres).trans e1) g2
  |false=>rw [e] at q;exact aa rfl (aa r1 (q g H' hE (h.ext hE)))
end
end Mine.L
end
section
namespace Mine.L
open PySem (Addr)
open scoped Classical
section
variable{n:Nat}{H:Hp}{F:Fn}{g:Addr}{st:Nm}{R:List av}
theorem oH{f:av→List av}{b:List av}{r:av}:(b++[r]).flatMap f=b.flatMap f++f r:=by rw [List.flatMap_append,List.flatMap_cons,List.flatMap_nil,List.append_nil]
theorem vz{f:av→List av}(hf:∀r,f r≠[])(h:R≠[]):R.flatMap f≠[]:=by
 obtain ⟨r,R',rfl⟩:=List.exists_cons_of_ne_nil h
 rw [List.flatMap_cons];exact fun e=>hf r (List.append_eq_nil_iff.mp e).1
theorem pZ{f:av→List av}{m:Nat}:∀{l:List av},(∀r,r∈l→(f r).length≤m)→(l.flatMap f).length≤l.length*m
 |[],_=>Nat.zero_le _
 |x::l,h=>by rw [List.flatMap_cons,List.length_append,List.length_cons,Nat.succ_mul,Nat.add_comm];exact Nat.add_le_add (pZ fun r hr=>h r (.tail _ hr)) (h x (.head _))
theorem mG:(iw R).length≤R.length*2:=pZ fun r _=>eS (P:=fun l=>l.length≤2) (fun _ _ _ _=>Nat.le_refl _) fun _=>Nat.le_succ _
theorem Cu(h:R≠[]):iw R≠[]:=vz (fun r=>eS (P:=fun l=>l≠[]) (fun _ _ _ _=>List.cons_ne_nil _ _) fun _=>List.cons_ne_nil _ _) h
theorem Cv{X x y z:Nm}:qV (X,[x,y,z])=[(X,[x,bH X x]),(bH X x,[y,z])]:=rfl
theorem A3{r:av}(h:r.2.length≤2):qV r=[r]:=eS (P:=fun l=>l=[r]) (fun a b c e=>by rw [e] at h;exact absurd h (Nat.not_le.mpr (Nat.lt_succ_self 2))) fun _=>rfl
theorem oW{b:List av}{r:av}:iw (b++[r])=iw b++qV r:=oH
theorem Gp{β:List Nm}(h:β.length=3):∃x y z,β=[x,y,z]:=by
 cases β with
 |nil=>cases h
 |cons x β=>cases β with
  |nil=>cases h
  |cons y β=>cases β with
   |nil=>cases h
   |cons z β=>exact ⟨x,y,z,by rw [List.eq_nil_of_length_eq_zero (Nat.succ.inj (Nat.succ.inj (Nat.succ.inj h)))]⟩
theorem uz{Q:Option V→Hp→Prop}(h:G H g st R)(hw:WF R)(hw2:WF (iw R))(h3:∀r,r∈R→∀x y z,r.2=[x,y,z]→isT x=false)(hR:R≠[])(hl:R.length≤200)(q:∀a H',Ext H H'→G H' a st (iw R)→Q (some (.ref a)) H') :
  aH (wpF bodies (n+7)) "CFG.binarize" [.cls "CFG",.ref g,.str pad] [] [] H Q:=by
 refine gx rfl rfl rfl rfl (aN fun res hres=>gw (i7 (h.ext ((Ext.refl H).new hres)) rfl (bD (l:=R) (g:=aB) (fun b ρ H'=>ρ "grammar"=some (.ref g)∧ρ "padding"=some (.str pad)∧ρ "result"=some (.ref res)∧Ext H H'∧H' res=some (.list ((iw b).map aB))) (bk rfl)
  ⟨rfl,rfl,rfl,(Ext.refl H).new hres,aj ..⟩ (fun _ _ _ _=>trivial) (fun b r c ρ H' K Qk hb h hK=>DC h fun r1 r2 r3 hE hr'=>?_)
  fun ρ H' h'=>DC h' fun r1 r2 r3 hE hr'=>ay (p9 (h.ext hE) r1 r3 hr' hw2 (Cu hR) (Nat.le_trans mG (Nat.le_trans (Nat.mul_le_mul_right 2 hl) (by decide))) fun a H2 e1 g2=>q a H2 ((ja hE hres).trans e1) g2))))
 have hr:r∈R:=hb▸List.mem_append_right _ (.head _)
 have hbl:((iw b).map aB).length≤400:=by rw [List.length_map];exact Nat.le_trans mG (Nat.mul_le_mul_right 2 (Nat.le_trans (by rw [hb,List.length_append];exact Nat.le_add_right _ _) hl))
 obtain ⟨w1,w2,w3⟩:=hw r hr
 refine aa rfl (.len (.tup (by rw [List.length_map];exact aF w2) (bS (uI (fun h=>aa rfl ?_) fun h=>aa rfl (aT r3 hr' (aF hbl) (cC rfl) (nil_of (ay (nil_of (hK _ _ ⟨r1,r2,r3,hE.new hres,(aj ..).trans (by rw [oW,A3 (Nat.le_of_not_lt fun h'=>h (Int.ofNat_lt.mpr (by rw [List.length_map];exact h'))),List.map_append];rfl)⟩)))))))))
 rw [List.length_map] at h
 obtain ⟨X,β⟩:=r
 refine (Gp (Nat.le_antisymm w2 (Int.ofNat_lt.mp h))).elim fun x e=>f5 e fun y z e=>?_
 cases e
 have hx:isT x=false:=h3 _ hr x y z rfl
 have hNT:isT (bH X x)=false:=c6 (hw2 (bH X x,[y,z]) (List.mem_flatMap.mpr ⟨_,hr,.tail _ (.head _)⟩)).1
 have lx:=(ly (w3 x (.head _))).2.1
 have l1:=(ly (.inl w1)).2.1
 have e1:aB (X,[x,y,z])=.prod X [.nt x,bZ y,bZ z]:=congrArg (fun v=>V.prod X [v,bZ y,bZ z]) (gq hx)
 rw [e1]
 have hbl':=Nat.succ_le_succ hbl
 refine BiW.len (.tup (show 3≤big by decide) (.sub (.range2 ⟨by decide,by decide⟩ ⟨show (0:Int)≤1 by decide,show (1:Int)≤big by decide⟩ (And.intro trivial fun l' hl'=>hl'▸And.intro trivial (aa rfl (kG.tup (k:=0) (by decide) (by decide) rfl (aa r2 (.adds (aF (Nat.add_le_add_right l1 3)) (.adds (aF (by rw [List.length_append];exact Nat.add_le_add (Nat.add_le_add_right l1 3) lx))
  (jJ (eK (.inl rfl) (show 2≤big by decide) (aN (aa rfl (aT r3 hr' (aF hbl) (cC rfl) (nil_of (And.intro trivial (ay (dJ.tup (k:=2) (show 3≤big by decide) (by decide) (show 2<3 by decide) (eK (.inl rfl) (show 2≤big by decide) (aT r3 (aj ..) (aF (by rw [List.length_append];exact hbl')) (cC rfl) (nil_of (ay (nil_of (hK _ _ ⟨r1,r2,r3,(hE.new hres).new hres,(aj ..).trans ?_⟩))))))))))))))))))))))))
 rw [oW,Cv,List.map_append,List.map_cons,List.map_cons,List.map_nil,List.append_assoc]
 exact congrArg (fun v=>some (bL.list ((iw b).map aB++[v,V.prod (bH X x) [bZ y,bZ z]]))) (by rw [aB,List.map_cons,List.map_cons,List.map_nil,gq hx,gq hNT])
end
end Mine.L
end
section
namespace Mine.L
open PySem (Addr)
open scoped Classical
section
variable{n:Nat}{H H2 H3:Hp}{F:Fn}{g res dm nr:Addr}{st s:Nm}{R b:List av}{r:av}{c:List Nm}{ρ:Env}{es:List (V×V)}{ep:Nat}
theorem HR{i j:Int}{Q:PV}(h1:i≤j→Q (.bool true) H)(h2:¬i≤j→Q (.bool false) H):iu .le (.int i) (.int j) H Q:=by
 show Q (.bool (decide (i≤j))) H
 by_cases h:i≤j
 ·exact (decide_eq_true h).symm▸h1 h
 ·exact (decide_eq_false h).symm▸h2 h
theorem qf{rest:List MS}{Q:PS}(q:Q .cont ρ H):aO F (.cont::rest) ρ H Q:=q
theorem lU{w:Env→Hp→PS→Prop}{Q:PS}(q:Q .cont ρ H):sH w Q .cont ρ H:=q
theorem jW{w:Env→Hp→Prop}{Q:PS}(q:w ρ H):eF w Q .cont ρ H:=q
theorem lX{Q:PV}(q:∀a,H a=none→Q (.ref a) (upd H a (.list []))):wpE F (.lst true []) ρ H Q:=q
theorem n5:dP (b++[r])=dP b++iR r:=oH
theorem jj(h:∀r,r∈b→r.2.length≤3):(dP b).length≤b.length*4:=pZ fun r hr=>eL (P:=fun l=>l.length≤4) (fun _=>Nat.succ_le_succ (Nat.zero_le _)) fun _=>by rw [List.length_append,List.length_map];exact Nat.succ_le_succ (Nat.le_trans (List.length_filter_le ..) (h r hr))
theorem BV(h:R≠[]):dP R≠[]:=vz (fun r=>eL (P:=fun l=>l≠[]) (fun _=>List.cons_ne_nil _ _) fun _=>List.append_ne_nil_of_right_ne_nil _ (List.cons_ne_nil _ _)) h
theorem G3{t:Nm}(h:t∈TT):∀c∈t,c<128:=by
 rcases List.mem_cons.mp h with e | h
 ·rw [e];decide
 ·rw [List.mem_singleton.mp h];decide
def Dm(H:Hp)(dm:Addr)(es:List (V×V))(ep:Nat):Prop:=H dm=some (.dict es ep)∧KIn es UT∧∀t v,aE es (.str t)=some v→v=.nt (dum t)
theorem Dm.keys(D:Dm H dm es ep):vU es (.str s):=.inl ⟨rfl,fun e he=>pn _ (D.2.1.sub e he)⟩
structure GN(g res dm nr:Addr)(r:av)(ρ:Env):Prop where
 g:ρ "grammar"=some (.ref g)
 p:ρ "padding"=some (.str pad)
 o:ρ "result"=some (.ref res)
 d:ρ "dummy_nonterms"=some (.ref dm)
 u:ρ "rule"=some (aB r)
 n:ρ "new_rhs"=some (.ref nr)
noncomputable abbrev kD(c:List Nm):List av:=(c.filter isT).map fun t=>(dum t,[t])
structure MH(H:Hp)(res nr:Addr)(b:List av)(c:List Nm)(H2:Hp):Prop where
 e:Ext H H2
 n:H2 nr=some (.list ((c.map kT).map bZ))
 r:H2 res=some (.list ((dP b++kD c).map aB))
theorem rM:(kD c).length≤c.length:=by rw [List.length_map];exact List.length_filter_le ..
theorem EV(h:isT s=true):kD (c++[s])=kD c++[(dum s,[s])]:=by rw [kD,List.filter_append,List.filter_cons_of_pos h,List.map_append];rfl
theorem EW(h:isT s=false):kD (c++[s])=kD c:=by rw [kD,List.filter_append,List.filter_cons_of_neg (h▸Bool.false_ne_true),List.filter_nil,List.append_nil]
theorem EC(h:isT s=true):kT s=dum s:=if_pos h
theorem ED(h:isT s=false):kT s=s:=if_neg (h▸Bool.false_ne_true)
theorem rA{Q:PS}(E:GN g res dm nr r ρ)(hi:ρ "item"=some (.str s))(hT:isT s=true)(hd:isT (dum s)=false)(S:MH H res nr b c H2)(D:Dm H2 dm es ep)(hl:aE es (.str s)=some (.nt (dum s)))(hcl:c.length≤3)(hbl:(dP b).length≤800)(hnr:H nr=none)(hres:H res=none)(n1:nr≠res)(n2:nr≠dm)(n3:res≠dm)
  (q:∀H4,MH H res nr b (c++[s]) H4→Dm H4 dm es ep→Q .next ρ H4) :
  aO (wpF bodies (n+1)) [.expr (b1 (vr "new_rhs") .append (.sub (vr "dummy_nonterms") (vr "item"))),.expr (b1 (vr "result") .append (.new "Production" [.sub (vr "dummy_nonterms") (vr "item")] ["rhs"] [.lst false [vr "item"]]))] ρ H2 Q:=by
 refine aT (v:=.nt (dum s)) E.n S.n (by rw [List.length_map,List.length_map];exact aF hcl) (fun K k=>aa E.d (aa hi (.dict D.1 D.keys hl k))) ?_
 have d1:upd H2 nr (.list ((c.map kT).map bZ++[.nt (dum s)])) dm=_:=(aq n2.symm).trans D.1
 refine aT (v:=.prod (dum s) [.str s]) E.o ((aq n1.symm).trans S.r) (by rw [List.length_map,List.length_append];exact aF (Nat.add_le_add hbl (Nat.le_trans rM hcl))) (fun K k=>aa E.d (aa hi (.dict d1 D.keys hl (aa hi (wO (.inr rfl) (show 1≤big by decide) k))))) (nil_of (q _ ⟨(S.e.new hnr).new hres,?_,(aj ..).trans ?_⟩ ⟨(aq n3.symm).trans d1,D.2⟩))
 ·refine ((aq n1).trans (aj ..)).trans ?_
  rw [List.map_append,List.map_append,List.map_cons,List.map_nil,EC hT,List.map_cons,List.map_nil,gq hd]
 ·rw [EV hT,←List.append_assoc,List.map_append (l₁:=dP b++kD c),List.map_cons,List.map_nil,show aB (dum s,[s])=.prod (dum s) [.str s] from congrArg (fun v=>V.prod (dum s) [v]) (lC hT)]
theorem Ck{Q:Option V→Hp→Prop}(h:G H g st R)(hw:WF R)(hw2:WF (dP R))(hR:R≠[])(hl:R.length≤100)(q:∀a H',Ext H H'→G H' a st (dP R)→Q (some (.ref a)) H') :
  aH (wpF bodies (n+7)) "CFG.remove_mixed_rules" [.cls "CFG",.ref g,.str pad] [] [] H Q:=by
 refine gx rfl rfl rfl rfl (aN fun res hres=>aN fun ep0 dm hdm'=>?_)
 have n3:res≠dm:=ah hdm' (aj ..)
 have hdm:H dm=none:=(aq n3.symm).symm.trans hdm'
 have hE0:Ext H (upd (upd H res (.list [])) dm (.dict [] ep0)):=((Ext.refl H).new hres).new hdm
 refine gw (i7 (h.ext hE0) rfl (bD (l:=R) (g:=aB) (fun b ρ H'=>∃es ep,ρ "grammar"=some (.ref g)∧ρ "padding"=some (.str pad)∧ρ "result"=some (.ref res)∧ρ "dummy_nonterms"=some (.ref dm)∧Ext H H'∧H' res=some (.list ((dP b).map aB))∧Dm H' dm es ep) (bk rfl)
  ⟨[],ep0,rfl,rfl,rfl,rfl,hE0,(aq n3).trans (aj ..),aj ..,.nil,fun _ _=>nofun⟩ (fun _ _ _ _=>trivial) (fun b r c ρ H' K Qk hb h' hK=>GC h' fun es ep r1 r2 r3 r4 hE hr' D=>?_)
  fun ρ H' h'=>GC h' fun es ep r1 r2 r3 r4 hE hr' D=>ay (p9 (h.ext hE) r1 r3 hr' hw2 (BV hR) (Nat.le_trans (jj fun r hr=>(hw r hr).2.1) (Nat.le_trans (Nat.mul_le_mul_right 4 hl) (by decide))) fun a H2 e1 g2=>q a H2 ((ja hE hres).trans e1) g2)))
 have hr:r∈R:=hb▸List.mem_append_right _ (.head _)
 obtain ⟨w1,w2,w3⟩:=hw r hr
 have hbl:(dP b).length≤400:=Nat.le_trans (jj fun r hr=>(hw r (hb▸List.mem_append_left _ hr)).2.1) (Nat.mul_le_mul_right 4 (Nat.le_trans (by rw [hb,List.length_append];exact Nat.le_add_right _ _) hl))
 have hbl':((dP b).map aB).length≤big:=by rw [List.length_map];exact aF hbl
 have short:iR r=[r]→K (put ρ "rule" (aB r)) (upd H' res (.list ((dP b).map aB++[aB r]))):=fun e=>hK _ _ ⟨es,ep,r1,r2,r3,r4,hE.new hres,(aj ..).trans (by rw [n5,e,List.map_append];rfl),(aq n3.symm).trans D.1,D.2⟩
 refine aa rfl (uK (r:=r) (aa rfl (aa rfl (aa rfl ?_))))
 cases hn:aV r.2 with
 |true=>exact aT r3 hr' hbl' (cC rfl) (qf (lU (jW (short (by unfold iR;rw [hn];rfl)))))
 |false =>
  refine BiW.len (.tup (by rw [List.length_map];exact aF w2) (bS (HR (fun h1=>aa rfl (aT r3 hr' hbl' (cC rfl) (qf (lU (jW (short ?_))))) ) fun h1=>aa rfl (ay (aN (lX fun nr hnr'=>?_))))))
  ·rw [List.length_map] at h1
   unfold iR;rw [hn,decide_eq_true (Int.ofNat_le.mp h1)];rfl
  ·rw [List.length_map] at h1
   have hb1:iR r=kD r.2++[(r.1,r.2.map kT)]:=by unfold iR;rw [hn,decide_eq_false fun h=>h1 (Int.ofNat_le.mpr h)];rfl
   have hnr:H nr=none:=hE.none hnr'
   have n1:nr≠res:=(ah hnr' hr').symm
   have n2:nr≠dm:=(ah hnr' D.1).symm
   refine gw (bD (l:=r.2) (g:=bZ) (fun c ρ2 H2=>∃es ep,GN g res dm nr r ρ2∧MH H res nr b c H2∧Dm H2 dm es ep) iZ ⟨es,ep,⟨r1,r2,r3,r4,rfl,rfl⟩,⟨hE.new hnr,aj ..,(aq n1.symm).trans (hr'.trans (by rw [kD,List.filter_nil,List.map_nil,List.append_nil]))⟩,(aq n2.symm).trans D.1,D.2⟩ (fun _ _ _ _=>trivial)
    (fun c s d ρ2 H2 K2 Q2 hc h' hK2=>aP h' fun es ep E S D=>?_) fun ρ2 H2 h'=>aP h' fun es ep E S D=>?_)
   ·have hs:s∈r.2:=hc▸List.mem_append_right _ (.head _)
    have hcl:c.length≤3:=Nat.le_trans (by rw [hc,List.length_append];exact Nat.le_add_right _ _) w2
    cases hT:isT s with
    |false =>
     rw [gq hT]
     refine aa rfl (aT (v:=.nt s) E.n S.n (by rw [List.length_map,List.length_map];exact aF hcl) (cC rfl) (nil_of (ay (nil_of (hK2 _ _ ⟨es,ep,⟨E.g,E.p,E.o,E.d,E.u,E.n⟩,⟨S.e.new hnr,(aj ..).trans ?_,(aq n1.symm).trans ((EW hT).symm▸S.r)⟩,(aq n2.symm).trans D.1,D.2⟩)))))
     rw [List.map_append,List.map_append,List.map_cons,List.map_nil,ED hT,List.map_cons,List.map_nil,gq hT]
    |true =>
     have ht:=gj hT
     have hd:isT (dum s)=false:=c6 (hw2 (dum s,[s]) (List.mem_flatMap.mpr ⟨r,hr,hb1.symm▸List.mem_append_left _ (List.mem_map.mpr ⟨s,List.mem_filter.mpr ⟨hs,hT⟩,rfl⟩)⟩)).1
     have hs1:=(ly (.inr ht)).2.1
     rw [lC hT]
     refine aa rfl (aa E.d (vg D.1 D.keys (fun hl=>aa rfl ⟨.upper,.upper (G3 ht) (aF hs1) ?_⟩) fun v hl=>aa rfl (ay (rA (ρ:=put ρ2 "item" (.str s)) (es:=es) (ep:=ep) (c:=c) ⟨E.g,E.p,E.o,E.d,E.u,E.n⟩ rfl hT hd S D (by rw [hl,D.2.2 s v hl]) hcl (Nat.le_trans hbl (by decide)) hnr hres n1 n2 n3 fun H4 S4 D4=>hK2 _ _ ⟨es,ep,⟨E.g,E.p,E.o,E.d,E.u,E.n⟩,S4,D4⟩))))
     have hfl:([upper s,pad,upper s]:List Nm).flatten=dum s:=by rw [List.flatten_cons,List.flatten_cons,List.flatten_cons,List.flatten_nil,List.append_nil,←List.append_assoc]
     refine Exists.intro [upper s,pad,upper s] ⟨congrArg (fun v=>[some (V.str (upper s)),v,some (V.str (upper s))]) E.p,?_,?_⟩<;>rw [hfl]
     ·rw [List.length_append,List.length_append,upper,List.length_map]
      exact aF (Nat.add_le_add (Nat.add_le_add_right hs1 3) hs1)
     ·have D':∀ep',Dm (upd H2 dm (.dict (dput es (.str s) (.nt (dum s))) ep')) dm (dput es (.str s) (.nt (dum s))) ep':=fun ep'=>⟨aj ..,D.2.1.dput (List.mem_map.mpr ⟨s,ht,rfl⟩),fun t v e=>by
       by_cases q:V.str t=V.str s
       ·rw [q,cQ] at e;cases e;cases q;rfl
       ·exact D.2.2 t v ((jX q).symm.trans e)⟩
      exact jJ (aa E.d (.dict D.1 D.keys (Nat.le_trans D.2.1.len (by decide)) fun ep5=>ay (nil_of (ay (rA (ρ:=put (put (put ρ2 "item" (.str s)) "sanitized_term" (.str (upper s))) "dummy_nonterm_symbol" (.str (dum s))) (c:=c) ⟨E.g,E.p,E.o,E.d,E.u,E.n⟩ rfl hT hd ⟨S.e.new hdm,(aq n2).trans S.n,(aq n3).trans S.r⟩ (D' ep5) cQ hcl (Nat.le_trans hbl (by decide)) hnr hres n1 n2 n3 fun H4 S4 D4=>hK2 _ _ ⟨_,ep5,⟨E.g,E.p,E.o,E.d,E.u,E.n⟩,S4,D4⟩)))))
   ·refine ay (aT (v:=.prod r.1 ((r.2.map kT).map bZ)) E.o S.r (by rw [List.length_map,List.length_append];exact aF (Nat.add_le_add hbl (Nat.le_trans rM w2))) (fun K k=>aa E.u (aa E.n (eK (.inr (iB S.n)) (by rw [List.length_map,List.length_map];exact aF w2) k))) (nil_of (hK _ _ ⟨es,ep,E.g,E.p,E.o,E.d,S.e.new hres,(aj ..).trans ?_,(aq n3.symm).trans D.1,D.2⟩)))
    rw [n5,hb1,←List.append_assoc,List.map_append (l₁:=dP b++kD r.2)];rfl
end
end Mine.L
end
section
namespace Mine.L
open PySem (Addr)
open scoped Classical
noncomputable abbrev qG(X Y:Nm):V:=.tup [cB X,cB Y]
noncomputable def PU:List V:=NN.flatMap fun X=>NN.map fun Y=>qG X Y
theorem Ej{X Y:Nm}(hX:X∈NN)(hY:Y∈NN):qG X Y∈PU:=List.mem_flatMap.mpr ⟨X,hX,List.mem_map.mpr ⟨Y,hY,rfl⟩⟩
theorem uF{u:V}(h:u∈PU):isTup u=true:=(List.mem_flatMap.mp h).elim fun X x=>(List.mem_map.mp x.2).elim fun Y y=>y.2▸rfl
theorem sX{es:List V}(h:es.Nodup)(hs:∀u,u∈es→u∈PU):es.length≤225:=Nat.le_trans (bO h hs) (Nat.le_trans (jm (fun X=>Nat.le_of_eq (List.length_map _)) NN) (by decide))
theorem zY{X Y X' Y':Nm}(h:qG X Y=qG X' Y'):X=X'∧Y=Y':=by
 injection h with h;injection h with h1 h2;injection h2 with h2
 exact ⟨V.str.inj (List.cons.inj (List.cons.inj (V.tup.inj h1)).2).1,V.str.inj (List.cons.inj (List.cons.inj (V.tup.inj h2)).2).1⟩
theorem qa{p:av→Bool}{b:List av}{r:av}(h:p r=true):(b++[r]).filter p=b.filter p++[r]:=by rw [List.filter_append,List.filter_cons_of_pos h];rfl
theorem qb{p:av→Bool}{b:List av}{r:av}(h:p r=false):(b++[r]).filter p=b.filter p:=by rw [List.filter_append,List.filter_cons_of_neg (h▸Bool.false_ne_true)];exact List.append_nil _
section
variable{n:Nat}{H:Hp}{g:Addr}{st:Nm}{R:List av}{x:String}{r:av}{ρ:Env}{P:PV}
theorem v7(hx:ρ x=some (aB r))(hl:r.2.length≤3)(q:P (.bool (aW r)) H):wpE (wpF bodies (n+3)) (.bools true [.cmp .eq (len (vr x)) (nm 1),m0 (vr x) "is_nonlexical"]) ρ H P:=by
 refine aa hx (sJ (aF hl) (bS (len_eq (aa rfl ?_))))
 unfold aW at q
 generalize (r.2.length==1)=b at q ⊢
 cases b with
 |true=>exact aa hx (mF (aa rfl q))
 |false=>exact q
theorem qy(hx:ρ x=some (aB r))(hl:r.2.length≤3)(q:P (.bool (!aW r)) H):wpE (wpF bodies (n+4)) (.bools false [.cmp .ne (len (vr x)) (nm 1),m0 (vr x) "is_lexical"]) ρ H P:=by
 refine aa hx (sJ (aF hl) (bS (yT (aa rfl ?_))))
 unfold aW at q
 generalize (r.2.length==1)=b at q ⊢
 cases b with
 |true=>exact aa hx (uK (aa rfl q))
 |false=>exact q
theorem yQ{X:Nm}{u:Bool}{c:List av}(h:aW r=u):newR X u (c++[r])=newR X u c++[(X,r.2)]:=by rw [newR,qa (p:=fun r=>aW r==u) (beq_iff_eq.mpr h),List.map_append];rfl
theorem yR{X:Nm}{u:Bool}{c:List av}(h:aW r≠u):newR X u (c++[r])=newR X u c:=by rw [newR,qb (p:=fun r=>aW r==u) (beq_eq_false_iff_ne.mpr h)];rfl
theorem ji{X:Nm}{u:Bool}{c:List av}:(newR X u c).length≤c.length:=by rw [newR,List.length_map];exact List.length_filter_le ..
structure DF(g res un sn:Addr)(ρ:Env):Prop where
 g:ρ "grammar"=some (.ref g)
 r:ρ "result"=some (.ref res)
 u:ρ "unitary"=some (.ref un)
 s:ρ "seen"=some (.ref sn)
structure UH(H:Hp)(res un sn:Addr)(Rr Ur:List av)(ss:List V)(H2:Hp):Prop where
 e:Ext H H2
 r:H2 res=some (.list (Rr.map aB))
 u:H2 un=some (.list (Ur.map aB))
 s:∃k,H2 sn=some (.set ss k)
structure UP(R Rr Ur:List av)(ss:List V):Prop where
 nd:ss.Nodup
 sub:∀u,u∈ss→u∈PU
 I:kF R Rr Ur fun X Y=>qG X Y∈ss
 b1:Rr.length≤80+ss.length*80
 b2:Ur.length≤80+ss.length*80
section
variable{res un sn:Addr}{Rr Ur Rr' Ur':List av}{ss ss':List V}{H2:Hp}
theorem UH.sr(S:UH H res un sn Rr Ur ss H2)(h:H res=none)(n1:res≠un)(n2:sn≠res):UH H res un sn Rr' Ur ss (upd H2 res (.list (Rr'.map aB))):=⟨S.e.new h,aj ..,(aq n1.symm).trans S.u,S.s.imp fun k h=>(aq n2).trans h⟩
theorem UH.su(S:UH H res un sn Rr Ur ss H2)(h:H un=none)(n1:res≠un)(n2:sn≠un):UH H res un sn Rr Ur' ss (upd H2 un (.list (Ur'.map aB))):=⟨S.e.new h,(aq n1).trans S.r,aj ..,S.s.imp fun k h=>(aq n2).trans h⟩
theorem UH.seen{k:aK}(S:UH H res un sn Rr Ur ss H2)(h:H sn=none)(n1:sn≠res)(n2:sn≠un):UH H res un sn Rr Ur ss' (upd H2 sn (.set ss' k)):=⟨S.e.new h,(aq n1.symm).trans S.r,(aq n2.symm).trans S.u,k,aj ..⟩
end
theorem jK{F:Fn}{c:ME}{t e rest:List MS}{Q:PS}(q:wpE F c ρ H (Gu (fun H'=>aO F t ρ H' (sH (fun ρ H Q=>aO F rest ρ H Q) Q)) fun H'=>aO F e ρ H' (sH (fun ρ H Q=>aO F rest ρ H Q) Q))):aO F (.ite c t e::rest) ρ H Q:=q
theorem cL{w:Env→Hp→Prop}{Q:PS}(q:w ρ H):eF w Q .next ρ H:=q
theorem wj{H1 H2:Hp}{v:V}{l:List V}(h:listOf H v=some l)(e1:Ext H H1)(e2:Ext H H2):Still v H1 H2:=(gT h).elim (fun e=>e▸trivial) fun x=>ao x fun b h1 h2=>h1▸(e2 _ _ h2).trans (e1 _ _ h2).symm
theorem xN{Q:Option V→Hp→Prop}(h:G H g st R)(hw:WF R)(hl:R.length≤80)(hne:∃r,r∈R∧aW r=false)
  (q:∀a H' R',Ext H H'→G H' a st R'→pL R R'→(∀r,r∈R'→aW r=false∧r.1∈NN∧∃r0,r0∈R∧r0.2=r.2)→Q (some (.ref a)) H') :
  aH (wpF bodies (n+7)) "CFG.remove_unitary_rules" [.cls "CFG",.ref g] [] [] H Q:=by
 refine gx rfl rfl rfl rfl (aN (lX fun res hres=>aN (lX fun un hun'=>?_)))
 have n1:res≠un:=ah hun' (aj ..)
 have hun:H un=none:=(aq n1.symm).symm.trans hun'
 have hE0:Ext H (upd (upd H res (.list [])) un (.list [])):=((Ext.refl H).new hres).new hun
 have hbig:∀{c:List av},c.length≤20000→(c.map aB).length≤big:=fun h=>by rw [List.length_map];exact aF h
 refine gw (i7 (h.ext hE0) rfl (bD (l:=R) (g:=aB) (fun b ρ H'=>ρ "grammar"=some (.ref g)∧ρ "result"=some (.ref res)∧ρ "unitary"=some (.ref un)∧Ext H H'∧H' res=some (.list ((b.filter fun r=>!aW r).map aB))∧H' un=some (.list ((b.filter aW).map aB))) (bk rfl)
  ⟨rfl,rfl,rfl,hE0,(aq n1).trans (aj ..),aj ..⟩ (fun _ _ _ _=>trivial) (fun b r c ρ H' K Qk hb h' hK=>vP h' fun r1 r2 r3 hE h1 h2=>?_) fun ρ H1 h'=>vP h' fun r1 r2 r3 hE h1 h2=>ay (aN fun k0 sn hsn=>?_)))
 ·have hr:r∈R:=hb▸List.mem_append_right _ (.head _)
  have hbl:∀p:av→Bool,(b.filter p).length≤20000:=fun p=>Nat.le_trans (List.length_filter_le ..) (Nat.le_trans (Nat.le_trans (by rw [hb,List.length_append];exact Nat.le_add_right _ _) hl) (by decide))
  refine aa rfl (jK (v7 (r:=r) rfl (hw r hr).2.1 (aa rfl ?_)))
  cases hu:aW r with
  |true=>exact aT r3 h2 (hbig (hbl _)) (cC rfl) (nil_of (ay (nil_of (cL (hK _ _ ⟨r1,r2,r3,hE.new hun,(aq n1).trans ((qb (p:=fun r=>!aW r) (congrArg not hu)).symm▸h1),(aj ..).trans (by rw [qa hu,List.map_append];rfl)⟩)))))
  |false=>exact aT r2 h1 (hbig (hbl _)) (cC rfl) (nil_of (ay (nil_of (cL (hK _ _ ⟨r1,r2,r3,hE.new hres,(aj ..).trans (by rw [qa (p:=fun r=>!aW r) (congrArg not hu),List.map_append];rfl),(aq n1.symm).trans ((qb hu).symm▸h2)⟩)))))
 ·have hsn0:H sn=none:=hE.none hsn
  have n2:sn≠res:=(ah hsn h1).symm
  have n3:sn≠un:=(ah hsn h2).symm
  refine Exists.intro 20000 (lQ (fun m ρ2 H2=>∃Rr Ur ss,DF g res un sn ρ2∧UH H res un sn Rr Ur ss H2∧UP R Rr Ur ss∧m=(225-ss.length)*81+Ur.length) (fun ρ2 H2=>∃Rr ss,DF g res un sn ρ2∧UH H res un sn Rr [] ss H2∧UP R Rr [] ss)
   (fun m ρ2 H2 K2 D Q2 h' hK2 hD=>kW h' fun Rr Ur ss E S p hm=>?_) (fun ρ2 H2 h'=>aP h' fun Rr ss E S p=>?_) 20000 (225*81+(R.filter aW).length) _ _ ?_ ⟨_,_,[],⟨r1,r2,r3,rfl⟩,⟨hE.new hsn0,(aq n2.symm).trans h1,(aq n3.symm).trans h2,k0,aj ..⟩,⟨.nil,nofun,?_,?_,?_⟩,rfl⟩)
  ·have hss:=sX p.nd p.sub
   have hlen:∀{L:List av},L.length≤80+ss.length*80→L.length≤18080:=fun h=>Nat.le_trans h (Nat.add_le_add_left (Nat.mul_le_mul_right 80 hss) 80)
   refine aa E.u (aa (CP S.u (hbig (Nat.le_trans (hlen p.b2) (by decide)))) ?_)
   cases Ur with
   |nil=>exact hD _ _ ⟨Rr,ss,E,S,p⟩
   |cons u Ur =>
    obtain ⟨X,ub⟩:=u
    refine bG (p.I.b _ (.head _)) fun hY0 hX _=>ao hY0 fun Y e hY=>?_
    cases (show ub=[Y] from e)
    have S3:=S.su (Ur':=Ur) hun n1 n3
    have hu:H2 un=some (.list (.prod X [.nt Y]::Ur.map aB)):=S.u.trans (congrArg (fun v=>some (bL.list (V.prod X [v]::Ur.map aB))) (gq (c6 hY)))
    have b2:Ur.length≤80+ss.length*80:=Nat.le_of_succ_le p.b2
    have hpu:=Ej hX hY
    refine aa E.u ⟨.pop hu,.pop0 hu (by rw [List.length_cons,List.length_map];exact Nat.le_trans (Nat.succ_le_succ (hlen b2)) (by decide)) (kJ (i:=0) rfl (by decide) (aa E.s (aL S3.s fun k hk=>yr hk (uF hpu) (fun e he=>uF (p.sub e he)) (fun hin=>aa rfl (qf (lU (jW (hK2 _ _ _ (hm▸Nat.lt_succ_self _) ⟨Rr,Ur,ss,⟨E.g,E.r,E.u,E.s⟩,S3,⟨p.nd,p.sub,p.I.skip hin,p.b1,b2⟩,rfl⟩)))))
     fun hout=>aa rfl (ay (aa E.s ⟨.add hk,.add hk (.inr ⟨uF hpu,fun e he=>uF (p.sub e he)⟩) (Nat.le_trans hss (by decide)) (fun h=>(Bool.false_ne_true h).elim) fun es' k' hp=>aa rfl (ay (gw ?_))⟩)))))⟩
    have S4:=S3.seen (ss':=es') (k:=k') hsn0 n2 n3
    have S4':UH H res un sn (Rr++newR X false []) (Ur++newR X true []) es' (upd (upd H2 un (.list (Ur.map aB))) sn (.set es' k')):=by
     rw [show newR X false []=[] from rfl,show newR X true []=[] from rfl,List.append_nil,List.append_nil];exact S4
    have nd':es'.Nodup:=hp.nodup_iff.mpr (di p.nd)
    have sub':∀u,u∈es'→u∈PU:=fun u hu=>gB p.sub hpu u (hp.mem_iff.mp hu)
    have hel:es'.length=ss.length+1:=hp.length_eq.trans (by rw [cD hout,List.length_append];rfl)
    have hel':=sX nd' sub'
    have hch:∀a b,qG a b∈es'↔qG a b∈ss∨(a=X∧b=Y):=fun a b=>hp.mem_iff.trans (by
     rw [cD hout]
     exact List.mem_append.trans ⟨fun h=>h.imp id fun h=>zY (List.mem_singleton.mp h),fun h=>h.imp id fun h=>by rw [h.1,h.2];exact .head _⟩)
    have hfl:(ofN R Y).length≤80:=Nat.le_trans (List.length_filter_le ..) hl
    refine h.el fun dx f li ei le ee lp ep mi ma GH=>?_
    have GG:=GH.ext S4.e
    refine aa E.g (bC GG.cls (kJ (i:=0) rfl (by decide) (AX GG (aa rfl (bD (l:=ofN R Y) (g:=aB) (fun c ρ5 H5=>DF g res un sn ρ5∧ρ5 "rule"=some (.prod X [.nt Y])∧UH H res un sn (Rr++newR X false c) (Ur++newR X true c) es' H5) (bk (GG.listed hY)) ⟨⟨E.g,E.r,E.u,E.s⟩,rfl,S4'⟩ (fun c ρ5 H5 h=>wj (GH.listed hY) S4.e h.2.2.e)
     (fun c r d ρ5 H5 K5 Q5 hc h5 hK5=>bG h5 fun E5 hru S5=>?_) fun ρ5 H5 h5=>bG h5 fun E5 hru S5=>ay (nil_of (cL (hK2 _ _ _ ?_ ⟨_,_,es',E5,S5,⟨nd',sub',p.I.step hw hch,?_,?_⟩,rfl⟩))))))))
    ·have hr:r∈R:=(List.mem_filter.mp (hc▸List.mem_append_right _ (.head _):r∈ofN R Y)).1
     have q2:=(hw r hr).2.1
     have hcl:c.length≤80:=Nat.le_trans (by rw [hc,List.length_append];exact Nat.le_add_right _ _) hfl
     have hz:∀{L:List av} {u:Bool},L.length≤80+ss.length*80→((L++newR X u c).map aB).length≤big:=fun h=>hbig (by rw [List.length_append];exact Nat.le_trans (Nat.add_le_add (hlen h) (Nat.le_trans ji hcl)) (by decide))
     refine aa rfl (aN (aa hru (eK (.inl rfl) (by rw [List.length_map];exact aF q2) (jK (qy (r:=(X,r.2)) rfl q2 (aa rfl ?_))))))
     cases hu:aW (X,r.2) with
     |true=>exact aT E5.u S5.u (hz b2) (cC rfl) (nil_of (ay (nil_of (cL (hK5 _ _ ⟨⟨E5.g,E5.r,E5.u,E5.s⟩,hru,by
       have:=S5.su (Ur':=Ur++newR X true c++[(X,r.2)]) hun n1 n3
       rw [List.map_append (l₁:=Ur++newR X true c),List.append_assoc,←yQ (r:=r) hu,←yR (r:=r) (u:=false) (c:=c) (X:=X) (fun h=>nomatch hu.symm.trans h)] at this
       exact this⟩)))))
     |false=>exact aT E5.r S5.r (hz p.b1) (cC rfl) (nil_of (ay (nil_of (cL (hK5 _ _ ⟨⟨E5.g,E5.r,E5.u,E5.s⟩,hru,by
       have:=S5.sr (Rr':=Rr++newR X false c++[(X,r.2)]) hres n1 n2
       rw [List.map_append (l₁:=Rr++newR X false c),List.append_assoc,←yQ (r:=r) hu,←yR (r:=r) (u:=true) (c:=c) (X:=X) (fun h=>nomatch hu.symm.trans h)] at this
       exact this⟩)))))
    ·rw [hm,List.length_append,hel]
     have:=Nat.le_trans (ji (X:=X) (u:=true)) hfl
     rw [List.length_cons]
     rw [hel] at hel'
     lia
    ·rw [List.length_append,hel,Nat.succ_mul,←Nat.add_assoc];exact Nat.add_le_add p.b1 (Nat.le_trans ji hfl)
    ·rw [List.length_append,hel,Nat.succ_mul,←Nat.add_assoc];exact Nat.add_le_add b2 (Nat.le_trans ji hfl)
  ·have hRr:Rr≠[]:=ao hne fun r0 h1 h2 e=>List.not_mem_nil (e▸p.I.c r0 h1 h2)
   have hwr:WF Rr:=fun r hr=>GI (p.I.a r hr) fun _ c2 c3 _=>ao c3 fun r0 c3 c4=>c4▸⟨c2,(hw r0 c3).2⟩
   exact ay (p9 (h.ext S.e) E.g E.r S.r hwr hRr (Nat.le_trans p.b1 (Nat.le_trans (Nat.add_le_add_left (Nat.mul_le_mul_right 80 (sX p.nd p.sub)) 80) (by decide))) fun a H3 e1 g4=>q a H3 Rr ((ja S.e hres).trans e1) g4 (p.I.fin hw) fun r hr=>GI (p.I.a r hr) fun c1 c2 c3 _=>⟨c1,c2,c3⟩)
  ·exact Nat.lt_of_le_of_lt (Nat.add_le_add_left (Nat.le_trans (List.length_filter_le ..) hl) _) (by decide)
  ·rw [show (fun X Y=>qG X Y∈([]:List V))=fun _ _=>False from funext fun X=>funext fun Y=>propext ⟨nofun,False.elim⟩];exact kF.start hw
  ·exact Nat.le_trans (List.length_filter_le ..) hl
  ·exact Nat.le_trans (List.length_filter_le ..) hl
end
end Mine.L
end
section
namespace Mine.L
open scoped Classical
noncomputable abbrev N1:List Nm:=N3++[nS0]
noncomputable abbrev N2:List Nm:=N1++DE
theorem k1:∀l∈N3,∀a∈N3,bH l a∈DE:=(of_decide_eq_true rfl)
theorem k2:∀b∈DE,b∉N1∧b∉TT∧b∈NN∧b≠nS∧b≠nS0:=(of_decide_eq_true rfl)
theorem k3:∀l∈N3,∀a∈N3,∀l'∈N3,∀a'∈N3,bH l a=bH l' a'→l=l'∧a=a':=(of_decide_eq_true rfl)
theorem k4:∀t∈TT,dum t∉N2∧dum t∉TT∧dum t∈NN∧dum t≠nS∧dum t≠nS0:=(of_decide_eq_true rfl)
theorem k5:∀t∈TT,∀t'∈TT,dum t=dum t'→t=t':=(of_decide_eq_true rfl)
theorem k6:∀s∈N2,s∈NN∧isT s=false:=(of_decide_eq_true rfl)
theorem k7:nS0∉N3∧nS0∉TT∧nS≠nS0∧isT nS0=false∧nS∉TT:=(of_decide_eq_true rfl)
theorem yo{s:Nm}(h:s∈N3):s∈N2:=List.mem_append_left _ (List.mem_append_left _ h)
theorem CX{s:Nm}(h:s∈N3∨s∈TT):okN s:=h.imp (fun h=>(k6 s (yo h)).1) id
theorem yp{s:Nm}(h:s∈N2∨s∈TT):okN s:=h.imp (fun h=>(k6 s h).1) id
structure Bs(R:List av):Prop where
 len:R.length≤8
 sx:(nS,[tx])∈R
 lhs:∀r,r∈R→r.1∈N3
 rhs:∀r,r∈R→∀s,s∈r.2→s∈N3∨s∈TT
 l3:∀r,r∈R→r.2.length≤3
 tri:∀r,r∈R→∀a b c,r.2=[a,b,c]→a∈N3
 emp:∀r,r∈R→r.2=[]→r=(nB,[])
structure B2(m k:Nat)(N:List Nm)(R:List av)(st:Nm):Prop where
 len:R.length≤m
 sx:(nS,[tx])∈R
 lhs:∀r,r∈R→r.1∈N
 rhs:∀r,r∈R→∀s,s∈r.2→(s∈N∨s∈TT)∧s≠st
 ne:∀r,r∈R→r.2≠[]
 lk:∀r,r∈R→r.2.length≤k
 st:st=nS∨st=nS0
section
variable{R:List av}{st:Nm}
theorem Bs.wf(B:Bs R):WF R:=fun r hr=>⟨(k6 _ (yo (B.lhs r hr))).1,B.l3 r hr,fun s hs=>CX (B.rhs r hr s hs)⟩
theorem mz{P:List av×Nm→Prop}(h1:(∃r,r∈R∧nS∈r.2)→P (R++[(nS0,[nS])],nS0))(h2:(∀r,r∈R→nS∉r.2)→P (R,nS)):P (bW R):=by
 delta bW
 cases e:R.any fun r=>r.2.contains nS with
 |true=>exact h1 ((List.any_eq_true.mp e).imp fun r h=>⟨h.1,List.contains_iff_mem.mp h.2⟩)
 |false=>exact h2 fun r hr h=>Bool.false_ne_true (e.symm.trans (List.any_eq_true.mpr ⟨r,hr,List.contains_iff_mem.mpr h⟩))
theorem lN{P:av→Prop}{r:av}(h:∀q,q∈R→P q)(hr:P r):∀q,q∈R++[r]→P q:=fun q hq=>(List.mem_append.mp hq).elim (h q) fun e=>List.mem_singleton.mp e▸hr
theorem Bs.b1(B:Bs R)(hne:∀r,r∈R→r.2≠[]):B2 9 3 N1 (bW R).1 (bW R).2∧∀r,r∈(bW R).1→∀a b c,r.2=[a,b,c]→r.1∈N3∧a∈N3 :=
 mz (P:=fun z=>B2 9 3 N1 z.1 z.2∧∀r,r∈z.1→∀a b c,r.2=[a,b,c]→r.1∈N3∧a∈N3)
  (fun _=>⟨{ len:=(List.length_append)▸Nat.succ_le_succ B.len,sx:=List.mem_append_left _ B.sx,lhs:=lN (P:=fun r=>r.1∈N1) (fun r hr=>List.mem_append_left _ (B.lhs r hr)) (List.mem_append_right _ (.head _)),rhs:=lN (P:=fun r=>∀s,s∈r.2→(s∈N1∨s∈TT)∧s≠nS0) (fun r hr s hs=>⟨(B.rhs r hr s hs).imp (List.mem_append_left _) id,fun e=>(B.rhs r hr s hs).elim (fun h=>k7.1 (e▸h)) fun h=>k7.2.1 (e▸h)⟩) fun s hs=>List.mem_singleton.mp hs▸⟨.inl (.head _),k7.2.2.1⟩,ne:=lN (P:=fun r=>r.2≠[]) hne (List.cons_ne_nil _ _),lk:=lN (P:=fun r=>r.2.length≤3) B.l3 (of_decide_eq_true rfl),st:=.inr rfl },lN (P:=fun r=>∀a b c,r.2=[a,b,c]→r.1∈N3∧a∈N3) (fun r hr a b c e=>⟨B.lhs r hr,B.tri r hr a b c e⟩) fun _ _ _ e=>nomatch (List.cons.inj e).2⟩)
  fun h=>⟨{ len:=Nat.le_succ_of_le B.len,sx:=B.sx,lhs:=fun r hr=>List.mem_append_left _ (B.lhs r hr),rhs:=fun r hr s hs=>⟨(B.rhs r hr s hs).imp (List.mem_append_left _) id,fun e=>h r hr ((show s=nS from e)▸hs)⟩,ne:=hne,lk:=B.l3,st:=.inl rfl },fun r hr a b c e=>⟨B.lhs r hr,B.tri r hr a b c e⟩⟩
theorem xA{w:List Nm}(B:Bs R){i j:Nat}:Der (bW R).1 w (bW R).2 i j↔Der R w nS i j :=
 mz (P:=fun z=>Der z.1 w z.2 i j↔Der R w nS i j) (fun _=>AM k7.2.2.2.1 (fun r hr e=>k7.1 (e▸B.lhs r hr)) (fun r hr e=>(B.rhs r hr _ e).elim k7.1 k7.2.1) k7.2.2.1) fun _=>.rfl
section
variable{m k:Nat}{N:List Nm}
theorem B2.wf(B:B2 m k N R st)(hN:∀s,s∈N→s∈N2)(hk:k≤3):WF R:=fun r hr=>⟨(k6 _ (hN _ (B.lhs r hr))).1,Nat.le_trans (B.lk r hr) hk,fun s hs=>yp ((B.rhs r hr s hs).1.imp (hN s) id)⟩
theorem B2.sT(B:B2 m k N R st){s:Nm}(h1:s≠nS)(h2:s≠nS0):s≠st:=fun e=>B.st.elim (fun e'=>h1 (e.trans e')) fun e'=>h2 (e.trans e')
end
theorem FN(B:B2 9 3 N1 R st)(T:∀r,r∈R→∀a b c,r.2=[a,b,c]→r.1∈N3∧a∈N3):Dl R where
 fresh:=fun l a b c hm=>have t:=T _ hm a b c rfl;have z:=k2 _ (k1 l t.1 a t.2);⟨c6 z.2.2.1,fun r hr=>⟨fun e=>z.1 (e▸B.lhs r hr),fun e=>(B.rhs r hr _ e).1.elim z.1 z.2.1⟩⟩
 inj:=fun l a b c l' a' b' c' hm hm' e=>have t:=T _ hm a b c rfl;have t':=T _ hm' a' b' c' rfl;k3 l t.1 a t.2 l' t'.1 a' t'.2 e
theorem mq{f:av→List av}{P:av→Prop}(h:∀q,q∈R→∀z,z∈f q→P z):∀z,z∈R.flatMap f→P z:=fun z hz=>(List.mem_flatMap.mp hz).elim fun q hq=>h q hq.1 z hq.2
theorem pR{P:av→Prop}{q:av}(h:P q):∀z,z∈[q]→P z:=fun z hz=>List.mem_singleton.mp hz▸h
theorem Dc(B:B2 9 3 N1 R st)(T:∀r,r∈R→∀a b c,r.2=[a,b,c]→r.1∈N3∧a∈N3):B2 18 2 N2 (iw R) st:=by
 have key:∀z,z∈iw R→z.1∈N2∧(∀s,s∈z.2→(s∈N2∨s∈TT)∧s≠st)∧z.2≠[]∧z.2.length≤2:=mq fun q hq=>by
  have h1:q.1∈N2:=List.mem_append_left _ (B.lhs q hq)
  have hr:∀s,s∈q.2→(s∈N2∨s∈TT)∧s≠st:=fun s hs=>⟨(B.rhs q hq s hs).1.imp (List.mem_append_left _) id,(B.rhs q hq s hs).2⟩
  refine eS (P:=fun L=>∀z,z∈L→z.1∈N2∧(∀s,s∈z.2→(s∈N2∨s∈TT)∧s≠st)∧z.2≠[]∧z.2.length≤2) (fun a b c e=>?_) fun h=>pR ⟨h1,hr,B.ne q hq,Nat.le_of_lt_succ (Nat.lt_of_le_of_ne (B.lk q hq) fun h'=>(Gp h').elim fun a h'=>f5 h' fun b c h'=>h a b c h')⟩
  replace hr:=(e)▸hr
  have hb:=k1 _ (T q hq a b c e).1 _ (T q hq a b c e).2
  exact fun z' hz=>(List.mem_cons.mp hz).elim (fun e=>e▸⟨h1,fun s hs=>(List.mem_cons.mp hs).elim (fun e=>e▸hr a (.head _)) fun hs=>List.mem_singleton.mp hs▸⟨.inl (List.mem_append_right _ hb),B.sT (k2 _ hb).2.2.2.1 (k2 _ hb).2.2.2.2⟩,List.cons_ne_nil _ _,Nat.le_refl 2⟩) fun hz=>List.mem_singleton.mp hz▸⟨(List.mem_append_right _ hb),fun s hs=>hr s (.tail _ hs),List.cons_ne_nil _ _,Nat.le_refl 2⟩
 exact { len:=Nat.le_trans mG (Nat.mul_le_mul_right 2 B.len),sx:=List.mem_flatMap.mpr ⟨_,B.sx,.head _⟩,lhs:=fun r hr=>(key r hr).1,rhs:=fun r hr=>(key r hr).2.1,ne:=fun r hr=>(key r hr).2.2.1,lk:=fun r hr=>(key r hr).2.2.2,st:=B.st }
theorem FL(B:B2 18 2 N2 R st):Dj R where
 fresh:=fun t ht=>have z:=k4 t (gj ht);⟨c6 z.2.2.1,fun r hr=>⟨fun e=>z.1 (e▸B.lhs r hr),fun e=>(B.rhs r hr _ e).1.elim z.1 z.2.1⟩⟩
 inj:=fun t t' h h' e=>k5 t (gj h) t' (gj h') e
 nt:=fun r hr=>(k6 _ (B.lhs r hr)).2
structure B3(R:List av)(st:Nm):Prop where
 sx:(nS,[tx])∈R
 wf:WF R
 ne:∀r,r∈R→r.2≠[]
 l2:∀r,r∈R→r.2.length≤2
 nl:∀r,r∈R→r.2.length=1∨aV r.2=true
 st:∀r,r∈R→st∉r.2
noncomputable def x9(R:List av):List (List Nm):=(R.map fun q=>if (aV q.2||decide (q.2.length≤1))=true then q.2 else q.2.map kT)++[[tx],[ty]]
theorem zQ:(x9 R).length=R.length+2:=by simp only [x9,List.length_append,List.length_map];rfl
theorem Aa:∀r,r∈dP R→r.2∈x9 R:=mq fun q hq=>eL (P:=fun L=>∀z,z∈L→z.2∈x9 R) (fun h=>pR (List.mem_append_left _ (List.mem_map.mpr ⟨q,hq,if_pos h⟩)))
 fun h z hz=>(List.mem_append.mp hz).elim (fun hz=>(List.mem_map.mp hz).elim fun t ht=>ht.2▸List.mem_append_right _ ((List.mem_cons.mp (gj (List.mem_filter.mp ht.1).2)).elim (fun e=>e▸.head _) fun e=>List.mem_singleton.mp e▸.tail _ (.head _))) fun hz=>List.mem_singleton.mp hz▸List.mem_append_left _ (List.mem_map.mpr ⟨q,hq,if_neg (h▸Bool.false_ne_true)⟩)
theorem C9(B:B2 18 2 N2 R st):B3 (dP R) st:=by
 have key:∀z,z∈dP R→(z.1∈NN∧∀s,s∈z.2→okN s)∧z.2≠[]∧z.2.length≤2∧(z.2.length=1∨aV z.2=true)∧st∉z.2:=mq fun q hq=>by
  have h1:=(k6 _ (B.lhs q hq)).1
  have hms:=fun s hs=>lZ (P:=fun s'=>s'∈NN∧s'≠st) (fun hT=>have z:=k4 s (gj hT);⟨z.2.2.1,B.sT z.2.2.2.1 z.2.2.2.2⟩) fun hT=>⟨iQ (yp (B.rhs q hq s hs).1) hT,(B.rhs q hq s hs).2⟩
  refine eL (P:=fun L=>∀z,z∈L→(z.1∈NN∧∀s,s∈z.2→okN s)∧z.2≠[]∧z.2.length≤2∧(z.2.length=1∨aV z.2=true)∧st∉z.2) (fun h=>pR ⟨⟨h1,fun s hs=>yp (B.rhs q hq s hs).1⟩,B.ne q hq,B.lk q hq,(Bool.or_eq_true_iff.mp h).symm.imp (fun h=>Nat.le_antisymm (of_decide_eq_true h) (List.length_pos_iff.mpr (B.ne q hq))) id,fun hs=>(B.rhs q hq st hs).2 rfl⟩)
   fun h z hz=>(List.mem_append.mp hz).elim (fun hz=>(List.mem_map.mp hz).elim fun t ht=>?_) fun hz=>List.mem_singleton.mp hz▸⟨⟨h1,fun s hs=>(List.mem_map.mp hs).elim fun s' x=>x.2▸.inl (hms s' x.1).1⟩,fun e=>B.ne q hq (List.map_eq_nil_iff.mp e),by rw [List.length_map];exact B.lk q hq,.inr (List.all_eq_true.mpr fun s hs=>(List.mem_map.mp hs).elim fun s' x=>x.2▸congrArg not (c6 (hms s' x.1).1)),fun hs=>(List.mem_map.mp hs).elim fun s' x=>(hms s' x.1).2 x.2⟩
  have hT:=gj (List.mem_filter.mp ht.1).2
  exact ht.2▸⟨⟨(k4 t hT).2.2.1,fun s hs=>List.mem_singleton.mp hs▸.inr hT⟩,List.cons_ne_nil _ _,Nat.le_succ 1,.inl rfl,fun hs=>B.st.elim (fun e=>k7.2.2.2.2 (e▸List.mem_singleton.mp hs▸hT)) fun e=>k7.2.1 (e▸List.mem_singleton.mp hs▸hT)⟩
 exact { sx:=List.mem_flatMap.mpr ⟨_,B.sx,.head _⟩,wf:=fun r hr=>⟨(key r hr).1.1,Nat.le_succ_of_le (key r hr).2.2.1,(key r hr).1.2⟩,ne:=fun r hr=>(key r hr).2.1,l2:=fun r hr=>(key r hr).2.2.1,nl:=fun r hr=>(key r hr).2.2.2.1,st:=fun r hr=>(key r hr).2.2.2.2 }
end
end Mine.L
end
section
namespace Mine.L
open PySem (Addr)
open scoped Classical
noncomputable def qI(r:av):V:=.tup [cB r.1,.tup (r.2.map dQ)]
theorem oj:∀{a b:List Nm},a.map dQ=b.map dQ→a=b
 |[],[],_=>rfl
 |[],_::_,h=>nomatch h
 |_::_,[],h=>nomatch h
 |_::_,_::_,h=>by injection h with h1 h2;rw [rB h1,oj h2]
theorem Aw{r r':av}(h:qI r=qI r'):r=r':=by
 injection h with h;injection h with h1 h2;injection h2 with h2
 exact Prod.ext (V.str.inj (List.cons.inj (List.cons.inj (V.tup.inj h1)).2).1) (oj (V.tup.inj h2))
theorem pV(r:av):isTup (qI r)=true:=List.all_eq_true.mpr fun x hx=>(List.mem_cons.mp hx).elim (fun e=>e▸rfl) fun hx=>List.mem_singleton.mp hx▸List.all_eq_true.mpr fun y hy=>(List.mem_map.mp hy).elim fun s x=>x.2▸gQ (P:=fun _ _ k=>uE 3 k=true) s rfl rfl
noncomputable def KU(L:List (List Nm)):List V:=NN.flatMap fun X=>L.map fun β=>qI (X,β)
theorem FY{L:List (List Nm)}{m:Nat}(h:L.length≤m):(KU L).length≤15*m:=jm (fun X=>by rw [List.length_map];exact h) NN
theorem FW{L:List (List Nm)}{r:av}(h1:r.1∈NN)(h2:r.2∈L):qI r∈KU L:=List.mem_flatMap.mpr ⟨r.1,h1,List.mem_map.mpr ⟨r.2,h2,rfl⟩⟩
noncomputable abbrev yh(R:List av):List av:=dP (iw (bW R).1)
def Nrm(R:List av)(fl:Bool)(R':List av):Prop :=
 cond fl (R'=yh R) (∃R4,pL (yh R) R4∧(∀r,r∈R4→aW r=false∧r.1∈NN∧∃r0,r0∈yh R∧r0.2=r.2)∧(∀r,r∈R'↔r∈R4)∧R'.length≤300)
structure Dd(H:Hp)(rs sn:Addr)(c Rd:List av)(ss:List V)(H':Hp):Prop where
 e:Ext H H'
 r:H' rs=some (.list (Rd.map aB))
 s:∃k,H' sn=some (.set ss k)
 m:∀r,r∈Rd↔r∈c
 nd:ss.Nodup
 i:∀u,u∈ss↔∃r,r∈c∧u=qI r
 l:Rd.length=ss.length
section
variable{n:Nat}{H:Hp}{g:Addr}{R:List av}
theorem jn{F:Fn}{m:String}{es:List ME}{ρ:Env}{Q:PV}(q:fZ F es ρ H fun vs H'=>aH F ("CFG"++"."++m) (.cls "CFG"::vs) [] [] H' (okW Q)):wpE F (.cmeth m es) ρ H Q:=q
theorem H8{fl:Bool}{Q:Option V→Hp→Prop}(h:G H g nS R)(B:Bs R)(q1:kE R=true→Q (some (.ref g)) H)(q2:kE R=false→(∃r,r∈R∧r.2=[])→Q none H)
  (q3:kE R=false→(∀r,r∈R→r.2≠[])→∀a H' R',Ext H H'→G H' a (bW R).2 R'→Nrm R fl R'→Q (some (.ref a)) H'):aH (wpF bodies (n+8)) "CFG.chomsky_normal_form" [.ref g] ["flexible"] [.bool fl] H Q:=by
 refine h.el fun dx f li ei le ee lp ep mi ma GH=>call_k rfl rfl rfl (jK (bC GH.cls (qj GH (aa rfl (aa rfl ?_)))))
 cases hc:kE R with
 |true=>exact q1 hc
 |false =>
  refine ay (bC GH.cls (AY GH fun l hl hle=>aa rfl (aa (G7 hl) ?_)))
  cases l with
  |cons x l=>exact q2 hc (Classical.byContradiction fun hn=>List.cons_ne_nil _ _ (hle.mpr fun r hr e=>hn ⟨r,hr,e⟩))
  |nil =>
   have hne:=hle.mp rfl
   have b1:=B.b1 hne
   have b2:=Dc b1.1 b1.2
   have b3:=C9 b2
   have nz:∀{L:List av},(nS,[tx])∈L→L≠[]:=fun h e=>List.not_mem_nil (e▸h)
   refine ay (aN (jn (E3 (n:=n) h B.wf (nz B.sx) (Nat.le_trans B.len (by decide)) fun a1 H1 x1 g1=>aa rfl (aN (jn (uz (n:=n) g1 (b1.1.wf (fun s hs=>List.mem_append_left _ hs) (by decide)) (b2.wf (fun _ h=>h) (by decide)) (fun r hr x y z e=>(k6 _ (yo (b1.2 r hr x y z e).2)).2) (nz b1.1.sx) (Nat.le_trans b1.1.len (by decide)) fun a2 H2 x2 g2=>aa rfl (aN (jn (Ck (n:=n) g2 (b2.wf (fun _ h=>h) (by decide)) b3.wf (nz b2.sx) (Nat.le_trans b2.len (by decide)) fun a3 H3 x3 g3=>aa rfl ?_)))))))))
   have X3:=(x1.trans x2).trans x3
   cases fl with
   |true=>exact q3 hc hne a3 H3 _ X3 g3 rfl
   |false =>
    refine ay (aN (jn (xN (n:=n) g3 b3.wf (Nat.le_trans (jj fun r hr=>Nat.le_succ_of_le (b2.lk r hr)) (Nat.le_trans (Nat.mul_le_mul_right 4 b2.len) (by decide))) ⟨_,b3.sx,by decide⟩ fun a4 H4 R4 x4 g4 u4 s4=>aa rfl fun k0 sn hsn rs hrs'=>aa rfl ?_)))
    have sr:sn≠rs:=ah hrs' (aj ..)
    have hrs:H4 rs=none:=(aq sr.symm).symm.trans hrs'
    have hw4:WF R4:=fun r hr=>bG (s4 r hr) fun _ c2 c3=>ao c3 fun r0 c3 c4=>c4▸⟨c2,(b3.wf r0 c3).2⟩
    have ssl:∀{c:List av} {ss:List V},(∀r,r∈c→r∈R4)→ss.Nodup→(∀u,u∈ss↔∃r,r∈c∧u=qI r)→ss.length≤300:=fun hc hnd hm=>Nat.le_trans (bO (m:=KU (x9 (iw (bW R).1))) hnd fun u hu=>ao ((hm u).mp hu) fun r hr e=>bG (s4 r (hc r hr)) fun _ c2 c3=>ao c3 fun r0 c3 c4=>e▸FW c2 (c4▸Aa _ c3)) (FY (m:=20) (by rw [zQ];exact Nat.add_le_add_right b2.len 2))
    have E5:Ext H4 (upd (upd H4 sn (.set [] k0)) rs (.list [])):=((Ext.refl H4).new hsn).new hrs
    refine gw (i7 (g4.ext E5) rfl (bD (l:=R4) (g:=aB) (fun c ρ H'=>∃Rd ss,ρ "seen"=some (.ref sn)∧ρ "result"=some (.ref rs)∧ρ "step4"=some (.ref a4)∧Dd H4 rs sn c Rd ss H') (bk rfl)
     ⟨[],[],rfl,rfl,rfl,E5,aj ..,⟨k0,(aq sr).trans (aj ..)⟩,fun _=>.rfl,.nil,fun u=>⟨nofun,fun h=>ao h fun _ h _=>nomatch h⟩,rfl⟩ (fun _ _ _ _=>trivial)
     (fun c r d ρ H' K Qk hcd h' hK=>fm h' fun Rd ss r1 r2 r3 S=>?_) fun ρ H' h'=>fm h' fun Rd ss r1 r2 r3 S=>?_))
    ·have hc4:∀r',r'∈c→r'∈R4:=fun r' h=>hcd▸List.mem_append_left _ h
     have hssl:=ssl hc4 S.nd S.i
     obtain ⟨w1,w2,w3⟩:=hw4 r (hcd▸List.mem_append_right _ (.head _))
     have hts:∀u,u∈ss→isTup u=true:=fun u hu=>ao ((S.i u).mp hu) fun r' _ e=>e▸pV r'
     refine aa rfl (And.intro nofun (fK (l:=r.2) bZ dQ iZ (aF w2) (fun s _ K hK=>uL (aa rfl hK)) (.tupL rfl (by rw [List.length_map];exact aF w2) (aa r1 (aL S.s fun k hk=>yr hk (pV r) hts (fun hin=>aa rfl (hK _ _ ⟨Rd,ss,r1,r2,r3,?_⟩)) fun hout=>aa rfl (aa r1 ⟨.add hk,.add hk (.inr ⟨pV r,hts⟩) hssl (fun h=>(Bool.false_ne_true h).elim) fun es' k' hp=>aa rfl (ay (aT (v:=aB r) r2 ((aq sr.symm).trans S.r) (by rw [List.length_map,S.l];exact aF hssl) (cC rfl) (nil_of (ay (nil_of (cL (hK _ _ ⟨Rd++[r],es',r1,r2,r3,?_⟩)))))))⟩))))))
     ·have hrc:r∈c:=ao ((S.i _).mp hin) fun r' h1 h2=>Aw h2▸h1
      have ap:∀x,x∈c↔x∈c++[r]:=fun x=>⟨List.mem_append_left _,fun h=>(List.mem_append.mp h).elim id fun h=>List.mem_singleton.mp h▸hrc⟩
      exact ⟨S.e,S.r,S.s,fun x=>(S.m x).trans (ap x),S.nd,fun u=>(S.i u).trans (exists_congr fun x=>and_congr_left fun _=>ap x),S.l⟩
     ·refine ⟨(S.e.new hsn).new hrs,(aj ..).trans (by rw [List.map_append];rfl),⟨k',(aq sr).trans (aj ..)⟩,fun x=>?_,hp.nodup_iff.mpr (di S.nd),fun u=>hp.mem_iff.trans ?_,?_⟩
      ·rw [List.mem_append,List.mem_append,S.m]
      ·rw [cD hout,List.mem_append,S.i]
       exact ⟨fun h=>h.elim (fun h=>h.imp fun x y=>⟨List.mem_append_left _ y.1,y.2⟩) fun h=>⟨r,List.mem_append_right _ (.head _),List.mem_singleton.mp h⟩,fun h=>ao h fun x y e=>(List.mem_append.mp y).imp (fun y=>⟨x,y,e⟩) fun y=>List.mem_singleton.mpr (e.trans (congrArg qI (List.mem_singleton.mp y)))⟩
      ·rw [hp.length_eq,cD hout,List.length_append,List.length_append,S.l];rfl
    ·have hRd:Rd≠[]:=nz ((S.m _).mpr (u4.keep _ b3.sx (by decide)))
     have hlen:Rd.length≤300:=S.l▸ssl (fun _ h=>h) S.nd S.i
     exact ay ((g4.ext S.e).el fun _ _ _ _ _ _ _ _ _ _ G4=>aa r3 (bC G4.cls (kR G4 (aa rfl (aa r2 (.mk S.r (jq (n:=n+1) (fun r hr=>hw4 r ((S.m r).mp hr)) hRd (Nat.le_trans hlen (by decide)) fun a H5 e1 _ g5=>q3 hc hne a H5 Rd ((X3.trans x4).trans ((ja S.e hrs).trans e1)) g5 ⟨R4,u4,s4,S.m,hlen⟩)))))))
end
end Mine.L
end
section
namespace Mine.L
open scoped Classical
noncomputable def kOk:List Nm→Bool
 |[a]=>isT a
 |[a,b]=>!isT a && !isT b
 |_=>false
noncomputable def vN(fl:Bool)(r:List Nm):Bool:=kOk r||(fl&&aW ([],r))
theorem vh(r:List Nm):kOk r=((decide (0<r.length)&&decide (r.length≤2)&&(r.length==1||aV r))&&(r.length !=1 || !aV r)):=by
 cases r with
 |nil=>rfl
 |cons a r =>
  cases r with
  |nil=>show isT a = !(!isT a&&true);cases isT a<;>rfl
  |cons b r =>
   cases r with
   |nil=>show (!isT a && !isT b)=((!isT a&&(!isT b&&true))&&true);cases isT a<;>cases isT b<;>rfl
   |cons c r=>rfl
theorem vI{p q:av→Bool}:∀R:List av,(R.all p&&R.all q)=R.all fun r=>p r&&q r
 |[]=>rfl
 |r::R=>by
  simp only [List.all_cons,List.all_cons,←vI R]
  cases p r<;>cases q r<;>cases R.all p<;>rfl
theorem qi{R:List av}:kE R=R.all fun r=>kOk r.2:=(vI R).trans (congrArg R.all (funext fun r=>(vh r.2).symm))
theorem v8{r:List Nm}{X:Nm}(h:aW (X,r)=true):(decide (0<r.length)&&decide (r.length≤2)&&(r.length==1||aV r))=true:=ao (cu.mp h) fun Y e _=>by
 cases (show r=[Y] from e);rfl
theorem B6{fl:Bool}{r:List Nm}(h:vN fl r=true):(decide (0<r.length)&&decide (r.length≤2)&&(r.length==1||aV r))=true :=
 (Bool.or_eq_true_iff.mp h).elim (fun h=>(Bool.and_eq_true_iff.mp ((vh r).symm.trans h)).1) fun h=>v8 (Bool.and_eq_true_iff.mp h).2
section
variable{R R':List av}{fl:Bool}
theorem uR{r:List Nm}(h0:r≠[])(h2:r.length≤2)(hn:r.length=1∨aV r=true):aW ([],r)=false→kOk r=true:=fun hu=>by
 cases r with
 |nil=>exact absurd rfl h0
 |cons a r =>
  cases r with
  |nil =>
   have hu:(!isT a&&true)=false:=hu
   show isT a=true
   cases h:isT a with
   |true=>rfl
   |false=>replace hu:=(h)▸hu;injection hu
  |cons b r =>
   cases r with
   |nil =>
    have hn:(!isT a&&(!isT b&&true))=true:=hn.resolve_left fun e=>nomatch Nat.succ.inj e
    rw [Bool.and_true] at hn;exact hn
   |cons c r=>exact absurd h2 (Nat.not_le.mpr (Nat.succ_le_succ (Nat.succ_le_succ (Nat.succ_pos _))))
theorem zu{r:List Nm}(h0:r≠[])(h2:r.length≤2)(hn:r.length=1∨aV r=true):vN true r=true:=by
 delta vN
 cases hu:aW ([],r) with
 |true=>exact Bool.or_true _
 |false=>refine (uR h0 h2 hn hu).symm▸?_;rfl
structure NF(R R':List av)(fl:Bool):Prop where
 wf:WF R'
 ne:∀r,r∈R'→r.2≠[]
 len:R'.length≤300
 k:∀r,r∈R'→vN fl r.2=true∧(bW R).2∉r.2
 lang:∀(w:List Nm) i j,Der R' w (bW R).2 i j↔Der R w nS i j
theorem HN(B:Bs R)(hne:∀r,r∈R→r.2≠[])(N:Nrm R fl R'):NF R R' fl:=by
 have b1:=B.b1 hne
 have b2:=Dc b1.1 b1.2
 have b3:=C9 b2
 have lang3:∀(w:List Nm) i j,Der (yh R) w (bW R).2 i j↔Der R w nS i j:=fun w i j =>
  (Ab (FL b2) fun t ht=>(b1.1.sT (k4 t (gj ht)).2.2.2.1 (k4 t (gj ht)).2.2.2.2).symm).trans ((A2 (FN b1.1 b1.2) fun l a b c hm=>have t:=b1.2 _ hm a b c rfl;have z:=k2 _ (k1 l t.1 a t.2);(b1.1.sT z.2.2.2.1 z.2.2.2.2).symm).trans (xA B))
 cases fl with
 |true =>
  cases (show R'=yh R from N)
  exact ⟨b3.wf,b3.ne,Nat.le_trans (jj fun r hr=>Nat.le_succ_of_le (b2.lk r hr)) (Nat.le_trans (Nat.mul_le_mul_right 4 b2.len) (of_decide_eq_true rfl)),fun r hr=>⟨zu (b3.ne r hr) (b3.l2 r hr) (b3.nl r hr),b3.st r hr⟩,lang3⟩
 |false =>
  refine jF N fun R4 u4 s4 hm hl=>?_
  exact ⟨fun r hr=>bG ((fun r hr=>s4 r ((hm r).mp hr)) r hr) fun _ c2 c3=>ao c3 fun r0 c3 c4=>c4▸⟨c2,(b3.wf r0 c3).2⟩,fun r hr=>bG ((fun r hr=>s4 r ((hm r).mp hr)) r hr) fun _ _ c3=>ao c3 fun r0 c3 c4=>c4▸b3.ne r0 c3,hl,
   fun r hr=>bG ((fun r hr=>s4 r ((hm r).mp hr)) r hr) fun c1 _ c3=>ao c3 fun r0 c3 c4=>⟨by simp only [vN,uR (r:=r.2) (c4▸b3.ne r0 c3) (c4▸b3.l2 r0 c3) (c4▸b3.nl r0 c3) c1];rfl,c4▸b3.st r0 c3⟩,
   fun w i j=>Iff.trans ⟨Der.sub fun r=>(hm r).mp,Der.sub fun r=>(hm r).mpr⟩ ((zq u4).trans (lang3 w i j))⟩
theorem NF.Je(N:NF R R' fl):nM R'=true:=List.all_eq_true.mpr fun r hr=>B6 (N.k r hr).1
theorem NF.cnf(N:NF R R' false):kE R'=true:=qi.trans (List.all_eq_true.mpr fun r hr=>(Bool.or_false _).symm.trans (N.k r hr).1)
theorem HX{w:List Nm}(hw:WF R)(hne:∀r,r∈R→r.2≠[])(hl:w.length≤3){X:Nm}:Der R w X 0 w.length↔der R w 60 X 0 w.length :=
 ⟨fun x=>x.elim fun h x=>lJ (of_decide_eq_true rfl) (oK hne (l:=NN++TT) (fun s hs=>List.mem_append_right _ (gj hs)) (fun r hr=>List.mem_append_left _ (hw r hr).1) 3 hl x),fun x=>⟨60,x⟩⟩
end
end Mine.L
end
section
namespace Mine.L
open PySem (Addr)
open scoped Classical
theorem dD.ext{k:Nat}{H H':Hp}{t:Addr}(h:dD k H t)(e:Ext H H'):dD k H' t:=by
 obtain ⟨cs,a,h1,h2,h3,h4,h5⟩:=h
 exact ⟨cs,a,e _ _ h1,h2,h3,h4,h5⟩
noncomputable abbrev kTs:List V:=[.lst [.bool true],.lst [.bool false,.bool false]]
noncomputable abbrev kFs(fl:Bool):List V:=kTs++[V.lst [.bool false]].take (if fl then 1 else 0)
theorem l8(r:List Nm):qS r∈kTs↔kOk r=true:=by
 cases r with
 |nil=>exact ⟨fun h=>(List.mem_cons.mp h).elim (fun e=>(nomatch V.lst.inj e)) fun h=>(nomatch V.lst.inj (List.mem_singleton.mp h)),nofun⟩
 |cons a r =>
  cases r with
  |nil=>exact ⟨fun h=>(List.mem_cons.mp h).elim (fun e=>V.bool.inj (List.cons.inj (V.lst.inj e)).1) fun h=>(nomatch (List.cons.inj (V.lst.inj (List.mem_singleton.mp h))).2),fun h=>by
    show V.lst [.bool (isT a)]∈kTs
    rw [show isT a=true from h];exact .head _⟩
  |cons b r =>
   cases r with
   |nil=>exact ⟨fun h=>(List.mem_cons.mp h).elim (fun e=>nomatch (List.cons.inj (V.lst.inj e)).2) fun h=>by
     have e:=List.cons.inj (V.lst.inj (List.mem_singleton.mp h))
     show (!isT a && !isT b)=true
     rw [V.bool.inj e.1,V.bool.inj (List.cons.inj e.2).1];rfl,fun h=>by
     have h:=Bool.and_eq_true_iff.mp h
     show V.lst [.bool (isT a),.bool (isT b)]∈kTs
     rw [Dt h.1,Dt h.2];exact .tail _ (.head _)⟩
   |cons c r=>exact ⟨fun h=>(List.mem_cons.mp h).elim (fun e=>nomatch (List.cons.inj (V.lst.inj e)).2) fun h=>(nomatch (List.cons.inj (List.cons.inj (V.lst.inj (List.mem_singleton.mp h))).2).2),nofun⟩
theorem Aq(r:List Nm):qS r=.lst [.bool false]↔aW ([],r)=true:=by
 refine ⟨fun h=>?_,fun h=>ao (cu.mp h) fun Y e h'=>by cases (show r=[Y] from e);exact congrArg (fun b=>V.lst [.bool b]) h'⟩
 cases r with
 |nil=>exact nomatch V.lst.inj h
 |cons a r =>
  cases r with
  |nil=>exact cu.mpr ⟨a,rfl,V.bool.inj (List.cons.inj (V.lst.inj h)).1⟩
  |cons b r=>exact nomatch (List.cons.inj (V.lst.inj h)).2
theorem wV(fl:Bool)(r:List Nm):qS r∈kFs fl↔vN fl r=true:=by
 refine List.mem_append.trans (Iff.trans (or_congr (l8 r) ?_) Bool.or_eq_true_iff.symm)
 cases fl with
 |false=>exact ⟨nofun,nofun⟩
 |true=>exact List.mem_singleton.trans (Aq r)
theorem u7(r:List Nm):pk false 6 (qS r)=true:=List.all_eq_true.mpr fun x hx=>(List.mem_map.mp hx).elim fun s y=>y.2▸rfl
theorem CU:∀x,x∈kTs→pk false 6 x=true:=fun x hx=>(List.mem_cons.mp hx).elim (fun e=>e▸rfl) fun h=>List.mem_singleton.mp h▸rfl
theorem Hw{fl:Bool}:∀x,x∈kFs fl→pk false 6 x=true:=fun x hx=>(List.mem_append.mp hx).elim (CU x) fun h=>List.mem_singleton.mp (List.mem_of_mem_take h)▸rfl
section
variable{H:Hp}{R:List av}{n:Nat}
theorem zb{e:ME}{v:String}{X:Nm}{w:List Nm}{ρ:Env}{Q:PV}(hw:WF R)(hne:∀r,r∈R→r.2≠[])(hl:R.length≤300)(hwl:w.length≤3)(hX:X∈NN)(h1:ρ "word"=some (.lst (w.map .str)))(h2:ρ v=some (.lst (R.map bu)))
  (he:∀(H':Hp) (K:PV),K (.str X) H'→wpE (wpF bodies (n+2)) e ρ H' K) (q:∀(H':Hp) (b:Bool),Ext H H'→(b=true↔Der R w X 0 w.length)→Q (.bool b) H') :
  wpE (wpF bodies (n+2)) (.cmp .in_ (len (vr "word")) (b2 (.call "_law_reach" [vr v,vr "word"]) .get (.tup [e,nm 0]) (.lst false []))) ρ H Q:=by
 have hz:(w.map V.str).length≤big:=by rw [List.length_map];exact aF hwl
 refine aa h1 (fq rfl hz (aa h2 (aa h1 (Cj (n:=n) hw (aF hl) (Nat.le_trans hwl (by decide)) fun d H' es ep K e1 hd kr kb sn inc=>aa rfl (And.intro (.get hd) (he _ _ (C0 (i:=0) hd kr hX (Nat.zero_le _) ?_)))))))
 have key:w.length∈K X 0↔Der R w X 0 w.length:=⟨fun h=>sn X 0 _ hX (Nat.zero_le _) h,fun h=>inc X 0 _ hX (Nat.zero_le _) ((HX hw hne hwl).mp h)⟩
 rw [List.length_map]
 exact fy (k:=true) rfl rfl u6 (fun h=>q H' true e1 ⟨fun _=>key.mp (kM.mp h),fun _=>rfl⟩) fun h=>q H' false e1 ⟨nofun,fun h'=>absurd (kM.mpr (key.mpr h')) h⟩
end
end Mine.L
end
section
namespace Mine.L
open PySem (Addr)
open scoped Classical
section
variable{H:Hp}{n:Nat}{F:Fn}{ρ:Env}{Q:PV}{t:Addr}{k:Nat}
theorem jM{o:BOp}{a b:ME}(q:wpE F a ρ H fun va H1=>wpE F b ρ H1 fun vb H2=>iP H2 Q o va vb):wpE F (.bin o a b) ρ H Q:=q
theorem C8{f:BI}{e:ME}(q:wpE F e ρ H fun v H'=>BiW F H' Q f [v]):wpE F (.bi f [e]) ρ H Q:=q
theorem sS{e i:ME}(q:wpE F e ρ H fun v H1=>wpE F i ρ H1 fun k H2=>kG H2 Q v k):wpE F (.sub e i) ρ H Q:=q
theorem dh{m:Int}(T:dD k H t)(hk:k≤1000)(hm:0<m)(ht:ρ "tape"=some (.ref t))(q:∀(i:Nat) (H':Hp),(i:Int)<m→gi t H H'→dD (k+1) H' t→Q (.int i) H'):wpE (wpF bodies (n+1)) (.call "_law_take" [vr "tape",nm m]) ρ H Q :=
 aa ht (E1 T hk hm fun r H' h0 h1 x T'=>(Int.eq_ofNat_of_zero_le h0).elim fun i e=>by cases e;exact aa rfl (q i H' h1 x T'))
theorem vB{s:String}{x:String}{m sz:Nat}{P:Nm→Prop}(T:dD k H t)(hk:k+sz≤900)(hs:(cps s).length=m)(hm:0<m)(hP:∀c,c∈cps s→P [c])(ht:(only ρ ["tape"]) "tape"=some (.ref t))(hx:("tape"=x)=False)(hmb:m≤10){R:List V→Hp→Prop}
  (q:∀(w:List Nm) (H':Hp),w.length=sz→(∀s,s∈w→P s)→gi t H H'→dD (k+sz) H' t→R (w.map .str) H') :
  iterable H (.rng 0 sz)∧∀l,bQ H (.rng 0 sz) l→fV (fun a H2 R=>onS (eG [x] a (only ρ ["tape"])) fun ρ'=>kh (dB .no) (wpE (wpF bodies (n+1)) .no ρ' H2) H2 fun b H3=>cond b (wpE (wpF bodies (n+1)) (.sub (st s) (.call "_law_take" [vr "tape",nm m])) ρ' H3 fun r H4=>R (some r) H4) (R none H3)) (Still (.rng 0 sz) H) l [] H R:=by
 refine And.intro trivial fun l' hl'=>i6.2 l' hl'▸j3 (fun l acc H'=>∃ws:List Nm,acc=ws.map .str∧ws.length+l.length=sz∧(∀s,s∈ws→P s)∧dD (k+ws.length) H' t∧gi t H H') (fun l acc H' h=>qL h fun ws h1 h2 _ _ _=>⟨trivial,?_⟩) (fun v vs acc H' K h hK=>qL h fun ws h1 h2 h3 T2 x2=>?_) (fun acc H' h=>qL h fun ws h1 h2 h3 T2 x2=>?_) _ [] H ⟨[],rfl,?_,nofun,T,.refl _ _⟩
 ·rw [h1,List.length_map];exact aF (Nat.le_trans (Nat.le_trans (Nat.le_add_right _ _) (Nat.le_of_eq h2)) (Nat.le_trans (Nat.le_add_left _ k) hk))
 ·have hl:k+ws.length≤900:=Nat.le_trans (Nat.add_le_add_left (h2▸Nat.le_add_right _ _) k) hk
  refine aa rfl (sS (bS (dh T2 (Nat.le_trans hl (by decide)) (Int.natCast_pos.mpr hm) ((if_neg (by rw [hx];exact id)).trans ht) fun i H2 g2 x3 T3=>?_)))
  have hi:i<(cps s).length:=hs.symm▸Int.ofNat_lt.mp g2
  refine uS (List.getElem?_eq_getElem hi) (aF (Nat.le_trans (Nat.le_of_lt hi) (hs▸hmb))) (hK _ _ ⟨ws++[[(cps s)[i]]],by rw [h1,List.map_append];rfl,?_,fun y hy=>(List.mem_append.mp hy).elim (h3 y) fun e=>List.mem_singleton.mp e▸hP _ (List.getElem_mem hi),?_,x2.trans x3⟩)
  ·rw [List.length_append,Nat.add_assoc,Nat.add_comm [_].length];exact h2
  ·rw [List.length_append];exact T3
 ·exact h1▸q ws H' h2 h3 x2 (h2▸T2)
 ·rw [List.length_map,List.length_range];exact Nat.zero_add _
end
end Mine.L
end
section
namespace Mine.L
open PySem (Addr)
open scoped Classical
noncomputable abbrev won:PS:=fun o _ _=>o=.ret (.bool true)
structure DH(a g t:Addr)(R:List av)(fl:Bool)(ρ:Env):Prop where
 n:ρ "normal"=some (.ref a)
 g:ρ "grammar"=some (.ref g)
 r:ρ "rules"=some (.lst (R.map bu))
 y:ρ "ready"=some (.bool (kE R))
 f:ρ "flexible"=some (.bool fl)
 t:ρ "tape"=some (.ref t)
theorem u5(k:Bool)(Z:List av):∀x,x∈Z.map bu→pk k 6 x=true:=fun x hx=>(List.mem_map.mp hx).elim fun r y=>y.2▸lG k r
theorem rf(k:Bool)(Z:List av):pk k 6 (.lst (Z.map bu))=true:=List.all_eq_true.mpr fun x hx=>(List.mem_map.mp hx).elim fun r y=>y.2▸by
 have:=uZ k 2 r.2
 exact (Bool.and_true _).trans this
section
variable{H:Hp}{R R':List av}{F:Fn}{ρ:Env}{Q:PV}{v:V}
theorem Eh{e:ME}{rest:List MS}{Q:PS}(q:wpE F e ρ H fun v H'=>Q (.ret v) ρ H'):aO F (.ret e::rest) ρ H Q:=q
theorem pJ{o:COp}{a b:ME}(q:wpE F a ρ H fun va H1=>wpE F b ρ H1 fun vb H2=>iu o va vb H2 Q):wpE F (.cmp o a b) ρ H Q:=q
theorem eq_self(k:Bool)(h:pk k 6 v=true)(q:Q (.bool true) H):iu .eq v v H Q:=.mk k h h ((decide_eq_true rfl:decide (v=v)=true).symm▸q)
theorem ne_self(k:Bool)(h:pk k 6 v=true)(q:Q (.bool false) H):iu .ne v v H Q:=.mk k h h ((decide_eq_true rfl:decide (v=v)=true).symm▸q)
theorem Gq{a g t:Addr}{fl:Bool}{k:Nat}(B:Bs R)(hne:∀r,r∈R→r.2≠[])(N:NF R R' fl)(T:dD k H t)(hk:k≤800)(E:DH a g t R fl ρ)(e1:ρ "rows"=some (.lst (R'.map bu)))(e2:ρ "start"=some (.str (bW R).2)) :
  aO (wpF bodies 11) [.asg "word" (.comp false (.sub (st "xxy") (Mine.take 3)) ["k"] (.bi .range [.bin .add (nm 1) (Mine.take 3)]) .no ["tape"]),
   .asg "due" (.cmp .in_ (len (vr "word")) (Mine.b2 (.call "_law_reach" [vr "rules",vr "word"]) .get (.tup [st "S",nm 0]) (.lst false []))),
   .ret (.cmp .eq (.cmp .in_ (len (vr "word")) (Mine.b2 (.call "_law_reach" [vr "rows",vr "word"]) .get (.tup [vr "start",nm 0]) (.lst false []))) (vr "due"))] ρ H won:=by
 refine aN (And.intro (List.forall_mem_singleton.mpr (Option.isSome_iff_exists.mpr ⟨_,E.t⟩)) (C8 (jM (bS (dh T (Nat.le_trans hk (by decide)) (by decide) E.t fun m H1 hm x1 T1=>?_)))))
 have hm:m<3:=Int.ofNat_lt.mp hm
 refine iP.add (.range (n:=((1+m:Nat):Int)) ⟨Int.natCast_nonneg _,Int.ofNat_le.mpr (Nat.le_trans (Nat.add_le_add_left (Nat.le_of_lt hm) 1) (by decide))⟩ (vB (P:=fun _=>True) (k:=k+1) (m:=3) T1 ?_ rfl (by decide) (fun _ _=>trivial) ((if_pos (by decide)).trans E.t) (eq_false (by decide)) (by decide) fun w H2 hw _ x2 _=>?_))
 ·exact Nat.le_trans (Nat.add_le_add (Nat.succ_le_succ hk) (Nat.add_le_add_left (Nat.le_of_lt hm) 1)) (by decide)
 ·have hw:w.length≤3:=hw▸Nat.add_le_add_left (Nat.le_of_lt_succ hm) 1
  have hst:(bW R).2∈NN:=mz (P:=fun z=>z.2∈NN) (fun _=>show nS0∈NN by decide) fun _=>show nS∈NN by decide
  refine aN (zb (n:=9) (X:=nS) B.wf hne (Nat.le_trans B.len (by decide)) hw (by decide) rfl E.r (fun H' K k=>k) fun H3 b1 _ hb1=>Eh (pJ (zb (n:=9) (e:=vr "start") (X:=(bW R).2) N.wf N.ne N.len hw hst rfl e1 (fun H' K k=>aa e2 k) fun H4 b2 _ hb2=>?_)))
  have hbb:b2=b1:=Bool.eq_iff_iff.mpr (hb2.trans ((N.lang w 0 w.length).trans hb1.symm))
  rw [hbb]
  exact cC (v:=.bool b1) rfl _ (eq_self false rfl (show Out.ret (.bool true)=.ret (.bool true) from rfl))
theorem Gr{st:Nm}{g a t:Addr}{fl:Bool}{k:Nat}(B:Bs R)(hne:∀r,r∈R→r.2≠[])(hg:G H g nS R)(ha:G H a st R')(hc:(kE R=true∧R'=R∧st=nS)∨(kE R=false∧NF R R' fl∧st=(bW R).2))(T:dD k H t)(hk:k≤800)(E:DH a g t R fl ρ):aO (wpF bodies 11) (iC.drop 10) ρ H won:=by
 have hwf':WF R':=hc.elim (fun h=>h.2.1▸B.wf) fun h=>h.2.1.wf
 have hlen':R'.length≤300:=hc.elim (fun h=>h.2.1▸Nat.le_trans B.len (by decide)) fun h=>h.2.1.len
 have hnb:bu (nB,[])∉R.map bu:=fun h=>hne _ (kL.mp h) rfl
 refine hg.el fun _ _ _ _ _ _ _ _ _ _ GG=>ha.el fun _ _ _ _ _ _ _ _ _ _ GA=>?_
 refine aa E.n (zf (n:=9) GA hwf' (Nat.le_trans hlen' (by decide)) (aa rfl (aN (aa E.n (bC GA.cls (kR GA (aa rfl (jK (aa E.r (fy (k:=true) rfl (lG _ (nB,[])) (u5 _ _) (fun h=>absurd h hnb) fun _=>aa rfl (aa E.g (zf (n:=9) GG B.wf (Nat.le_trans B.len (by decide)) (aa rfl (aa E.r (ne_self true (rf _ _) (aa rfl (ay (aa E.y (aa rfl ?_)))))))))))))))))))
 rcases hc with ⟨hcn,rfl,rfl⟩ | ⟨hcn,N,rfl⟩
 ·rw [hcn]
  exact aa E.r (eq_self true (rf _ _) (aa rfl (pJ (cC (v:=.str nS) rfl _ (bS (eq_self (v:=.str nS) true rfl (show Out.ret (.bool true)=.ret (.bool true) from rfl)))))))
 ·rw [hcn]
  refine ay (aN (aa E.f (.int ?_)))
  rw [show (if fl=true then (1:Int) else 0)=((if fl=true then 1 else 0:Nat):Int) by cases fl<;>rfl]
  refine dJ.seq rfl (.hi (by decide) (by cases fl<;>decide) (.addl rfl rfl (by cases fl<;>decide) ?_))
  refine jK (And.intro (fun c hc=>by
   rcases List.mem_cons.mp hc with e | e
   ·rw [e];rfl
   ·rw [List.mem_singleton.mp e];rfl) (gD (l:=R') bu (fun _=>none) (bk rfl) (Nat.le_trans hlen' (by decide)) (fun r hr K hK=>?_) ?_))
  ·obtain ⟨w1,w2,w3⟩:=N.wf r hr
   exact aa rfl (zg (n:=10) w3 (aF w2) (aa rfl (fy (l:=kFs fl) (k:=false) rfl (u7 r.2) Hw (fun _=>aa rfl (fy (l:=r.2.map .str) (k:=true) rfl rfl (fun x hx=>(List.mem_map.mp hx).elim fun s y=>y.2▸rfl) (fun h=>absurd ((List.mem_map.mp h).elim fun s y=>V.str.inj y.2▸y.1) (N.k r hr).2) fun _=>aa rfl hK)) fun hn=>absurd ((wV fl r.2).mpr (N.k r hr).1) hn)))
  ·rw [show R'.filterMap (fun _=>(none:Option V))=[] from List.filterMap_eq_nil_iff.mpr fun _ _=>rfl]
   refine fq rfl (by decide) (bS (uI (fun h=>absurd h (Int.lt_irrefl 0)) fun _=>aa rfl (ay (aa E.n (bC GA.cls (zj GA ?_))))))
   rw [N.Je]
   refine aa rfl (aa rfl (aa rfl (aa E.f (aa rfl (aa rfl ?_)))))
   have E':DH a g t R fl (put (put (put ρ "rows" (.lst (R'.map bu))) "start" (.str (bW R).2)) "forms" (.lst (kFs fl))):=⟨E.n,E.g,E.r,E.y,E.f,E.t⟩
   cases fl with
   |true=>exact ay (Gq B hne N T hk E' rfl rfl)
   |false =>
    refine aa E.n (bC GA.cls (qj GA ?_))
    rw [N.cnf]
    exact aa rfl (aa rfl (aa rfl (ay (Gq B hne N T hk E' rfl rfl))))
end
end Mine.L
end
section
namespace Mine.L
open PySem (Addr)
open scoped Classical
section
variable{H:Hp}{R:List av}{ρ:Env}
theorem za(k:Bool){a b:V}{Q:PV}(ha:pk k 6 a=true)(hb:pk k 6 b=true)(q:Q (.bool (decide (a=b))) H):iu .eq a b H Q:=.mk k ha hb q
theorem zU:decide (V.int ((R.filterMap fun r=>if kOk r.2 then none else some (V.int 1)).length:Int)=V.int 0)=kE R:=by
 rw [qi,Bool.eq_iff_iff,decide_eq_true_iff,List.all_eq_true]
 refine ⟨fun h r hr=>?_,fun h=>congrArg (fun l:List V=>V.int (l.length:Int)) (List.filterMap_eq_nil_iff.mpr fun r hr=>if_pos (h r hr))⟩
 have h0:=List.filterMap_eq_nil_iff.mp (List.eq_nil_of_length_eq_zero (Int.ofNat_inj.mp (V.int.inj h))) r hr
 cases hk:kOk r.2 with
 |true=>rfl
 |false=>rw [hk] at h0;exact nomatch h0
theorem Ja{t:Addr}{fl:Bool}{k:Nat}(B:Bs R)(T:dD k H t)(hk:k≤800)(r1:ρ "rules"=some (.lst (R.map bu)))(r2:ρ "flexible"=some (.bool fl))(r3:ρ "tape"=some (.ref t)):aO (wpF bodies 11) (iC.drop 6) ρ H won:=by
 refine aN (aa r1 (xP (n:=4) B.wf (fun e=>List.not_mem_nil (e▸B.sx)) (Nat.le_trans B.len (by decide)) fun g H1 e1 _ g1=>aa rfl (aN (And.intro (List.forall_mem_nil _) (aa r1 (gD (l:=R) bu (fun r=>if kOk r.2 then none else some (.int 1)) (bk rfl) (Nat.le_trans B.len (by decide)) (fun r hr K hK=>?_) ?_))))))
 ·obtain ⟨w1,w2,w3⟩:=B.wf r hr
  refine aa rfl (zg (n:=10) w3 (aF w2) (aa rfl (fy (l:=kTs) (k:=false) rfl (u7 r.2) CU (fun h=>?_) fun h=>?_)))
  ·rw [if_pos ((l8 r.2).mp h)] at hK;exact hK
  ·rw [if_neg fun e=>h ((l8 r.2).mpr e)] at hK;exact hK
 ·refine fq rfl (Nat.le_trans (List.length_filterMap_le _ _) (Nat.le_trans B.len (by decide))) (bS (za true rfl rfl ?_))
  rw [show (Lit.int 0).v=V.int 0 from rfl,zU]
  have T1:=T.ext e1
  refine g1.el fun _ _ _ _ _ _ _ _ _ _ GG=>aa rfl (bC GG.cls (qj GG (aa rfl (aa rfl (ne_self false rfl (aa rfl (ay (aa rfl (And.intro GG.cls (aa r2 (H8 (n:=3) g1 B (fun hc=>?_) (fun hc hem=>?_) fun hc hne a H2 R' e2 g2 N=>?_)))))))))))
  ·refine ay (Gr (fl:=fl) B (fun r hr e=>?_) g1 g1 (.inl ⟨hc,rfl,rfl⟩) T1 hk ⟨rfl,rfl,r1,rfl,r2,r3⟩)
   have:=List.all_eq_true.mp (qi.symm.trans hc) r hr
   rw [e] at this
   exact nomatch this
  ·refine aa r1 (fy (k:=true) rfl (lG _ (nB,[])) (u5 _ _) (fun h=>?_) fun hn=>?_)
   ·exact rfl
   ·exact ao hem fun r hr he=>absurd (kL.mpr (B.emp r hr he▸hr)) hn
  ·exact ay (Gr (fl:=fl) B hne (g1.ext e2) g2 (.inr ⟨hc,HN B hne N,rfl⟩) (T1.ext e2) hk ⟨rfl,rfl,r1,rfl,r2,r3⟩)
end
end Mine.L
end
section
namespace Mine.L
open PySem (Addr)
open scoped Classical
structure fD(r:av):Prop where
 lhs:r.1∈N3
 rhs:∀s,s∈r.2→s∈N3∨s∈TT
 l3:r.2.length≤3
 tri:∀a b c,r.2=[a,b,c]→a∈N3
 emp:r.2=[]→r=(nB,[])
structure Dr(R:List av):Prop where
 sx:(nS,[tx])∈R
 ok:∀r,r∈R→fD r
theorem ch5:∀c,c∈cps "SABxy"→[c]∈N3∨[c]∈TT:=by decide +kernel
theorem ch3:∀c,c∈cps "SAB"→[c]∈N3:=by decide +kernel
theorem Dr.app{R S:List av}(D:Dr R)(h:∀r,r∈S→fD r):Dr (R++S):=⟨List.mem_append_left _ D.sx,fun r hr=>(List.mem_append.mp hr).elim (D.ok r) (h r)⟩
theorem sZ{r:av}(h:fD r)(k:Nat):∀q,q∈[r].take k→fD q:=fun q hq=>List.mem_singleton.mp (List.mem_of_mem_take hq)▸h
theorem ok1{a b:Nm}(ha:a∈N3)(hb:b∈N3∨b∈TT):fD (a,[b]):=⟨ha,fun s hs=>List.mem_singleton.mp hs▸hb,Nat.le_succ_of_le (Nat.le_succ 1),fun _ _ _ e=>absurd (List.cons.inj e).2.symm (List.cons_ne_nil _ _),fun e=>absurd e (List.cons_ne_nil _ _)⟩
theorem IZ:fD (nB,[]):=⟨by decide +kernel,fun s hs=>absurd hs List.not_mem_nil,Nat.zero_le _,fun _ _ _ e=>absurd e.symm (List.cons_ne_nil _ _),fun _=>rfl⟩
theorem Dr.bs{R:List av}(D:Dr R)(hl:R.length≤8):Bs (vM R) :=
 have h:∀r,r∈vM R→fD r:=fun r hr=>D.ok r (rj.mp hr)
 ⟨Nat.le_trans r9 hl,rj.mpr D.sx,fun r hr=>(h r hr).lhs,fun r hr=>(h r hr).rhs,fun r hr=>(h r hr).l3,fun r hr=>(h r hr).tri,fun r hr=>(h r hr).emp⟩
theorem BP{r:V}(k:Nat):([r].take k).length≤1:=List.length_take_le' k [r]
theorem AL{i:Nat}(h:i<5){C:Prop}(f:∀sz:Nat,[V.int 1,.int 1,.int 2,.int 2,.int 3][i]?=some (.int (sz:Int))→1≤sz→sz≤3→C):C:=by
 have h1:[V.int 1,.int 1,.int 2,.int 2,.int 3][i]?=some (.int (([1,1,2,2,3]:List Nat)[i]:Int)):=(List.getElem?_map (f:=bU) (l:=[1,1,2,2,3])).trans (congrArg (Option.map bU) (List.getElem?_eq_getElem h))
 have h2:∀x,x∈([1,1,2,2,3]:List Nat)→1≤x∧x≤3:=by decide
 have h3:=h2 _ (List.getElem_mem h)
 exact f _ h1 h3.1 h3.2
inductive LSt(fl:Bool)(t rl:Addr)(n:Nat)(ρ:Env)(H:Hp):Prop
 |mk (rs:List av) (r1:ρ "tape"=some (.ref t)) (r2:ρ "flexible"=some (.bool fl)) (r3:ρ "rules"=some (.ref rl)) (T:dD (3+10*n) H t) (hr:H rl=some (.list (rs.map bu))) (D:Dr rs) (hl:rs.length=1+n)
theorem LSt.el{fl:Bool}{t rl:Addr}{n:Nat}{ρ:Env}{H:Hp}{C:Prop}(h:LSt fl t rl n ρ H)(f:∀rs,ρ "tape"=some (.ref t)→ρ "flexible"=some (.bool fl)→ρ "rules"=some (.ref rl)→dD (3+10*n) H t→H rl=some (.list (rs.map bu))→Dr rs→rs.length=1+n→C):C:=by
 cases h with
 |mk rs r1 r2 r3 T hr D hl=>exact f rs r1 r2 r3 T hr D hl
section
variable{H:Hp}{F:Fn}{ρ:Env}{Q:PV}
theorem Bk{a b:ME}(q:wpE F a ρ H fun va H1=>wpE F b ρ H1 fun vb H2=>Q (.tup [va,vb]) H2):wpE F (.tup [a,b]) ρ H Q:=q
theorem EB(q:∀a,H a=none→Q (.ref a) (upd H a (.list [bu (nS,[tx])]))):wpE F (.lst true [.tup [st "S",.lst false [st "x"]]]) ρ H Q:=q
theorem Cb(q:Q (.lst [.int 1,.int 1,.int 2,.int 2,.int 3]) H):wpE F (.lst false [nm 1,nm 1,nm 2,nm 2,nm 3]) ρ H Q:=q
theorem F8{a b:String}{m:Int}(q:wpE F (take m) ρ H fun j H3=>dJ H3 Q (.lst [bu (cps a,[cps b])]) none (some j)):wpE F (.slice (.lst false [.tup [st a,.lst false [st b]]]) .no (take m)) ρ H Q:=q
theorem IY{a:String}{m j:Int}(q:wpE F (take m) ρ H fun v H3=>iP H3 (fun j H3=>dJ H3 Q (.lst [bu (cps a,[])]) none (some j)) .fdiv v (.int j)):wpE F (.slice (.lst false [.tup [st a,.lst false []]]) .no (.bin .fdiv (take m) (nm j))) ρ H Q:=q
theorem Bf{x:Nm}{m:List V}(hx:okN x)(h:ρ "right"=some (.lst (.str x::m)))(q:Q (.bool (isT x)) H):wpE F (.cmp .in_ (.sub (vr "right") (nm 0)) (st "xyz")) ρ H Q:=aa h (dW (i:=0) (x:=.str x) rfl rfl (by decide) (lH hx q))
theorem lV{fl:Bool}{t rl:Addr}{n k:Nat}{rs:List av}{w:List Nm}{K:Env→Hp→Prop}{P:PS}(hn:n≤4)(ht:rl≠t)(hk:k≤3+10*n+9)(u1:ρ "tape"=some (.ref t))(u2:ρ "flexible"=some (.bool fl))(u3:ρ "rules"=some (.ref rl))(u4:ρ "right"=some (.lst (w.map .str)))
  (T:dD k H t) (hr:H rl=some (.list (rs.map bu))) (D:Dr rs) (hl:rs.length=1+n) (hw:∀a,a∈N3→fD (a,w)) (hK:∀ρ H,LSt fl t rl (n+1) ρ H→K ρ H) :
  aO (wpF bodies 11) [.expr (b1 (vr "rules") .append (.tup [.sub (st "SAB") (Mine.take 3),vr "right"]))] ρ H (eF K P):=by
 have hk':k≤1000:=Nat.le_trans hk (Nat.le_trans (Nat.add_le_add_right (Nat.add_le_add_left (Nat.mul_le_mul_left 10 hn) 3) 9) (by decide))
 have hz:(rs.map bu).length≤big:=by rw [List.length_map,hl];exact Nat.le_trans (Nat.add_le_add_left hn 1) (by decide)
 refine aa u3 ⟨.append hr,Bk (sS (bS (dh T hk' (by decide) u1 fun i H7 g7 x7 T7=>?_)))⟩
 have hi:i<(cps "SAB").length:=Int.ofNat_lt.mp g7
 have hr7:=x7 _ _ ht hr
 refine uS (List.getElem?_eq_getElem hi) (Nat.le_trans (Nat.le_of_lt hi) (by decide)) (aa u4 (.append hr7 hz (aa rfl (ay (nil_of (cL (hK _ _ (.mk (rs++[([(cps "SAB")[i]],w)]) u1 u2 u3 ((T7.keep (aq ht.symm)).le (Nat.succ_le_succ hk)) ?_ (D.app fun r h=>List.mem_singleton.mp h▸hw _ (ch3 _ (List.getElem_mem hi))) ?_))))))))
 ·rw [aj,List.map_append];rfl
 ·rw [List.length_append,hl];rfl
end
end Mine.L
end
section
namespace Mine.L
open PySem (Addr)
open scoped Classical
theorem pM{sz:Nat}{w:List Nm}(hw:w.length=sz)(h1:1≤sz)(h3:sz≤3)(hk:∀s,s∈w→s∈N3∨s∈TT)(ht:∀a b c,w=[a,b,c]→a∈N3)(a:Nm)(ha:a∈N3):fD (a,w) :=
 ⟨ha,hk,hw.symm▸h3,ht,fun e=>absurd (Nat.le_trans h1 (Nat.le_of_eq (hw.symm.trans (congrArg List.length (show w=[] from e))))) (by decide)⟩
section
variable{H:Hp}{ρ:Env}
theorem FO{K:Prop}{Q:PV}(q:Q (.bool false) H):onS (truth H (.bool false)) (fun b=>cond (b==true) K (Q (.bool false) H)):=q
theorem Ao{fl:Bool}{t rl:Addr}{n kk:Nat}{K:Env→Hp→Prop}{P:PS}(hn:n≤4)(ht:rl≠t)(S:LSt fl t rl n ρ H)(hK:∀ρ H,LSt fl t rl (n+1) ρ H→K ρ H) :
  aO (wpF bodies 11) [
   .asg "size" (.sub (.lst false [nm 1,nm 1,nm 2,nm 2,nm 3]) (Mine.take 5)),
   .asg "right" (.comp false (.sub (st "SABxy") (Mine.take 5)) ["j"] (.bi .range [vr "size"]) .no ["tape"]),
   .ite (.bools true [.cmp .eq (vr "size") (nm 3),.cmp .in_ (.sub (vr "right") (nm 0)) (st "xyz")]) [.asg "right" (.bin .add (.lst false [st "A"]) (.slice (vr "right") (nm 1) .no))] [],
   .expr (b1 (vr "rules") .append (.tup [.sub (st "SAB") (Mine.take 3),vr "right"]))] (put ρ "k" (bU kk)) H (eF K P):=by
 refine S.el fun rs r1 r2 r3 T hr D hl=>?_
 have hk:3+10*n+1+3≤900:=Nat.le_trans (Nat.add_le_add_right (Nat.add_le_add_right (Nat.add_le_add_left (Nat.mul_le_mul_left 10 hn) 3) 1) 3) (by decide)
 refine aN (sS (Cb (dh T (Nat.le_trans (Nat.le_add_right _ 4) (Nat.le_trans hk (by decide))) (by decide) r1 fun i H5 g5 x5 T5=>AL (Int.ofNat_lt.mp g5) fun sz hsz h1 h3=>?_)))
 refine dW rfl hsz (Nat.le_trans (Nat.le_of_lt (Int.ofNat_lt.mp g5)) (by decide)) (aN (And.intro (List.forall_mem_singleton.mpr (Option.isSome_iff_exists.mpr ⟨_,r1⟩)) (aa rfl (.range (n:=(sz:Int)) ⟨Int.natCast_nonneg _,Int.ofNat_le.mpr (Nat.le_trans h3 (by decide))⟩ (vB (P:=fun s=>s∈N3∨s∈TT) (m:=5) T5 (Nat.le_trans (Nat.add_le_add_left h3 _) hk) rfl (by decide) ch5 ((if_pos (by decide)).trans r1) (eq_false (by decide)) (by decide) fun w H6 hw hwk x6 T6=>?_)))))
 have hr6:=x6 _ _ ht (x5 _ _ ht hr)
 have hk6:3+10*n+1+sz≤3+10*n+9:=Nat.add_le_add_left (m:=1+8) (Nat.add_le_add_left (Nat.le_trans h3 (by decide)) 1) _|>fun h=>by rw [←Nat.add_assoc] at h;exact h
 refine jK (pJ (aa rfl (bS (C3 true rfl rfl (fun e=>?_) fun e=>?_))))
 ·cases (Int.ofNat_inj.mp (V.int.inj e):sz=3)
  cases w with
  |nil=>exact absurd hw (by decide)
  |cons x w =>
   have hx:=hwk x (.head _)
   refine aa rfl (Bf (CX hx) rfl ?_)
   cases hT:isT x with
   |true =>
    refine aa rfl (aN (jM (aa rfl (.seq rfl (.lo ?_ (by decide) (.addl rfl rfl ?_ (ay (lV (w:=nA::w) hn ht hk6 r1 r2 r3 rfl T6 hr6 D hl (pM hw h1 h3 (fun s hs=>(List.mem_cons.mp hs).elim (fun e=>e▸.inl (by decide +kernel)) fun h=>hwk s (.tail _ h)) fun a b c e=>(List.cons.inj e).1▸(by decide +kernel)) hK))))))))
    ·exact Nat.le_trans (Nat.le_of_eq (List.length_map ..)) (Nat.le_trans (Nat.le_of_eq hw) (by decide))
    ·exact Nat.le_trans (Nat.add_le_add_left (Nat.le_of_eq (List.length_map ..)) 1) (Nat.le_trans (Nat.le_of_eq ((Nat.add_comm 1 _).trans hw)) (by decide))
   |false=>exact aa rfl (ay (lV (w:=x::w) hn ht hk6 r1 r2 r3 rfl T6 hr6 D hl (pM hw h1 h3 hwk fun a b c e=>(List.cons.inj e).1▸hx.elim id fun h=>absurd ((yW h).symm.trans hT) Bool.noConfusion) hK))
 ·exact FO (aa rfl (ay (lV (w:=w) hn ht hk6 r1 r2 r3 rfl T6 hr6 D hl (pM hw h1 h3 hwk fun a b c e'=>absurd (congrArg (fun k:Nat=>V.int k) (hw.symm.trans (congrArg List.length e'))) e) hK)))
end
theorem Jy{cells:List Int}(hc:cells.length≤63):aO (wpF bodies 11) iC (fun x=>([("script",V.arg (cells.map V.int))]:List (String×V)).lookup x) (fun _=>none) won:=by
 refine aN (aa rfl (E0 (n:=10) hc fun t H1 ht x1 T1=>aa rfl (aN (pJ (dh T1 (by decide) (by decide) rfl fun i H2 g2 x2 T2=>bS (za true rfl rfl ?_))))))
 generalize decide (V.int i=(Lit.int 0).v)=fl
 refine aN (EB fun rl hrl=>gw (C8 (jM (bS ?_))))
 have trl:t≠rl:=fun e=>by cases T2 with | mk cs a h=>rw [e,hrl] at h;exact absurd h.symm (Option.some_ne_none _)
 have T3:=T2.keep (aq (o:=.list [bu (nS,[tx])]) trl)
 refine dh T3 (by decide) (by decide) rfl fun m H4 g4 x4 T4=>?_
 have hm:2+m≤4:=Nat.add_le_add_left (Nat.le_of_lt_succ (Int.ofNat_lt.mp g4)) 2
 refine iP.add (.range (n:=((2+m:Nat):Int)) ⟨Int.natCast_nonneg _,Int.ofNat_le.mpr (Nat.le_trans hm (by decide))⟩ (bD (l:=List.range (2+m)) (g:=bU) (fun a ρ H'=>LSt fl t rl a.length ρ H') i6 (.mk [(nS,[tx])] rfl rfl rfl (T4.le (by decide)) (x4 _ _ trl.symm (aj ..)) ⟨.head _,fun r h=>List.mem_singleton.mp h▸ok1 (by decide +kernel) (.inr (.head _))⟩ rfl) (fun _ _ _ _=>trivial) (fun a kk b ρ H' K Q hab h hK=>aa rfl (Ao (n:=a.length) ?_ trl.symm h fun ρ H S=>hK ρ H ?_)) fun ρ H' h=>?_))
 ·have:=congrArg List.length hab
  rw [List.length_range,List.length_append] at this
  exact Nat.le_trans (Nat.le_add_right _ _) (this▸hm)
 ·show LSt fl t rl (a++[kk]).length ρ H
  rw [List.length_append];exact S
 ·rw [List.length_range] at h
  refine ay (h.el fun rs r1 r2 r3 T hr D hl=>?_)
  have hz:(rs.map bu).length≤5:=by rw [List.length_map,hl];exact Nat.add_le_add_left hm 1
  have hk:3+10*(2+m)+3≤46:=Nat.add_le_add_right (Nat.add_le_add_left (Nat.mul_le_mul_left 10 hm) 3) 3
  have l1:∀(r:V) (k:Nat),([r].take k).length≤1:=fun r k=>BP k
  refine aN (jM (jM (jM (aa r3 (F8 (dh T (Nat.le_trans (Nat.le_add_right _ 3) (Nat.le_trans hk (by decide))) (by decide) r1 fun k1 H5 g5 x5 T5=>?_))))))
  refine .seq rfl (.hi (by decide) (Nat.le_trans (Nat.le_of_lt (Int.ofNat_lt.mp g5)) (by decide)) (.addl (iB (x5 _ _ trl.symm hr)) rfl (Nat.le_trans (Nat.add_le_add hz (l1 _ _)) (by decide)) (F8 (dh T5 (Nat.le_trans (Nat.le_add_right _ 2) (Nat.le_trans hk (by decide))) (by decide) r1 fun k2 H6 g6 x6 T6=>?_))))
  refine .seq rfl (.hi (by decide) (Nat.le_trans (Nat.le_of_lt (Int.ofNat_lt.mp g6)) (by decide)) (.addl rfl rfl ?_ (IY (dh T6 (Nat.le_trans (Nat.le_add_right _ 1) (Nat.le_trans hk (by decide))) (by decide) r1 fun k3 H7 g7 x7 T7=>.fdiv (by decide) (by decide) ?_))))
  ·rw [List.length_append];exact Nat.le_trans (Nat.add_le_add (Nat.add_le_add hz (l1 _ _)) (l1 _ _)) (by decide)
  ·refine .seq rfl (.hi (k:=k3/8) (by decide) (Nat.le_trans (Nat.div_le_self ..) (Nat.le_trans (Nat.le_of_lt (Int.ofNat_lt.mp g7)) (by decide))) (.addl rfl rfl ?_ ?_))
   ·rw [List.length_append,List.length_append];exact Nat.le_trans (Nat.add_le_add (Nat.add_le_add (Nat.add_le_add hz (l1 _ _)) (l1 _ _)) (l1 _ _)) (by decide)
   ·have hrow:rs.map bu++[bu (cps "A",[cps "y"])].take k1++[bu (cps "B",[cps "A"])].take k2++[bu (cps "B",[])].take (k3/8)=(rs++[(nA,[ty])].take k1++[(nB,[nA])].take k2++[(nB,([]:List Nm))].take (k3/8)).map bu:=by
     rw [List.map_append,List.map_append,List.map_append,List.map_take,List.map_take,List.map_take];rfl
    have hL:(rs++[(nA,[ty])].take k1++[(nB,[nA])].take k2++[(nB,([]:List Nm))].take (k3/8)).length≤8:=by
     rw [←List.length_map (f:=bu),←hrow,List.length_append,List.length_append,List.length_append]
     exact Nat.add_le_add (Nat.add_le_add (Nat.add_le_add hz (l1 _ _)) (l1 _ _)) (l1 _ _)
    rw [hrow]
    refine aN (aa rfl (HY (n:=10) (Nat.le_trans hL (by decide)) (aa rfl ?_)))
    exact Ja (fl:=fl) (((D.app (sZ (ok1 (by decide +kernel) (.inr (.tail _ (.head _)))) k1)).app (sZ (ok1 (by decide +kernel) (.inl (by decide +kernel))) k2)).app (sZ IZ _) |>.bs hL) T7 (Nat.le_trans hk (by decide)) rfl r2 r1
end Mine.L
end
theorem PySem.Challenge.cw_je0023_01_holds : PySem.Challenge.rw_je0023_01.Holds :=
  Mine.head (Mine.walk1 fun _ hc => Mine.L.Jy hc)
