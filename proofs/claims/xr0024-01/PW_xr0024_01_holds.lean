import PyProof.Rows.All
import Wide.All
import OpenK.AllK
import Wide.FinOn
import KE.KSortKey
import KE.KSortAsk
import PyProof.Rows.StrFirst
import KE.KDictAny
import KE.KDictAnyGet
import KE.KRevSl
import KE.KListMore
import KE.KItemAt
import KE.KPop
import KE.KMulAny
import PyProof.AutoSeq1
import PyProof.MeetsSeq
import PyProof.ListOps
import KE.KSuper
import PyProof.IsiH_list
import PyProof.WalksPairs
import PyProof.Rows.GenRowsTF
import KE.KNest
import PyProof.SliceList
import KE.KSliceW
import KE.KUnpack
import KE.KStar
import KE.LcTurns
import PyProof.Rows.StrClose
import PyProof.Rows.StrCountLaw
import Lean
import PySem.Challenge.RW_xr0024_01
open PySem PySem.W PyProof.Rows
set_option Elab.async false
set_option maxRecDepth 100000
set_option maxHeartbeats 4000000
set_option linter.unusedVariables false
set_option compiler.extract_closed false
set_option bootstrap.genMatcherCode false
set_option genInjectivity false
set_option genSizeOf false
namespace Mine
open PySem.Calls
open Bool(and_eq_true false_eq_true)
open Int(natCast_nonneg ofNat_le ofNat_lt toNat_natCast)
open List(all_cons all_eq_true append_assoc append_nil drop_eq_getElem_cons ext_getElem? filter_cons flatten_cons getD_eq_getElem?_getD getElem?_append_left getElem?_append_right getElem?_eq_getElem getElem?_eq_none getElem?_map getElem?_of_mem getElem?_range getElem?_take_of_lt getElem_mem getLast?_eq_some_getLast getLastD_eq_getLast? length_append length_cons length_drop length_map length_pos_iff length_range length_singleton length_take lookup_cons map map_append map_congr_left map_cons map_drop map_map map_nil map_take mem_append mem_append_left mem_append_right mem_cons mem_filter mem_flatten mem_iff_getElem? mem_map mem_of_getElem? mem_of_mem_take mem_range mem_singleton nodup_append nodup_cons of_mem_zip pairwise_cons pairwise_map range' range_succ replicate size_toArray sum_cons take_add_one take_append_drop take_length take_take)
open Nat(add_comm add_zero ble blt blt_eq le_of_ble_eq_true le_of_lt le_of_lt_succ le_of_not_lt le_refl le_succ le_succ_of_le le_trans lt_irrefl lt_of_le_of_lt lt_of_lt_of_le lt_of_not_le lt_or_eq_of_le lt_succ_of_lt lt_succ_self lt_trans min_eq_left ne_of_gt ne_of_lt not_lt_zero sub_self zero_add zero_le)
def T0S(k:Lean.Name)(a:Array Lean.Syntax):Lean.Syntax:=.node .none k a
def T0T(k:String)(a:Array Lean.Syntax):Lean.Syntax:=T0S (.str `Lean.Parser.Tactic k) a
def T0Q(a:Array Lean.Syntax):=T0T "tacticSeq" #[T0T "tacticSeq1Indented" #[T0S `null a]]
def T0A(s:String):Lean.Syntax:=.atom .none s
def T0r:=T0T "tacticRfl" #[T0A "rfl"]
def T0R:=T0Q #[T0r]
def T0D:=T0Q #[T0T "decide" #[T0A "decide",T0T "optConfig" #[T0S `null #[]]]]
def T0i(a:Array Lean.Syntax)(b:Lean.Syntax):=T0Q #[T0T "intro" #[T0A "intro",T0S `null a],T0A ";",b]
def T0h:=T0S `Lean.Parser.Term.hole #[T0A "_"]
def T0I:=T0i #[T0h] T0r
def T0w:=T0T "withUnfoldingAll" #[T0A "with_unfolding_all",T0R]
def T0W:=T0Q #[T0w]
def zXz:=T0i #[T0h] T0w
def zKr:=T0i #[T0h,T0h] T0w
noncomputable section
section
variable {cmp:Nat→Nat→(Bool→Shared→Prop)→Shared→Prop}{K:Nat→Nat}{N:Nat}
noncomputable def gd(p:Array Nat)(i:Nat):Nat:=p.getD i 0
theorem zC9(p:Array Nat)(i:Nat):gd p i=(p[i]?).getD 0:=by
 show p.getD i 0=_
 rw [Array.getD_eq_getD_getElem?]
theorem zCm{p:Array Nat}{i j:Nat}(hj:j≤p.size)(k:Nat):gd (kas_rev p i j) k=if i≤k∧k<j then gd p (i+j-1-k) else gd p k:=by
 rw [zC9,kas_rev,getElem?_mirror_all hj]
 split<;>rw [zC9]
theorem zZ5{p:Array Nat}{src d:Nat}(hs:src<p.size)(hd:d≤src)(k:Nat):gd (bubble p src d) k=if k=src-d then gd p src else if src-d<k∧k≤src then gd p (k-1) else gd p k:=by
 rw [zC9,getElem?_bubble hs d hd]
 split
 ·rw [zC9]
 ·split<;>rw [zC9]
def Bef(K:Nat→Nat)(a b:Nat):Prop:=K a<K b∨(K a=K b∧a<b)
theorem Bef.trans{a b c:Nat}(h:Bef K a b)(k:Bef K b c):Bef K a c:=by unfold Bef at *;lia
theorem Bef.le{a b:Nat}(h:Bef K a b):K a≤K b:=by unfold Bef at h;lia
structure Fr1(N:Nat)(p:Array Nat)(m:Nat):Prop where
 size:p.size=N
 le:m≤N
 low:∀i,i<m→gd p i<m
 rest:∀i,m≤i→i<N→gd p i=i
def zCq(K:Nat→Nat)(p:Array Nat)(m:Nat):Prop:=∀i j,i<j→j<m→Bef K (gd p i) (gd p j)
def zIg(K:Nat→Nat)(p:Array Nat)(m:Nat):Prop:=∀i j,i<j→j<m→Bef K (gd p j) (gd p i)
theorem Fr1.lt{p:Array Nat}{m:Nat}(h:Fr1 N p m){i:Nat}(hi:i<N):gd p i<N:=by
 by_cases c:i<m
 ·exact lt_of_lt_of_le (h.low i c) h.le
 ·rw [h.rest i (le_of_not_lt c) hi];exact hi
theorem Fr1.next{p:Array Nat}{m:Nat}(h:Fr1 N p m)(hm:m<N):Fr1 N p (m+1):=⟨h.size,hm,fun i hi=>by
 by_cases c:i<m
 ·exact lt_succ_of_lt (h.low i c)
 ·rw [h.rest i (by (exact le_of_not_lt (by assumption))) (by (exact lt_of_lt_of_le (by assumption) (by assumption)))];exact hi,fun i h1 h2=>h.rest i (by (exact le_of_lt (by assumption))) h2⟩
theorem Fr1.rev{p:Array Nat}{m:Nat}(h:Fr1 N p m)(i:Nat):Fr1 N (kas_rev p i m) m:=⟨(kas_rev_size _ _).trans h.size,h.le,fun k hk=>by
 rw [zCm (by rw [h.size];exact h.le)]
 split
 ·exact h.low _ (by omega)
 ·exact h.low k hk,fun k h1 h2=>by
 rw [zCm (by rw [h.size];exact h.le),if_neg (by lia)]
 exact h.rest k h1 h2⟩
theorem zRv{p:Array Nat}{m:Nat}(h:Fr1 N p m)(ha:zCq K p m)(hm:1≤m)(hN:m<N)(hk:K (gd p (m-1))≤K (gd p m)):zCq K p (m+1):=fun i j hij hj=>by
 by_cases c:j<m
 ·exact ha i j hij c
 ·have hjm:j=m:=by lia
  subst hjm
  have e:=h.rest j (le_refl _) hN
  have l:=h.low (j-1) (by lia)
  have last:Bef K (gd p (j-1)) (gd p j):=by unfold Bef;lia
  by_cases c2:i=j-1
  ·subst c2;exact last
  ·exact (ha i (j-1) (by lia) (by omega)).trans last
variable (hc:∀i j C s,i<N→j<N→C (decide (K i<K j)) s→cmp i j C s)
include hc
theorem zO5{p:Array Nat}{G:Nat→Shared→Prop}:∀(f n:Nat) {s:Shared},n+f=N→1≤n→Fr1 N p n→zCq K p n→(∀m,n≤m→Fr1 N p m→zCq K p m→(m<N→K (gd p m)<K (gd p (m-1)))→G m s)→(kas_asc p f n).kasWp cmp G s
 |0,n,s,hn,h1,hF,hA,h=>h n (le_refl _) hF hA fun c=>by lia
 |f+1,n,s,hn,h1,hF,hA,h=>by
  refine hc _ _ _ _ (hF.lt (by lia)) (hF.lt (by omega)) ?_
  by_cases c:K (gd p n)<K (gd p (n-1))
  ·show KasT.kasWp cmp (if decide (K (gd p n)<K (gd p (n-1)))=true then _ else _) G s
   rw [if_pos (decide_eq_true c)]
   exact h n (le_refl _) hF hA fun _=>c
  ·show KasT.kasWp cmp (if decide (K (gd p n)<K (gd p (n-1)))=true then _ else _) G s
   rw [if_neg (by simpa using c)]
   exact zO5 f (n+1) (by lia) (by (exact le_succ_of_le (by assumption))) (hF.next (by lia)) (zRv hF hA h1 (by omega) (le_of_not_lt c)) fun m hm=>h m (by (exact le_of_lt (by assumption)))
omit hc
structure Fall(K:Nat→Nat)(p:Array Nat)(n q:Nat):Prop where
 pos:q+1≤n
 b:zIg K p (n-(q+1))
 c:∀i j,i<n-(q+1)→n-(q+1)≤j→j<n→K (gd p j)<K (gd p i)
 d:∀i j,n-(q+1)≤i→i<j→j<n→K (gd p i)=K (gd p j)∧gd p i<gd p j
theorem Fall.turn{p:Array Nat}{n q:Nat}(h:Fall K p n q)(hF:Fr1 N p n):zIg K (kas_rev p (n-(q+1)) n) n:=fun i j hij hj=>by
 have hz:n≤p.size:=by rw [hF.size];exact hF.le
 have hq:=h.pos
 rw [zCm hz,zCm hz]
 by_cases ci:n-(q+1)≤i
 ·rw [if_pos (⟨ci,by (exact lt_trans (by assumption) (by assumption))⟩:n-(q+1)≤i∧i<n),if_pos (⟨by lia,hj⟩:n-(q+1)≤j∧j<n)]
  have:=h.d (n-(q+1)+n-1-j) (n-(q+1)+n-1-i) (by omega) (by omega) (by omega)
  unfold Bef
  lia
 ·rw [if_neg (by lia:¬(n-(q+1)≤i∧i<n))]
  by_cases cj:n-(q+1)≤j
  ·rw [if_pos ⟨cj,hj⟩]
   exact .inl (h.c i _ (by (exact lt_of_not_le (by assumption))) (by omega) (by omega))
  ·rw [if_neg (by lia:¬(n-(q+1)≤j∧j<n))]
   exact h.b i j hij (by (exact lt_of_not_le (by assumption)))
theorem Fall.flat{p:Array Nat}{n:Nat}(h:Fall K p n 0):zIg K p n:=fun i j hij hj=>by
 have hq:=h.pos
 by_cases c:j<n-(0+1)
 ·exact h.b i j hij c
 ·exact .inl (h.c i j (by omega) (by (exact le_of_not_lt (by assumption))) hj)
theorem Fall.least{p:Array Nat}{n q:Nat}(h:Fall K p n q){i:Nat}(hi:i<n):K (gd p (n-1))≤K (gd p i):=by
 have hq:=h.pos
 by_cases c:i<n-(q+1)
 ·exact le_of_lt (h.c i (n-1) c (by omega) (by omega))
 ·by_cases e:i=n-1
  ·rw [e];exact le_refl _
  ·exact Nat.le_of_eq (h.d i (n-1) (by (exact le_of_not_lt (by assumption))) (by lia) (by omega)).1.symm
theorem zEz{p:Array Nat}{n:Nat}(h:zIg K p n)(hl:∀i,i<n→K (gd p n)<K (gd p i)):Fall K p (n+1) 0:=⟨by lia,fun i j hij hj=>h i j hij (by assumption),fun i j hi h1 h2=>by
 have:j=n:=by lia
 subst this
 exact hl i (by assumption),fun i j h1 h2 h3=>by lia⟩
theorem Fall.more{p:Array Nat}{n q:Nat}(h:Fall K p n q)(hF:Fr1 N p n)(hN:n<N)(e:K (gd p (n-1))=K (gd p n)):Fall K p (n+1) (q+1):=by
 have hq:=h.pos
 have en:n+1-(q+1+1)=n-(q+1):=by lia
 have er:=hF.rest n (le_refl _) hN
 refine ⟨by (exact Nat.lt_succ_of_le (by assumption)),by rw [en];exact h.b,fun i j hi h1 h2=>?_,fun i j h1 h2 h3=>?_⟩
 ·rw [en] at hi h1
  by_cases c:j<n
  ·exact h.c i j hi h1 c
  ·have:j=n:=by lia
   subst this
   rw [←e]
   exact h.c i (j-1) hi (by lia) (by lia)
 ·rw [en] at h1
  by_cases c:j<n
  ·exact h.d i j h1 h2 c
  ·have:j=n:=by omega
   subst this
   have hl:=hF.low i h2
   by_cases c2:i=j-1
   ·subst c2
    exact ⟨e,by lia⟩
   ·exact ⟨((h.d i (j-1) h1 (by lia) (by lia)).1).trans e,by lia⟩
include hc
theorem zHk{G:Array Nat×Nat×Nat→Shared→Prop}:∀(f:Nat) {p:Array Nat} {n q:Nat} {s:Shared},n+f=N→Fr1 N p n→Fall K p n q→(∀p' n' q',n≤n'→Fr1 N p' n'→Fall K p' n' q'→G (p',n',q') s)→(kas_desc f p n q).kasWp cmp G s
 |0,p,n,q,s,hn,hF,hD,h=>h p n q (le_refl _) hF hD
 |f+1,p,n,q,s,hn,hF,hD,h=>by
  have hq:=hD.pos
  refine hc _ _ _ _ (hF.lt (by lia)) (hF.lt (by lia)) ?_
  by_cases c:K (gd p n)<K (gd p (n-1))
  ·show KasT.kasWp cmp (if decide (K (gd p n)<K (gd p (n-1)))=true then (if q>0 then _ else _) else _) G s
   rw [if_pos (decide_eq_true c)]
   have hl:∀i,i<n→K (gd p n)<K (gd p i):=fun i hi=>lt_of_lt_of_le c (hD.least hi)
   by_cases c2:q>0
   ·rw [if_pos c2]
    refine zHk f (by lia) ((hF.rev _).next (by lia)) (zEz (hD.turn hF) fun i hi=>?_) fun p' n' q' hn'=>h p' n' q' (by (exact le_of_lt (by assumption)))
    have hz:n≤p.size:=by rw [hF.size];exact hF.le
    rw [zCm hz,zCm hz,if_neg (by lia:¬(n-(q+1)≤n∧n<n))]
    split
    ·exact hl _ (by omega)
    ·exact hl i hi
   ·rw [if_neg c2]
    have e:q=0:=by lia
    subst e
    exact zHk f (by lia) (hF.next (by lia)) (zEz hD.flat hl) fun p' n' q' hn'=>h p' n' q' (by (exact le_of_lt (by assumption)))
  ·show KasT.kasWp cmp (if decide (K (gd p n)<K (gd p (n-1)))=true then (if q>0 then _ else _) else _) G s
   rw [if_neg (by simpa using c)]
   refine hc _ _ _ _ (hF.lt (by lia)) (hF.lt (by omega)) ?_
   by_cases d:K (gd p (n-1))<K (gd p n)
   ·show KasT.kasWp cmp (if decide (K (gd p (n-1))<K (gd p n))=true then _ else _) G s
    rw [if_pos (decide_eq_true d)]
    exact h p n q (le_refl _) hF hD
   ·show KasT.kasWp cmp (if decide (K (gd p (n-1))<K (gd p n))=true then _ else _) G s
    rw [if_neg (by simpa using d)]
    exact zHk f (by omega) (hF.next (by omega)) (hD.more hF (by omega) (by lia)) fun p' n' q' hn'=>h p' n' q' (by (exact le_of_lt (by assumption)))
theorem zM0{G:Nat×Array Nat→Shared→Prop}{p:Array Nat}{n:Nat}{s:Shared}(h1:1≤n)(hF:Fr1 N p n)(hD:zIg K p n)(h:∀m p',1≤m→Fr1 N p' m→zCq K p' m→G (m,p') s):(kas_tail3 n N p).kasWp cmp G s:=by
 unfold kas_tail3
 rw [KasT.kasWp_bind]
 have hz:n≤p.size:=by rw [hF.size];exact hF.le
 have hA:zCq K (kas_rev p 0 n) n:=fun i j hij hj=>by
  rw [zCm hz,zCm hz,if_pos (⟨zero_le _,by (exact lt_trans (by assumption) (by assumption))⟩:0≤i∧i<n),if_pos (⟨zero_le _,hj⟩:0≤j∧j<n)]
  exact hD _ _ (by omega) (by omega)
 have:=hF.le
 exact zO5 hc (N-n) n (by lia) h1 (hF.rev 0) hA fun m hm hF' hA' _=>h m _ (by (exact le_trans (by assumption) (by assumption))) hF' hA'
theorem zFg{G:Nat×Array Nat→Shared→Prop}{p:Array Nat}{n:Nat}{s:Shared}(hn:n+1≤N)(hF:Fr1 N p (n+1))(hD:Fall K p (n+1) 0)(h:∀m p',1≤m→Fr1 N p' m→zCq K p' m→G (m,p') s):(kas_descPart n N p).kasWp cmp G s:=by
 unfold kas_descPart
 rw [KasT.kasWp_bind]
 refine zHk hc (N-(n+1)) (by omega) hF hD fun p' n' q' hn' hF' hD'=>?_
 show KasT.kasWp cmp (if q'>0 then kas_tail3 n' N (kas_rev p' (n'-(q'+1)) n') else kas_tail3 n' N p') G s
 by_cases c:q'>0
 ·rw [if_pos c]
  exact zM0 hc (by lia) (hF'.rev _) (hD'.turn hF') h
 ·rw [if_neg c]
  have e:q'=0:=by lia
  subst e
  exact zM0 hc (by lia) hF' hD'.flat h
theorem zSa{G:Nat×Array Nat→Shared→Prop}{p:Array Nat}{s:Shared}(hN:1≤N)(hF:Fr1 N p 1)(h:∀m p',1≤m→Fr1 N p' m→zCq K p' m→G (m,p') s):(kas_count N p).kasWp cmp G s:=by
 unfold kas_count
 rw [KasT.kasWp_bind]
 refine zO5 hc (N-1) 1 (by lia) (le_refl _) hF (fun i j hij hj=>by lia) fun n hn hF' hA hlast=>?_
 have hle:=hF'.le
 by_cases c:n=N
 ·subst c
  rw [if_pos (by simp)]
  exact h _ _ hn hF' hA
 ·rw [if_neg (by simpa using c)]
  have hl:=hlast (by lia)
  by_cases c2:n>1
  ·rw [if_pos c2]
   refine hc _ _ _ _ (hF'.lt (by assumption)) (hF'.lt (by omega)) ?_
   by_cases d:K (gd p 0)<K (gd p (n-1))
   ·show KasT.kasWp cmp (if decide (K (gd p 0)<K (gd p (n-1)))=true then _ else _) G s
    rw [if_pos (decide_eq_true d)]
    exact h _ _ hn hF' hA
   ·show KasT.kasWp cmp (if decide (K (gd p 0)<K (gd p (n-1)))=true then _ else _) G s
    rw [if_neg (by simpa using d)]
    have hz:n≤p.size:=by rw [hF'.size];exact hle
    have eq:∀i,i<n→K (gd p i)=K (gd p (n-1)):=fun i hi=>by
     have a1:K (gd p 0)≤K (gd p i):=by
      by_cases e:i=0
      ·rw [e];exact le_refl _
      ·exact (hA 0 i (by lia) hi).le
     have a2:K (gd p i)≤K (gd p (n-1)):=by
      by_cases e:i=n-1
      ·rw [e];exact le_refl _
      ·exact (hA i (n-1) (by lia) (by lia)).le
     lia
    refine zFg hc (by lia) ((hF'.rev 0).next (by lia)) (zEz (fun i j hij hj=>?_) fun i hi=>?_) h
    ·rw [zCm hz,zCm hz,if_pos (⟨zero_le _,by (exact lt_trans (by assumption) (by assumption))⟩:0≤i∧i<n),if_pos (⟨zero_le _,hj⟩:0≤j∧j<n)]
     have b1:=hA (0+n-1-j) (0+n-1-i) (by lia) (by omega)
     have b2:=eq (0+n-1-j) (by omega)
     have b3:=eq (0+n-1-i) (by omega)
     unfold Bef at b1 ⊢
     omega
    ·rw [zCm hz,zCm hz,if_neg (by lia:¬(0≤n∧n<n)),if_pos (⟨zero_le _,hi⟩:0≤i∧i<n),eq (0+n-1-i) (by omega)]
     exact hl
  ·rw [if_neg c2]
   have e:n=1:=by lia
   subst e
   refine zFg hc (by lia) (hF'.next (by lia)) (zEz (fun i j hij hj=>by lia) fun i hi=>?_) h
   have:i=0:=by lia
   subst this
   exact hl
theorem zI6{G:Nat→Shared→Prop}{p:Array Nat}{k:Nat}{s:Shared}(hk:k<N)(hF:Fr1 N p k)(hA:zCq K p k)(h:∀l,l≤k→(∀i,i<l→K (gd p i)≤K (gd p k))→(∀i,l≤i→i<k→K (gd p k)<K (gd p i))→G l s):
  ∀(f l r:Nat),r-l≤f→l≤r→r≤k→(∀i,i<l→K (gd p i)≤K (gd p k))→(∀i,r≤i→i<k→K (gd p k)<K (gd p i))→(kas_place p k f l r).kasWp cmp G s
 |0,l,r,hf,hl,hr,h1,h2=>h l (by (exact le_trans (by assumption) (by assumption))) h1 fun i hi=>h2 i (by lia)
 |f+1,l,r,hf,hl,hr,h1,h2=>by
  unfold kas_place
  by_cases c:l≥r
  ·rw [if_pos c]
   exact h l (by (exact le_trans (by assumption) (by assumption))) h1 fun i hi=>h2 i (by (exact le_trans (by assumption) (by assumption)))
  ·rw [if_neg c]
   refine hc _ _ _ _ (hF.lt hk) (hF.lt (by lia)) ?_
   by_cases d:K (gd p k)<K (gd p ((l+r)/2))
   ·show KasT.kasWp cmp (if decide (K (gd p k)<K (gd p ((l+r)/2)))=true then _ else _) G s
    rw [if_pos (decide_eq_true d)]
    refine zI6 hk hF hA h f l ((l+r)/2) (by omega) (by lia) (by lia) h1 fun i hi hik=>?_
    by_cases e:i=(l+r)/2
    ·rw [e];exact d
    ·exact lt_of_lt_of_le d (hA _ i (by lia) hik).le
   ·show KasT.kasWp cmp (if decide (K (gd p k)<K (gd p ((l+r)/2)))=true then _ else _) G s
    rw [if_neg (by simpa using d)]
    refine zI6 hk hF hA h f ((l+r)/2+1) r (by omega) (by lia) hr (fun i hi=>?_) h2
    by_cases e:i=(l+r)/2
    ·rw [e];exact le_of_not_lt d
    ·exact le_trans (hA i ((l+r)/2) (by lia) (by lia)).le (le_of_not_lt d)
theorem zU1{G:Array Nat→Shared→Prop}{s:Shared}(h:∀p',Fr1 N p' N→zCq K p' N→G p' s):∀(f:Nat) {p:Array Nat} {k:Nat},k+f=N→Fr1 N p k→zCq K p k→(kas_bin f p k).kasWp cmp G s
 |0,p,k,hk,hF,hA=>by
  have:k=N:=by omega
  subst this
  exact h p hF hA
 |f+1,p,k,hk,hF,hA=>by
  have hkN:k<N:=by omega
  unfold kas_bin
  rw [KasT.kasWp_bind]
  refine zI6 hc hkN hF hA (fun l hl h1 h2=>?_) k 0 k (by lia) (zero_le _) (le_refl _) (fun i hi=>by contradiction) fun i hi hik=>by (exact absurd (by assumption) (Nat.not_lt.mpr (by assumption)))
  have hs:k<p.size:=by rw [hF.size];exact hkN
  have gb:=zZ5 (p:=p) hs (d:=k-l) (by lia)
  have ek:k-(k-l)=l:=by lia
  rw [ek] at gb
  have er:=hF.rest k (le_refl _) hkN
  refine zU1 h f (by lia) ⟨(bubble_size _ _ _).trans hF.size,hkN,fun i hi=>?_,fun i h3 h4=>?_⟩ fun i j hij hj=>?_
  ·rw [gb]
   split
   ·lia
   ·split
    ·exact lt_succ_of_lt (hF.low _ (by lia))
    ·by_cases e:i=k
     ·lia
     ·exact lt_succ_of_lt (hF.low i (by lia))
  ·rw [gb,if_neg (by lia),if_neg (by lia)]
   exact hF.rest i (by (exact le_of_lt (by assumption))) h4
  ·rw [gb i,gb j]
   have low:=fun i (hi:i<k)=>hF.low i hi
   by_cases ci:i=l
   ·rw [if_pos ci,if_neg (by lia),if_pos (by lia)]
    exact .inl (h2 _ (by lia) (by lia))
   ·rw [if_neg ci]
    by_cases ci2:l<i∧i≤k
    ·rw [if_pos ci2,if_neg (by lia),if_pos (by lia)]
     exact hA _ _ (by lia) (by lia)
    ·rw [if_neg ci2]
     by_cases cj:j=l
     ·rw [if_pos cj]
      have a1:=h1 i (by lia)
      have a2:=low i (by lia)
      unfold Bef
      lia
     ·rw [if_neg cj]
      by_cases cj2:l<j∧j≤k
      ·rw [if_pos cj2]
       by_cases e:j-1=i
       ·lia
       ·exact hA _ _ (by lia) (by omega)
      ·rw [if_neg cj2]
       exact hA _ _ hij (by lia)
theorem zX4{G:Array Nat→Shared→Prop}{s:Shared}(hN:1≤N)(h:∀p',Fr1 N p' N→zCq K p' N→G p' s):(kas_sort N).kasWp cmp G s:=by
 unfold kas_sort
 rw [KasT.kasWp_bind]
 have hr:∀i,i<N→gd (List.toArray (List.range N)) i=i:=fun i hi=>by
  rw [zC9,List.getElem?_toArray,getElem?_range hi]
  rfl
 refine zSa hc hN ⟨by simp,hN,fun i hi=>by rw [hr i (by (exact lt_of_lt_of_le (by assumption) (by assumption)))];exact hi,fun i _ h2=>hr i h2⟩ fun m p' hm hF hA=>?_
 have hle:=hF.le
 show KasT.kasWp cmp (if m<N then kas_bin (N-max m 1) p' (max m 1) else .ret p') G s
 rw [show max m 1=m by lia]
 by_cases c:m<N
 ·rw [if_pos c]
  exact zU1 hc h (N-m) (by lia) hF hA
 ·rw [if_neg c]
  have:m=N:=by lia
  subst this
  exact h p' hF hA
end
theorem ex1{α0:Sort _}{P:α0→Prop}{G:Prop}(h:∃x0,P x0)(k:∀x0,P x0→G):G:=h.elim k
theorem an2{p0 p1 G:Prop}(h:p0∧p1)(k:p0→p1→G):G:=k h.1 h.2
theorem an3{p0 p1 p2 G:Prop}(h:p0∧p1∧p2)(k:p0→p1→p2→G):G:=an2 h.2 (k h.1)
section
set_option maxHeartbeats 0
noncomputable abbrev pw:Program:=PySem.Challenge.pw_xr0024_01
noncomputable def stAt(i:Nat):Stmt:=(pw.main.body[i]?).getD default
noncomputable def zBw(i j:Nat):Stmt:=match stAt i with
 |.ClassDef _ _ _ body _ _ _ _ _ _ _=>(body[j]?).getD default
 |s=>s
noncomputable def zGe:Stmt→Arguments
 |.FunctionDef _ a _ _ _ _ _ _ _ _=>a
 |_=>default
noncomputable def zAf:Stmt→List Stmt
 |.FunctionDef _ _ b _ _ _ _ _ _ _=>b
 |_=>[]
noncomputable def zAl:Stmt→Scope
 |.FunctionDef _ _ _ _ _ _ s _ _ _=>s
 |_=>default
noncomputable abbrev fnD(st:Stmt)(name qual:Str)(cl:List (Str×Addr))(dV kV pm cdv ct:Value):FuncData:=
 {name,qualname:=qual,params:=zGe st,body:=.stmts (zAf st),scope:=zAl st,globals:=mainGlobals,closure:=cl,defaults:=dV,kwdefaults:=kV,doc:=.none,pyModule:=pm,annotations:=none,code:=cdv,closureTuple:=ct,builtins:=builtinsNs}
noncomputable def kW(P:Params):Frag:=
 (nat_lit 2,⟨.none,none,(.dict [⟨PyData.keyHash P (.ofString "\x69mport.loaded._sre"),.str (.ofString "\x69mport.loaded._sre") 183,.bool true⟩,⟨PyData.keyHash P (.ofString "class._frozen_importlib.BuiltinImporter"),.str (.ofString "class._frozen_importlib.BuiltinImporter") 185,.ref (nat_lit 14)⟩,⟨PyData.keyHash P (.ofString "watched.\x69mport"),.str (.ofString "watched.\x69mport") 206,.ref (nat_lit 18)⟩,⟨PyData.keyHash P (.ofString "class._frozen_importlib.ModuleSpec"),.str (.ofString "class._frozen_importlib.ModuleSpec") 216,.ref (nat_lit 22)⟩,⟨PyData.keyHash P (.ofString "sys.modules.booked-epoch"),.str (.ofString "sys.modules.booked-epoch") 245,.int 3 0⟩,⟨PyData.keyHash P (.ofString "\x69mport.later-laid._sre"),.str (.ofString "\x69mport.later-laid._sre") 270,.bool true⟩,⟨PyData.keyHash P (.ofString "watched.library"),.str (.ofString "watched.library") 272,.ref (nat_lit 27)⟩,⟨PyData.keyHash P (.ofString "watched.library-objects"),.str (.ofString "watched.library-objects") 0,.str (.ofString "\x0c") 0⟩,⟨PyData.keyHash P (.ofString "watched.library-deep._sre"),.str (.ofString "watched.library-deep._sre") 273,.str (.ofString "\x04\x00\x00\x0b\x04\x00\x00\x0b\x04\x00\x00\x03\x04\x00\x00\x0b\x08\x04dict\x02") 0⟩].toArray 9),#[]⟩) ::
 (nat_lit 3,⟨.type "dict",none,(.dict [⟨PyData.keyHash P (.ofString "__name__"),.str (.ofString "__name__") 165,.str (.ofString "law_xr0024_01") 660⟩,⟨PyData.keyHash P (.ofString "__doc__"),.str (.ofString "__doc__") 166,.none⟩,⟨PyData.keyHash P (.ofString "__package__"),.str (.ofString "__package__") 167,.none⟩,⟨PyData.keyHash P (.ofString "__loader__"),.str (.ofString "__loader__") 168,.builtin "__main__.__loader__#opaque"⟩,⟨PyData.keyHash P (.ofString "__spec__"),.str (.ofString "__spec__") 169,.none⟩,⟨PyData.keyHash P (.ofString "__annotations__"),.str (.ofString "__annotations__") 170,.ref (nat_lit 6)⟩,⟨PyData.keyHash P (.ofString "__builtins__"),.str (.ofString "__builtins__") 171,.ref (nat_lit 4)⟩,⟨PyData.keyHash P (.ofString "__file__"),.str (.ofString "__file__") 173,.str (.ofString "/claim/cut.py") 172⟩,⟨PyData.keyHash P (.ofString "__cached__"),.str (.ofString "__cached__") 174,.none⟩,⟨PyData.keyHash P (.ofString "_sre"),.str (.ofString "_sre") 275,.ref (nat_lit 12)⟩,⟨PyData.keyHash P (.ofString "_wall"),.str (.ofString "_wall") 288,.ref (nat_lit 38)⟩,⟨PyData.keyHash P (.ofString "unmatched"),.str (.ofString "unmatched") 299,.ref (nat_lit 45)⟩,⟨PyData.keyHash P (.ofString "HEADER_JOIN_TOKEN_RE"),.str (.ofString "HEADER_JOIN_TOKEN_RE") 328,.ref (nat_lit 50)⟩,⟨PyData.keyHash P (.ofString "IPV4_RE"),.str (.ofString "IPV4_RE") 358,.ref (nat_lit 55)⟩,⟨PyData.keyHash P (.ofString "is_HDN"),.str (.ofString "is_HDN") 365,.ref (nat_lit 62)⟩,⟨PyData.keyHash P (.ofString "reach"),.str (.ofString "reach") 374,.ref (nat_lit 69)⟩,⟨PyData.keyHash P (.ofString "insort_right"),.str (.ofString "insort_right") 389,.ref (nat_lit 78)⟩,⟨PyData.keyHash P (.ofString "bisect_right"),.str (.ofString "bisect_right") 403,.ref (nat_lit 87)⟩,⟨PyData.keyHash P (.ofString "insort_left"),.str (.ofString "insort_left") 416,.ref (nat_lit 96)⟩,⟨PyData.keyHash P (.ofString "bisect_left"),.str (.ofString "bisect_left") 430,.ref (nat_lit 105)⟩,⟨PyData.keyHash P (.ofString "NL"),.str (.ofString "NL") 434,.str (.ofString "\n") 433⟩,⟨PyData.keyHash P (.ofString "EMPTYSTRING"),.str (.ofString "EMPTYSTRING") 436,.str (.ofString "") 435⟩,⟨PyData.keyHash P (.ofString "_ValueFormatter"),.str (.ofString "_ValueFormatter") 544,.ref (nat_lit 178)⟩,⟨PyData.keyHash P (.ofString "_Accumulator"),.str (.ofString "_Accumulator") 640,.ref (nat_lit 262)⟩,⟨PyData.keyHash P (.ofString "_strcoll"),.str (.ofString "_strcoll") 650,.ref (nat_lit 273)⟩,⟨PyData.keyHash P (.ofString "_build_localename"),.str (.ofString "_build_localename") 659,.ref (nat_lit 280)⟩,⟨PyData.keyHash P (.ofString "_law_leader"),.str (.ofString "_law_leader") 668,.ref (nat_lit 287)⟩,⟨PyData.keyHash P (.ofString "_law_turned"),.str (.ofString "_law_turned") 674,.ref (nat_lit 292)⟩,⟨PyData.keyHash P (.ofString "_law_page"),.str (.ofString "_law_page") 690,.ref (nat_lit 299)⟩,⟨PyData.keyHash P (.ofString "_law_read"),.str (.ofString "_law_read") 701,.ref (nat_lit 306)⟩,⟨PyData.keyHash P (.ofString "_law_named"),.str (.ofString "_law_named") 716,.ref (nat_lit 313)⟩,⟨PyData.keyHash P (.ofString "_law_book"),.str (.ofString "_law_book") 726,.ref (nat_lit 320)⟩,⟨PyData.keyHash P (.ofString "_law_tail"),.str (.ofString "_law_tail") 733,.ref (nat_lit 327)⟩,⟨PyData.keyHash P (.ofString "_law_label"),.str (.ofString "_law_label") 740,.ref (nat_lit 334)⟩,⟨PyData.keyHash P (.ofString "_law_back"),.str (.ofString "_law_back") 746,.ref (nat_lit 339)⟩,⟨PyData.keyHash P (.ofString "law"),.str (.ofString "law") 752,.ref (nat_lit 344)⟩].toArray 36),#[]⟩) ::
 (nat_lit 44,⟨.type "code",none,(.fields [.str (.ofString "unmatched") 291,.str (.ofString "unmatched") 292,.str (.ofString "/claim/cut.py") 293,.int 6 0,.int 1 0,.int 0 0,.int 0 0,.int 3 0,.ref (nat_lit 39),.bool true,.int 276 0,.ref (nat_lit 40),.none,.ref (nat_lit 41),.ref (nat_lit 42),.ref (nat_lit 43),.int 297 0,.int 6 0,.str (.ofString "/claim/cut.py") 298].toArray),#[]⟩) ::
 (nat_lit 45,⟨.type "function",none,(.func (fnD (stAt 3) (.ofString "unmatched") (.ofString "unmatched") [] (.none) (.none) (.str (.ofString "cpy313.http.cookiejar") 289) (.ref (nat_lit 44)) (.none))),#[]⟩) ::
 (nat_lit 49,⟨.type "tuple",none,(.seq [.int 14 0,.int 4 0,.int 0 0,.int 1 0,.int 4294967295 0,.int 24 0,.int 16 0,.int 1 0,.int 4294967295 0,.int 13 0,.int 11 0,.int 9 0,.int 0 0,.int 67071226 0,.int 3355443198 0,.int 1476395007 0,.int 0 0,.int 0 0,.int 0 0,.int 0 0,.int 0 0,.int 1 0,.int 1 0].toArray 0),#[]⟩) ::
 (nat_lit 50,⟨.type "re.Pattern",none,(.fields [.str (.ofString "[!#$%&'*+\\-.^_`|~0-9A-Za-z]+") 301,.int 32 327,.int 0 0,.none,.none,.ref (nat_lit 49),.int 0 0].toArray),#[]⟩) ::
 (nat_lit 54,⟨.type "tuple",none,(.seq [.int 14 0,.int 8 0,.int 1 0,.int 2 0,.int 4294967295 0,.int 1 0,.int 1 0,.int 46 0,.int 0 0,.int 16 0,.int 46 0,.int 24 0,.int 9 0,.int 1 0,.int 4294967295 0,.int 13 0,.int 4 0,.int 8 0,.int 0 0,.int 0 0,.int 1 0,.int 6 0,.int 5 0,.int 1 0].toArray 0),#[]⟩) ::
 (nat_lit 55,⟨.type "re.Pattern",none,(.fields [.str (.ofString "\\.\\d+$") 330,.int 256 357,.int 0 0,.none,.none,.ref (nat_lit 54),.int 0 0].toArray),#[]⟩) ::
 (nat_lit 61,⟨.type "code",none,(.fields [.str (.ofString "is_HDN") 359,.str (.ofString "is_HDN") 360,.str (.ofString "/claim/cut.py") 361,.int 11 0,.int 1 0,.int 0 0,.int 0 0,.int 3 0,.ref (nat_lit 56),.bool true,.int 276 0,.ref (nat_lit 57),.none,.ref (nat_lit 58),.ref (nat_lit 59),.ref (nat_lit 60),.int 363 0,.int 11 0,.str (.ofString "/claim/cut.py") 364].toArray),#[]⟩) ::
 (nat_lit 62,⟨.type "function",none,(.func (fnD (stAt 6) (.ofString "is_HDN") (.ofString "is_HDN") [] (.none) (.none) (.str (.ofString "cpy313.http.cookiejar") 289) (.ref (nat_lit 61)) (.none))),#[]⟩) ::
 (nat_lit 68,⟨.type "code",none,(.fields [.str (.ofString "reach") 366,.str (.ofString "reach") 367,.str (.ofString "/claim/cut.py") 368,.int 19 0,.int 1 0,.int 0 0,.int 0 0,.int 3 0,.ref (nat_lit 63),.bool true,.int 276 0,.ref (nat_lit 64),.none,.ref (nat_lit 65),.ref (nat_lit 66),.ref (nat_lit 67),.int 372 0,.int 19 0,.str (.ofString "/claim/cut.py") 373].toArray),#[]⟩) ::
 (nat_lit 69,⟨.type "function",none,(.func (fnD (stAt 7) (.ofString "reach") (.ofString "reach") [] (.none) (.none) (.str (.ofString "cpy313.http.cookiejar") 289) (.ref (nat_lit 68)) (.none))),#[]⟩) ::
 (nat_lit 70,⟨.type "tuple",none,(.seq [.int 0 377,.none].toArray 0),#[]⟩) ::
 (nat_lit 71,⟨.type "dict",none,(.dict [⟨PyData.keyHash P (.ofString "key"),.str (.ofString "key") 378,.none⟩].toArray 1),#[]⟩) ::
 (nat_lit 77,⟨.type "code",none,(.fields [.str (.ofString "insort_right") 379,.str (.ofString "insort_right") 380,.str (.ofString "/claim/cut.py") 381,.int 28 0,.int 4 0,.int 0 0,.int 1 0,.int 3 0,.ref (nat_lit 72),.bool true,.int 276 0,.ref (nat_lit 73),.none,.ref (nat_lit 74),.ref (nat_lit 75),.ref (nat_lit 76),.int 387 0,.int 28 0,.str (.ofString "/claim/cut.py") 388].toArray),#[]⟩) ::
 (nat_lit 78,⟨.type "function",none,(.func (fnD (stAt 9) (.ofString "insort_right") (.ofString "insort_right") [] (.ref (nat_lit 70)) (.ref (nat_lit 71)) (.str (.ofString "cpy313.bisect") 375) (.ref (nat_lit 77)) (.none))),#[]⟩) ::
 (nat_lit 79,⟨.type "tuple",none,(.seq [.int 0 390,.none].toArray 0),#[]⟩) ::
 (nat_lit 80,⟨.type "dict",none,(.dict [⟨PyData.keyHash P (.ofString "key"),.str (.ofString "key") 391,.none⟩].toArray 1),#[]⟩) ::
 (nat_lit 86,⟨.type "code",none,(.fields [.str (.ofString "bisect_right") 392,.str (.ofString "bisect_right") 393,.str (.ofString "/claim/cut.py") 394,.int 34 0,.int 4 0,.int 0 0,.int 1 0,.int 3 0,.ref (nat_lit 81),.bool true,.int 276 0,.ref (nat_lit 82),.none,.ref (nat_lit 83),.ref (nat_lit 84),.ref (nat_lit 85),.int 401 0,.int 34 0,.str (.ofString "/claim/cut.py") 402].toArray),#[]⟩) ::
 (nat_lit 87,⟨.type "function",none,(.func (fnD (stAt 10) (.ofString "bisect_right") (.ofString "bisect_right") [] (.ref (nat_lit 79)) (.ref (nat_lit 80)) (.str (.ofString "cpy313.bisect") 375) (.ref (nat_lit 86)) (.none))),#[]⟩) ::
 (nat_lit 88,⟨.type "tuple",none,(.seq [.int 0 404,.none].toArray 0),#[]⟩) ::
 (nat_lit 89,⟨.type "dict",none,(.dict [⟨PyData.keyHash P (.ofString "key"),.str (.ofString "key") 405,.none⟩].toArray 1),#[]⟩) ::
 (nat_lit 95,⟨.type "code",none,(.fields [.str (.ofString "insort_left") 406,.str (.ofString "insort_left") 407,.str (.ofString "/claim/cut.py") 408,.int 54 0,.int 4 0,.int 0 0,.int 1 0,.int 3 0,.ref (nat_lit 90),.bool true,.int 276 0,.ref (nat_lit 91),.none,.ref (nat_lit 92),.ref (nat_lit 93),.ref (nat_lit 94),.int 414 0,.int 54 0,.str (.ofString "/claim/cut.py") 415].toArray),#[]⟩) ::
 (nat_lit 96,⟨.type "function",none,(.func (fnD (stAt 11) (.ofString "insort_left") (.ofString "insort_left") [] (.ref (nat_lit 88)) (.ref (nat_lit 89)) (.str (.ofString "cpy313.bisect") 375) (.ref (nat_lit 95)) (.none))),#[]⟩) ::
 (nat_lit 97,⟨.type "tuple",none,(.seq [.int 0 417,.none].toArray 0),#[]⟩) ::
 (nat_lit 98,⟨.type "dict",none,(.dict [⟨PyData.keyHash P (.ofString "key"),.str (.ofString "key") 418,.none⟩].toArray 1),#[]⟩) ::
 (nat_lit 104,⟨.type "code",none,(.fields [.str (.ofString "bisect_left") 419,.str (.ofString "bisect_left") 420,.str (.ofString "/claim/cut.py") 421,.int 60 0,.int 4 0,.int 0 0,.int 1 0,.int 3 0,.ref (nat_lit 99),.bool true,.int 276 0,.ref (nat_lit 100),.none,.ref (nat_lit 101),.ref (nat_lit 102),.ref (nat_lit 103),.int 428 0,.int 60 0,.str (.ofString "/claim/cut.py") 429].toArray),#[]⟩) ::
 (nat_lit 105,⟨.type "function",none,(.func (fnD (stAt 12) (.ofString "bisect_left") (.ofString "bisect_left") [] (.ref (nat_lit 97)) (.ref (nat_lit 98)) (.str (.ofString "cpy313.bisect") 375) (.ref (nat_lit 104)) (.none))),#[]⟩) ::
 (nat_lit 118,⟨.type "code",none,(.fields [.str (.ofString "__init__") 449,.str (.ofString "_ValueFormatter.__init__") 450,.str (.ofString "/claim/cut.py") 451,.int 85 0,.int 5 0,.int 0 0,.int 0 0,.int 3 0,.ref (nat_lit 113),.bool true,.int 276 0,.ref (nat_lit 114),.none,.ref (nat_lit 115),.ref (nat_lit 116),.ref (nat_lit 117),.int 457 0,.int 85 0,.str (.ofString "/claim/cut.py") 458].toArray),#[]⟩) ::
 (nat_lit 119,⟨.type "function",none,(.func (fnD (zBw 16 0) (.ofString "__init__") (.ofString "_ValueFormatter.__init__") [] (.none) (.none) (.str (.ofString "cpy313.email.header") 431) (.ref (nat_lit 118)) (.none))),#[]⟩) ::
 (nat_lit 125,⟨.type "code",none,(.fields [.str (.ofString "_str") 460,.str (.ofString "_ValueFormatter._str") 461,.str (.ofString "/claim/cut.py") 462,.int 93 0,.int 2 0,.int 0 0,.int 0 0,.int 3 0,.ref (nat_lit 120),.bool true,.int 276 0,.ref (nat_lit 121),.none,.ref (nat_lit 122),.ref (nat_lit 123),.ref (nat_lit 124),.int 465 0,.int 93 0,.str (.ofString "/claim/cut.py") 466].toArray),#[]⟩) ::
 (nat_lit 126,⟨.type "function",none,(.func (fnD (zBw 16 1) (.ofString "_str") (.ofString "_ValueFormatter._str") [] (.none) (.none) (.str (.ofString "cpy313.email.header") 431) (.ref (nat_lit 125)) (.none))),#[]⟩) ::
 (nat_lit 139,⟨.type "code",none,(.fields [.str (.ofString "newline") 475,.str (.ofString "_ValueFormatter.newline") 476,.str (.ofString "/claim/cut.py") 477,.int 100 0,.int 1 0,.int 0 0,.int 0 0,.int 3 0,.ref (nat_lit 134),.bool true,.int 276 0,.ref (nat_lit 135),.none,.ref (nat_lit 136),.ref (nat_lit 137),.ref (nat_lit 138),.int 480 0,.int 100 0,.str (.ofString "/claim/cut.py") 481].toArray),#[]⟩) ::
 (nat_lit 140,⟨.type "function",none,(.func (fnD (zBw 16 3) (.ofString "newline") (.ofString "_ValueFormatter.newline") [] (.none) (.none) (.str (.ofString "cpy313.email.header") 431) (.ref (nat_lit 139)) (.none))),#[]⟩) ::
 (nat_lit 146,⟨.type "code",none,(.fields [.str (.ofString "add_transition") 483,.str (.ofString "_ValueFormatter.add_transition") 484,.str (.ofString "/claim/cut.py") 485,.int 111 0,.int 1 0,.int 0 0,.int 0 0,.int 3 0,.ref (nat_lit 141),.bool true,.int 276 0,.ref (nat_lit 142),.none,.ref (nat_lit 143),.ref (nat_lit 144),.ref (nat_lit 145),.int 487 0,.int 111 0,.str (.ofString "/claim/cut.py") 488].toArray),#[]⟩) ::
 (nat_lit 147,⟨.type "function",none,(.func (fnD (zBw 16 4) (.ofString "add_transition") (.ofString "_ValueFormatter.add_transition") [] (.none) (.none) (.str (.ofString "cpy313.email.header") 431) (.ref (nat_lit 146)) (.none))),#[]⟩) ::
 (nat_lit 174,⟨.type "code",none,(.fields [.str (.ofString "_append_chunk") 517,.str (.ofString "_ValueFormatter._append_chunk") 518,.str (.ofString "/claim/cut.py") 519,.int 123 0,.int 3 0,.int 0 0,.int 0 0,.int 3 0,.ref (nat_lit 169),.bool true,.int 276 0,.ref (nat_lit 170),.none,.ref (nat_lit 171),.ref (nat_lit 172),.ref (nat_lit 173),.int 528 0,.int 123 0,.str (.ofString "/claim/cut.py") 529].toArray),#[]⟩) ::
 (nat_lit 175,⟨.type "function",none,(.func (fnD (zBw 16 8) (.ofString "_append_chunk") (.ofString "_ValueFormatter._append_chunk") [] (.none) (.none) (.str (.ofString "cpy313.email.header") 431) (.ref (nat_lit 174)) (.none))),#[]⟩) ::
 (nat_lit 176,⟨.type "tuple",none,(.seq [.str (.ofString "_continuation_ws") 531,.str (.ofString "_continuation_ws_len") 532,.str (.ofString "_current_line") 533,.str (.ofString "_lines") 534,.str (.ofString "_maxlen") 535,.str (.ofString "_splitchars") 536].toArray 0),#[]⟩) ::
 (nat_lit 177,⟨.type "dict",none,(.dict [⟨PyData.keyHash P (.ofString "__module__"),.str (.ofString "__module__") 444,.str (.ofString "cpy313.email.header") 431⟩,⟨PyData.keyHash P (.ofString "__firstlineno__"),.str (.ofString "__firstlineno__") 448,.int 83 447⟩,⟨PyData.keyHash P (.ofString "__init__"),.str (.ofString "__init__") 459,.ref (nat_lit 119)⟩,⟨PyData.keyHash P (.ofString "_str"),.str (.ofString "_str") 467,.ref (nat_lit 126)⟩,⟨PyData.keyHash P (.ofString "__str__"),.str (.ofString "__str__") 474,.ref (nat_lit 133)⟩,⟨PyData.keyHash P (.ofString "newline"),.str (.ofString "newline") 482,.ref (nat_lit 140)⟩,⟨PyData.keyHash P (.ofString "add_transition"),.str (.ofString "add_transition") 489,.ref (nat_lit 147)⟩,⟨PyData.keyHash P (.ofString "feed"),.str (.ofString "feed") 499,.ref (nat_lit 154)⟩,⟨PyData.keyHash P (.ofString "_maxlengths"),.str (.ofString "_maxlengths") 506,.ref (nat_lit 161)⟩,⟨PyData.keyHash P (.ofString "_ascii_split"),.str (.ofString "_ascii_split") 516,.ref (nat_lit 168)⟩,⟨PyData.keyHash P (.ofString "_append_chunk"),.str (.ofString "_append_chunk") 530,.ref (nat_lit 175)⟩,⟨PyData.keyHash P (.ofString "__static_attributes__"),.str (.ofString "__static_attributes__") 537,.ref (nat_lit 176)⟩,⟨PyData.keyHash P (.ofString "__dict__"),.str (.ofString "__dict__") 539,.ref (nat_lit 179)⟩,⟨PyData.keyHash P (.ofString "__weakref__"),.str (.ofString "__weakref__") 541,.ref (nat_lit 180)⟩,⟨PyData.keyHash P (.ofString "__doc__"),.str (.ofString "__doc__") 542,.none⟩].toArray 4),#[]⟩) ::
 (nat_lit 178,⟨.type "type",none,(.cls {name:=.ofString "_ValueFormatter",bases:=[.type "object"],mro:=[.ref (nat_lit 178),.type "object"],ns:=177,qualname:=.ofString "_ValueFormatter",hasDict:=true,slotNames:=[],subclasses:=[],abstract:=false,collection:=none,hasDel:=false}),[none,none,some (.str (.ofString "_ValueFormatter") 437),some (.str (.ofString "_ValueFormatter") 445),some (.builtin "object.__new__"),some (.bool true)].toArray⟩) ::
 (nat_lit 179,⟨.type "getset_descriptor",none,(.fields [.str (.ofString "__dict__") 538,.ref (nat_lit 178),.builtin "function.__dict__",.builtin "function.__dict__#set"].toArray),#[]⟩) ::
 (nat_lit 180,⟨.type "getset_descriptor",none,(.fields [.str (.ofString "__weakref__") 540,.ref (nat_lit 178),.builtin "ExceptionGroup.__weakref__",.none].toArray),#[]⟩) ::
 (nat_lit 183,⟨.type "tuple",none,(.seq [.type "list"].toArray 0),#[]⟩) ::
 (nat_lit 186,⟨.type "cell",none,(.cell (some (.ref (nat_lit 262)))),#[]⟩) ::
 (nat_lit 191,⟨.type "tuple",none,(.seq [.int 0 557].toArray 0),#[]⟩) ::
 (nat_lit 198,⟨.type "code",none,(.fields [.str (.ofString "__init__") 558,.str (.ofString "_Accumulator.__init__") 559,.str (.ofString "/claim/cut.py") 560,.int 151 0,.int 2 0,.int 0 0,.int 0 0,.int 3 0,.ref (nat_lit 193),.bool true,.int 276 0,.ref (nat_lit 194),.none,.ref (nat_lit 195),.ref (nat_lit 196),.ref (nat_lit 197),.int 564 0,.int 151 0,.str (.ofString "/claim/cut.py") 565].toArray),#[]⟩) ::
 (nat_lit 199,⟨.type "function",none,(.func (fnD (zBw 17 0) (.ofString "__init__") (.ofString "_Accumulator.__init__") [(.ofString "__class__",186)] (.ref (nat_lit 191)) (.none) (.str (.ofString "cpy313.email.header") 431) (.ref (nat_lit 198)) (.ref (nat_lit 192)))),#[]⟩) ::
 (nat_lit 205,⟨.type "code",none,(.fields [.str (.ofString "push") 567,.str (.ofString "_Accumulator.push") 568,.str (.ofString "/claim/cut.py") 569,.int 155 0,.int 3 0,.int 0 0,.int 0 0,.int 3 0,.ref (nat_lit 200),.bool true,.int 276 0,.ref (nat_lit 201),.none,.ref (nat_lit 202),.ref (nat_lit 203),.ref (nat_lit 204),.int 573 0,.int 155 0,.str (.ofString "/claim/cut.py") 574].toArray),#[]⟩) ::
 (nat_lit 206,⟨.type "function",none,(.func (fnD (zBw 17 1) (.ofString "push") (.ofString "_Accumulator.push") [] (.none) (.none) (.str (.ofString "cpy313.email.header") 431) (.ref (nat_lit 205)) (.none))),#[]⟩) ::
 (nat_lit 207,⟨.type "tuple",none,(.seq [.int 0 576].toArray 0),#[]⟩) ::
 (nat_lit 213,⟨.type "code",none,(.fields [.str (.ofString "pop_from") 577,.str (.ofString "_Accumulator.pop_from") 578,.str (.ofString "/claim/cut.py") 579,.int 158 0,.int 2 0,.int 0 0,.int 0 0,.int 3 0,.ref (nat_lit 208),.bool true,.int 276 0,.ref (nat_lit 209),.none,.ref (nat_lit 210),.ref (nat_lit 211),.ref (nat_lit 212),.int 583 0,.int 158 0,.str (.ofString "/claim/cut.py") 584].toArray),#[]⟩) ::
 (nat_lit 214,⟨.type "function",none,(.func (fnD (zBw 17 2) (.ofString "pop_from") (.ofString "_Accumulator.pop_from") [] (.ref (nat_lit 207)) (.none) (.str (.ofString "cpy313.email.header") 431) (.ref (nat_lit 213)) (.none))),#[]⟩) ::
 (nat_lit 221,⟨.type "code",none,(.fields [.str (.ofString "pop") 586,.str (.ofString "_Accumulator.pop") 587,.str (.ofString "/claim/cut.py") 588,.int 163 0,.int 1 0,.int 0 0,.int 0 0,.int 3 0,.ref (nat_lit 216),.bool true,.int 276 0,.ref (nat_lit 217),.none,.ref (nat_lit 218),.ref (nat_lit 219),.ref (nat_lit 220),.int 591 0,.int 163 0,.str (.ofString "/claim/cut.py") 592].toArray),#[]⟩) ::
 (nat_lit 222,⟨.type "function",none,(.func (fnD (zBw 17 3) (.ofString "pop") (.ofString "_Accumulator.pop") [(.ofString "__class__",186)] (.none) (.none) (.str (.ofString "cpy313.email.header") 431) (.ref (nat_lit 221)) (.ref (nat_lit 215)))),#[]⟩) ::
 (nat_lit 228,⟨.type "code",none,(.fields [.str (.ofString "__len__") 594,.str (.ofString "_Accumulator.__len__") 595,.str (.ofString "/claim/cut.py") 596,.int 168 0,.int 1 0,.int 0 0,.int 0 0,.int 3 0,.ref (nat_lit 223),.bool true,.int 276 0,.ref (nat_lit 224),.none,.ref (nat_lit 225),.ref (nat_lit 226),.ref (nat_lit 227),.int 598 0,.int 168 0,.str (.ofString "/claim/cut.py") 599].toArray),#[]⟩) ::
 (nat_lit 229,⟨.type "function",none,(.func (fnD (zBw 17 4) (.ofString "__len__") (.ofString "_Accumulator.__len__") [] (.none) (.none) (.str (.ofString "cpy313.email.header") 431) (.ref (nat_lit 228)) (.none))),#[]⟩) ::
 (nat_lit 235,⟨.type "code",none,(.fields [.str (.ofString "__str__") 601,.str (.ofString "_Accumulator.__str__") 602,.str (.ofString "/claim/cut.py") 603,.int 171 0,.int 1 0,.int 0 0,.int 0 0,.int 3 0,.ref (nat_lit 230),.bool true,.int 276 0,.ref (nat_lit 231),.none,.ref (nat_lit 232),.ref (nat_lit 233),.ref (nat_lit 234),.int 605 0,.int 171 0,.str (.ofString "/claim/cut.py") 606].toArray),#[]⟩) ::
 (nat_lit 236,⟨.type "function",none,(.func (fnD (zBw 17 5) (.ofString "__str__") (.ofString "_Accumulator.__str__") [] (.none) (.none) (.str (.ofString "cpy313.email.header") 431) (.ref (nat_lit 235)) (.none))),#[]⟩) ::
 (nat_lit 237,⟨.type "tuple",none,(.seq [.none].toArray 0),#[]⟩) ::
 (nat_lit 243,⟨.type "code",none,(.fields [.str (.ofString "reset") 608,.str (.ofString "_Accumulator.reset") 609,.str (.ofString "/claim/cut.py") 610,.int 174 0,.int 2 0,.int 0 0,.int 0 0,.int 3 0,.ref (nat_lit 238),.bool true,.int 276 0,.ref (nat_lit 239),.none,.ref (nat_lit 240),.ref (nat_lit 241),.ref (nat_lit 242),.int 613 0,.int 174 0,.str (.ofString "/claim/cut.py") 614].toArray),#[]⟩) ::
 (nat_lit 244,⟨.type "function",none,(.func (fnD (zBw 17 6) (.ofString "reset") (.ofString "_Accumulator.reset") [] (.ref (nat_lit 237)) (.none) (.str (.ofString "cpy313.email.header") 431) (.ref (nat_lit 243)) (.none))),#[]⟩) ::
 (nat_lit 250,⟨.type "code",none,(.fields [.str (.ofString "is_onlyws") 616,.str (.ofString "_Accumulator.is_onlyws") 617,.str (.ofString "/claim/cut.py") 618,.int 180 0,.int 1 0,.int 0 0,.int 0 0,.int 3 0,.ref (nat_lit 245),.bool true,.int 276 0,.ref (nat_lit 246),.none,.ref (nat_lit 247),.ref (nat_lit 248),.ref (nat_lit 249),.int 620 0,.int 180 0,.str (.ofString "/claim/cut.py") 621].toArray),#[]⟩) ::
 (nat_lit 251,⟨.type "function",none,(.func (fnD (zBw 17 7) (.ofString "is_onlyws") (.ofString "_Accumulator.is_onlyws") [] (.none) (.none) (.str (.ofString "cpy313.email.header") 431) (.ref (nat_lit 250)) (.none))),#[]⟩) ::
 (nat_lit 258,⟨.type "code",none,(.fields [.str (.ofString "part_count") 623,.str (.ofString "_Accumulator.part_count") 624,.str (.ofString "/claim/cut.py") 625,.int 183 0,.int 1 0,.int 0 0,.int 0 0,.int 3 0,.ref (nat_lit 253),.bool true,.int 276 0,.ref (nat_lit 254),.none,.ref (nat_lit 255),.ref (nat_lit 256),.ref (nat_lit 257),.int 628 0,.int 183 0,.str (.ofString "/claim/cut.py") 629].toArray),#[]⟩) ::
 (nat_lit 259,⟨.type "function",none,(.func (fnD (zBw 17 8) (.ofString "part_count") (.ofString "_Accumulator.part_count") [(.ofString "__class__",186)] (.none) (.none) (.str (.ofString "cpy313.email.header") 431) (.ref (nat_lit 258)) (.ref (nat_lit 252)))),#[]⟩) ::
 (nat_lit 260,⟨.type "tuple",none,(.seq [.str (.ofString "_initial_size") 631].toArray 0),#[]⟩) ::
 (nat_lit 261,⟨.type "dict",none,(.dict [⟨PyData.keyHash P (.ofString "__module__"),.str (.ofString "__module__") 552,.str (.ofString "cpy313.email.header") 431⟩,⟨PyData.keyHash P (.ofString "__firstlineno__"),.str (.ofString "__firstlineno__") 556,.int 149 555⟩,⟨PyData.keyHash P (.ofString "__init__"),.str (.ofString "__init__") 566,.ref (nat_lit 199)⟩,⟨PyData.keyHash P (.ofString "push"),.str (.ofString "push") 575,.ref (nat_lit 206)⟩,⟨PyData.keyHash P (.ofString "pop_from"),.str (.ofString "pop_from") 585,.ref (nat_lit 214)⟩,⟨PyData.keyHash P (.ofString "pop"),.str (.ofString "pop") 593,.ref (nat_lit 222)⟩,⟨PyData.keyHash P (.ofString "__len__"),.str (.ofString "__len__") 600,.ref (nat_lit 229)⟩,⟨PyData.keyHash P (.ofString "__str__"),.str (.ofString "__str__") 607,.ref (nat_lit 236)⟩,⟨PyData.keyHash P (.ofString "reset"),.str (.ofString "reset") 615,.ref (nat_lit 244)⟩,⟨PyData.keyHash P (.ofString "is_onlyws"),.str (.ofString "is_onlyws") 622,.ref (nat_lit 251)⟩,⟨PyData.keyHash P (.ofString "part_count"),.str (.ofString "part_count") 630,.ref (nat_lit 259)⟩,⟨PyData.keyHash P (.ofString "__static_attributes__"),.str (.ofString "__static_attributes__") 632,.ref (nat_lit 260)⟩,⟨PyData.keyHash P (.ofString "__dict__"),.str (.ofString "__dict__") 635,.ref (nat_lit 263)⟩,⟨PyData.keyHash P (.ofString "__weakref__"),.str (.ofString "__weakref__") 637,.ref (nat_lit 264)⟩,⟨PyData.keyHash P (.ofString "__doc__"),.str (.ofString "__doc__") 638,.none⟩].toArray 5),#[]⟩) ::
 (nat_lit 262,⟨.type "type",none,(.cls {name:=.ofString "_Accumulator",bases:=[.type "list"],mro:=[.ref (nat_lit 262),.type "list",.type "object"],ns:=261,qualname:=.ofString "_Accumulator",hasDict:=true,slotNames:=[],subclasses:=[],abstract:=false,collection:=none,hasDel:=false}),[some (.ref (nat_lit 183)),none,some (.str (.ofString "_Accumulator") 545),some (.str (.ofString "_Accumulator") 553),some (.builtin "list.__new__"),some (.bool true)].toArray⟩) ::
 (nat_lit 263,⟨.type "getset_descriptor",none,(.fields [.str (.ofString "__dict__") 634,.ref (nat_lit 262),.builtin "function.__dict__",.builtin "function.__dict__#set"].toArray),#[]⟩) ::
 (nat_lit 264,⟨.type "getset_descriptor",none,(.fields [.str (.ofString "__weakref__") 636,.ref (nat_lit 262),.builtin "ExceptionGroup.__weakref__",.none].toArray),#[]⟩) ::
 (nat_lit 272,⟨.type "code",none,(.fields [.str (.ofString "_strcoll") 643,.str (.ofString "_strcoll") 644,.str (.ofString "/claim/cut.py") 645,.int 186 0,.int 2 0,.int 0 0,.int 0 0,.int 3 0,.ref (nat_lit 267),.bool true,.int 276 0,.ref (nat_lit 268),.none,.ref (nat_lit 269),.ref (nat_lit 270),.ref (nat_lit 271),.int 648 0,.int 186 0,.str (.ofString "/claim/cut.py") 649].toArray),#[]⟩) ::
 (nat_lit 273,⟨.type "function",none,(.func (fnD (stAt 19) (.ofString "_strcoll") (.ofString "_strcoll") [] (.none) (.none) (.str (.ofString "cpy313.locale") 641) (.ref (nat_lit 272)) (.none))),#[]⟩) ::
 (nat_lit 279,⟨.type "code",none,(.fields [.str (.ofString "_build_localename") 651,.str (.ofString "_build_localename") 652,.str (.ofString "/claim/cut.py") 653,.int 188 0,.int 1 0,.int 0 0,.int 0 0,.int 3 0,.ref (nat_lit 274),.bool true,.int 276 0,.ref (nat_lit 275),.none,.ref (nat_lit 276),.ref (nat_lit 277),.ref (nat_lit 278),.int 657 0,.int 188 0,.str (.ofString "/claim/cut.py") 658].toArray),#[]⟩) ::
 (nat_lit 280,⟨.type "function",none,(.func (fnD (stAt 20) (.ofString "_build_localename") (.ofString "_build_localename") [] (.none) (.none) (.str (.ofString "cpy313.locale") 641) (.ref (nat_lit 279)) (.none))),#[]⟩) ::
 (nat_lit 286,⟨.type "code",none,(.fields [.str (.ofString "_law_leader") 662,.str (.ofString "_law_leader") 663,.str (.ofString "/claim/cut.py") 664,.int 200 0,.int 1 0,.int 0 0,.int 0 0,.int 3 0,.ref (nat_lit 281),.bool true,.int 276 0,.ref (nat_lit 282),.none,.ref (nat_lit 283),.ref (nat_lit 284),.ref (nat_lit 285),.int 666 0,.int 200 0,.str (.ofString "/claim/cut.py") 667].toArray),#[]⟩) ::
 (nat_lit 287,⟨.type "function",none,(.func (fnD (stAt 22) (.ofString "_law_leader") (.ofString "_law_leader") [] (.none) (.none) (.str (.ofString "law_xr0024_01") 660) (.ref (nat_lit 286)) (.none))),#[]⟩) ::
 (nat_lit 291,⟨.type "code",none,(.fields [.str (.ofString "_law_turned") 669,.str (.ofString "_law_turned") 670,.str (.ofString "/claim/cut.py") 671,.int 202 0,.int 1 0,.int 0 0,.int 0 0,.int 3 0,.ref (nat_lit 288),.bool true,.int 276 0,.ref (nat_lit 289),.none,.none,.none,.ref (nat_lit 290),.int 672 0,.int 202 0,.str (.ofString "/claim/cut.py") 673].toArray),#[]⟩) ::
 (nat_lit 292,⟨.type "function",none,(.func (fnD (stAt 23) (.ofString "_law_turned") (.ofString "_law_turned") [] (.none) (.none) (.str (.ofString "law_xr0024_01") 660) (.ref (nat_lit 291)) (.none))),#[]⟩) ::
 (nat_lit 298,⟨.type "code",none,(.fields [.str (.ofString "_law_page") 675,.str (.ofString "_law_page") 676,.str (.ofString "/claim/cut.py") 677,.int 222 0,.int 4 0,.int 0 0,.int 0 0,.int 3 0,.ref (nat_lit 293),.bool true,.int 276 0,.ref (nat_lit 294),.none,.ref (nat_lit 295),.ref (nat_lit 296),.ref (nat_lit 297),.int 688 0,.int 222 0,.str (.ofString "/claim/cut.py") 689].toArray),#[]⟩) ::
 (nat_lit 299,⟨.type "function",none,(.func (fnD (stAt 24) (.ofString "_law_page") (.ofString "_law_page") [] (.none) (.none) (.str (.ofString "law_xr0024_01") 660) (.ref (nat_lit 298)) (.none))),#[]⟩) ::
 (nat_lit 305,⟨.type "code",none,(.fields [.str (.ofString "_law_read") 691,.str (.ofString "_law_read") 692,.str (.ofString "/claim/cut.py") 693,.int 234 0,.int 1 0,.int 0 0,.int 0 0,.int 3 0,.ref (nat_lit 300),.bool true,.int 276 0,.ref (nat_lit 301),.none,.ref (nat_lit 302),.ref (nat_lit 303),.ref (nat_lit 304),.int 699 0,.int 234 0,.str (.ofString "/claim/cut.py") 700].toArray),#[]⟩) ::
 (nat_lit 306,⟨.type "function",none,(.func (fnD (stAt 25) (.ofString "_law_read") (.ofString "_law_read") [] (.none) (.none) (.str (.ofString "law_xr0024_01") 660) (.ref (nat_lit 305)) (.none))),#[]⟩) ::
 (nat_lit 312,⟨.type "code",none,(.fields [.str (.ofString "_law_named") 702,.str (.ofString "_law_named") 703,.str (.ofString "/claim/cut.py") 704,.int 242 0,.int 3 0,.int 0 0,.int 0 0,.int 3 0,.ref (nat_lit 307),.bool true,.int 276 0,.ref (nat_lit 308),.none,.ref (nat_lit 309),.ref (nat_lit 310),.ref (nat_lit 311),.int 714 0,.int 242 0,.str (.ofString "/claim/cut.py") 715].toArray),#[]⟩) ::
 (nat_lit 313,⟨.type "function",none,(.func (fnD (stAt 26) (.ofString "_law_named") (.ofString "_law_named") [] (.none) (.none) (.str (.ofString "law_xr0024_01") 660) (.ref (nat_lit 312)) (.none))),#[]⟩) ::
 (nat_lit 319,⟨.type "code",none,(.fields [.str (.ofString "_law_book") 717,.str (.ofString "_law_book") 718,.str (.ofString "/claim/cut.py") 719,.int 258 0,.int 1 0,.int 0 0,.int 0 0,.int 3 0,.ref (nat_lit 314),.bool true,.int 276 0,.ref (nat_lit 315),.none,.ref (nat_lit 316),.ref (nat_lit 317),.ref (nat_lit 318),.int 724 0,.int 258 0,.str (.ofString "/claim/cut.py") 725].toArray),#[]⟩) ::
 (nat_lit 320,⟨.type "function",none,(.func (fnD (stAt 27) (.ofString "_law_book") (.ofString "_law_book") [] (.none) (.none) (.str (.ofString "law_xr0024_01") 660) (.ref (nat_lit 319)) (.none))),#[]⟩) ::
 (nat_lit 326,⟨.type "code",none,(.fields [.str (.ofString "_law_tail") 727,.str (.ofString "_law_tail") 728,.str (.ofString "/claim/cut.py") 729,.int 266 0,.int 1 0,.int 0 0,.int 0 0,.int 3 0,.ref (nat_lit 321),.bool true,.int 276 0,.ref (nat_lit 322),.none,.ref (nat_lit 323),.ref (nat_lit 324),.ref (nat_lit 325),.int 731 0,.int 266 0,.str (.ofString "/claim/cut.py") 732].toArray),#[]⟩) ::
 (nat_lit 327,⟨.type "function",none,(.func (fnD (stAt 28) (.ofString "_law_tail") (.ofString "_law_tail") [] (.none) (.none) (.str (.ofString "law_xr0024_01") 660) (.ref (nat_lit 326)) (.none))),#[]⟩) ::
 (nat_lit 333,⟨.type "code",none,(.fields [.str (.ofString "_law_label") 734,.str (.ofString "_law_label") 735,.str (.ofString "/claim/cut.py") 736,.int 268 0,.int 1 0,.int 0 0,.int 0 0,.int 3 0,.ref (nat_lit 328),.bool true,.int 276 0,.ref (nat_lit 329),.none,.ref (nat_lit 330),.ref (nat_lit 331),.ref (nat_lit 332),.int 738 0,.int 268 0,.str (.ofString "/claim/cut.py") 739].toArray),#[]⟩) ::
 (nat_lit 334,⟨.type "function",none,(.func (fnD (stAt 29) (.ofString "_law_label") (.ofString "_law_label") [] (.none) (.none) (.str (.ofString "law_xr0024_01") 660) (.ref (nat_lit 333)) (.none))),#[]⟩) ::
 (nat_lit 338,⟨.type "code",none,(.fields [.str (.ofString "_law_back") 741,.str (.ofString "_law_back") 742,.str (.ofString "/claim/cut.py") 743,.int 270 0,.int 3 0,.int 0 0,.int 0 0,.int 3 0,.ref (nat_lit 335),.bool true,.int 276 0,.ref (nat_lit 336),.none,.none,.none,.ref (nat_lit 337),.int 744 0,.int 270 0,.str (.ofString "/claim/cut.py") 745].toArray),#[]⟩) ::
 (nat_lit 339,⟨.type "function",none,(.func (fnD (stAt 30) (.ofString "_law_back") (.ofString "_law_back") [] (.none) (.none) (.str (.ofString "law_xr0024_01") 660) (.ref (nat_lit 338)) (.none))),#[]⟩) ::
 (nat_lit 343,⟨.type "code",none,(.fields [.str (.ofString "law") 747,.str (.ofString "law") 748,.str (.ofString "/claim/cut.py") 749,.int 287 0,.int 1 0,.int 0 0,.int 0 0,.int 3 0,.ref (nat_lit 340),.bool true,.int 276 0,.ref (nat_lit 341),.none,.none,.none,.ref (nat_lit 342),.int 750 0,.int 287 0,.str (.ofString "/claim/cut.py") 751].toArray),#[]⟩) ::
 (nat_lit 344,⟨.type "function",none,(.func (fnD (stAt 31) (.ofString "law") (.ofString "law") [] (.none) (.none) (.str (.ofString "law_xr0024_01") 660) (.ref (nat_lit 343)) (.none))),#[]⟩)::[]
noncomputable def yCl:Stmt→Pos
 |.FunctionDef _ _ _ _ _ _ _ _ _ p=>p
 |_=>default
noncomputable def kAs:List Addr:=[2,3,44,45,49,50,54,55,61,62,68,69,70,71,77,78,79,80,86,87,88,89,95,96,97,98,104,105,118,119,125,126,139,140,146,147,174,175,176,177,178,179,180,183,186,191,198,199,205,206,207,213,214,221,222,228,229,235,236,237,243,244,250,251,258,259,260,261,262,263,264,272,273,279,280,286,287,291,292,298,299,305,306,312,313,319,320,326,327,333,334,338,339,343,344]
noncomputable def q:Program:=view pw [0,31]
noncomputable def loose:List Str:=["_wall","__name__","unmatched","HEADER_JOIN_TOKEN_RE","IPV4_RE","is_HDN","reach","insort_right","bisect_right",
 "insort_left","bisect_left","NL","EMPTYSTRING","_ValueFormatter","_Accumulator","_strcoll","_build_localename",
 "_law_leader","_law_turned","_law_page","_law_read","_law_named","_law_book","_law_tail","_law_label","_law_back"]
def zY0(h:Heap):Prop:=h.get? 224=some (tabObj #[])∧h.get? 231=some (tabObj #[])
noncomputable def hk:Hook where
 α:=List (Option Obj)×Option Obj×Option Obj
 obs s:=(kAs.map s.heap.get?,s.heap.get? 224,s.heap.get? 231)
 val w:=((kW w.params).map fun p=>some p.2,some (tabObj #[]),some (tabObj #[]))
 says w h:=InK kW w h∧zY0 h
 of w s e:=⟨InK.of (as:=kAs) (fun _=>rfl) w s (congrArg Prod.fst e),congrArg (fun x=>x.2.1) e,congrArg (fun x=>x.2.2) e⟩
 keeps w h h' x k:=⟨InK.keeps w h h' x.1 k,k _ _ x.2.1,k _ _ x.2.2⟩
theorem left:LeftO pw q loose (fun s=>xlAt q [] s&&recOk [] s) (Hook.obs hk) (Hook.val hk) 4000:=fun w=>by kernel_rfl
noncomputable def yD9:DefRec:={name:="law",params:=zGe (stAt 31),body:=zAf (stAt 31),scope:=zAl (stAt 31),pos:=yCl (stAt 31)}
theorem head(walk:WalkO q loose (XL q []) (Hook.says hk) PySem.Challenge.rw_xr0024_01.row.toRowW yD9 [] (fun f vs=>PySem.call f vs)):PySem.Challenge.rw_xr0024_01.Holds:=by
 w_on
 refine holds_law (by kernel_rfl) fun said=>?_
 refine holds_open (q:=q) (loose:=loose) (Xt:=fun s=>xlAt q [] s&&recOk [] s) (XP:=XL q []) (Yf:=Hook.obs hk) (Ya:=Hook.val hk) (YP:=Hook.says hk) (d:=yD9) (kwd:=[]) (N:=4000) left (Hook.of hk) (Hook.keeps hk)
  (fun s e=>xl_of s (Bool.and_eq_true_iff.mp e).1) XL.keeps (by rfl) (by rfl) (by rfl) (fun s e=>recFacts_of (Bool.and_eq_true_iff.mp e).2) (by rfl) (by first|assumption|decide +kernel) (by decide +kernel) ⟨rfl,rfl,rfl,rfl,rfl,by decide +kernel⟩ ?hw walk
 case hw=>w_witness2
end
noncomputable abbrev zUu(dp un:Nat)(cn:Str)(cs:Scope)(L a:Addr)(ccd:Value)(cl:List (Str×Addr))(outer:List Env):Around:=ktrTop dp un (some []) cn cs L a ccd cl outer
section
variable {w:World}{dp un:Nat}{cn:Str}{cs:Scope}{L a:Addr}{ccd:Value}{cl:List (Str×Addr)}{outer:List Env}{A₀:Around}{base h₀:Heap}{m mg mb:Str→Option Value}{news:List (Addr×Obj)}{s:Shared}{p:Program}{loose:List Str}{mean:ExcName→Option Value}{R:Result→Shared→Prop}{f:Addr}{st:Stmt}{name qual:Str}{fcl:List (Str×Addr)}{dV kV pm cdv ct:Value}{params:Arguments}{body:List Stmt}{scope:Scope}{args:Args}{binds:List (Str×Value)}
theorem zYl(B:Below A₀ base outer h₀)(F:Fr h₀ L s.heap m)(X:(kW w.params).In h₀)(N:News h₀ L s.heap news)(T:Top p loose mean mg mb h₀)(hke:cs.kind = .function)(hdp:dp<500)(hK:(kW w.params).lookup f=some ⟨.type "function",none,.func (fnD st name qual fcl dV kV pm cdv ct),#[]⟩)(hpm:zGe st=params)(hbd:zAf st=body)(hsc:zAl st=scope)(hcd:codeIn (kW w.params) cdv qual=true)(hbind:BindsTo s (fnX name qual params body scope fcl dV kV .none pm none cdv ct) args binds)(hloc:(binds.all fun x=>decide (scope.names.lookup x.1=some .local))=true)(hcell:∀x∈scope.names,x.2≠.cell)(hco:scope.isCoroutine=false)(hgen:scope.isGenerator=false)(hk:scope.kind = .function)(h:∀g L' h₁,Fr h₀ L g m→Fr g L' h₁ (fun y=>binds.reverse.lookup y)→News g L' h₁ news→Below (zUu dp un cn cs L a ccd cl outer) base (envX cn cs L a ccd cl::outer) g→(kW w.params).In g→Top p loose mean mg mb g→(∀p∈news,p.1<L')→
   wpAny (model pw w) (zUu (dp+1) (un+3) qual scope L' f cdv fcl (envX cn cs L a ccd cl::outer)) (execs body (envX qual scope L' f cdv fcl))
    (fun fl s'=>LeaveK h₀ L m g R (match fl with | .ret v=>v|_=>.none) s') (fun _ _=>False)
    {s with heap:=h₁,toks:=s.toks+binds.length}):codeAny (model pw w) (zUu dp un cn cs L a ccd cl outer) (.call (.ref f) args) R s:=by
 subst hpm hbd hsc
 exact callX_plain (env:=envX cn cs L a ccd cl) B F N T.nolimit rfl rfl hke ((X.keeps F.keep) _ _ hK) rfl (codeRec_of (X.keeps F.keep) hcd) (lt_trans hdp (by decide)) hbind (locs hloc) (fun g L' h₁ FG F' N' B' st' l=>wpAny_mono (h g L' h₁ FG F' N' B' (X.keeps st') (T.keeps st') l) (fun _ _ q=>q) fun _ _ q=>q.elim) hcell hco hgen hk
end
theorem zAd{K:Frag}{s:Shared}{fd:FuncData}{args:Args}{binds:List (Str×Value)}(X:K.In s.heap)(e:∀S,peek K S (PySem.bindArgs fd args)=some binds):BindsTo s fd args binds:=
 fun M A E Q q=>(Looks.of_peek (M:=M) X (e _)).here q
section
variable {prog:Program}{w:World}{A:Around}{E:Value→Shared→Prop}{s:Shared}{h₀:Heap}{L l:Addr}{m:Str→Option Value}{news:List (Addr×Obj)}{g:Obj→List (Addr×Obj)}{vs:List Value}{n:Nat}{k:Int}{u:Tok}
theorem zE9{d:Addr}{o:Obj}{news:List (Addr×Obj)}{g:Obj→List (Addr×Obj)}(U:UpdF d o news g)(o':Obj):Upd d o o' news (g o'):=by
 induction U with
 |head h=>exact .head h
 |tail h _ ih=>exact .tail h ih
theorem zA2{d:Addr}{o:Obj}{news:List (Addr×Obj)}{g:Obj→List (Addr×Obj)}(U:UpdF d o news g):(d,o)∈news:=by
 induction U with
 |head h=>exact .head _
 |tail h _ ih=>exact .tail _ ih
theorem zG7{d:Addr}{o:Obj}{news:List (Addr×Obj)}{g:Obj→List (Addr×Obj)}(U:UpdF d o news g):g o=news:=by
 induction U with
 |head h=>rfl
 |tail h _ ih=>exact congrArg (_ :: ·) ih
theorem zJz{d:Addr}{o o':Obj}{news:List (Addr×Obj)}{g:Obj→List (Addr×Obj)}(U:UpdF d o news g){p:Addr×Obj}(hp:p∈news)(hne:p.1≠d):p∈g o':=by
 induction U with
 |head h=>
  rcases mem_cons.mp hp with rfl|hp
  ·exact absurd rfl hne
  ·exact .tail _ hp
 |tail h _ ih=>
  rcases mem_cons.mp hp with rfl|hp
  ·exact .head _
  ·exact .tail _ (ih hp)
theorem updF_off{d:Addr}{o:Obj}{news:List (Addr×Obj)}{g:Obj→List (Addr×Obj)}(U:UpdF d o news g)(o':Obj):∀p∈g o',p.1=d∨p∈news:=by
 induction U with
 |head h=>
  intro p hp
  rcases mem_cons.mp hp with rfl|hp
  ·exact .inl rfl
  ·exact .inr (.tail _ hp)
 |tail h _ ih=>
  intro p hp
  rcases mem_cons.mp hp with rfl|hp
  ·exact .inr (.head _)
  ·rcases ih p hp with e|e
   ·exact .inl e
   ·exact .inr (.tail _ e)
theorem zUp{name:Str}{id:String}{pl:Sem Bool}{Q:Value×List Value→Shared→Prop}(N:News h₀ L s.heap news)(hm:(l,listOf vs.toArray n)∈news)(slot:Slot "list" name id)(hty:typeOf (.builtin id)=pure (.type "method_descriptor"))(h:Q (.builtin id,[.ref l]) s):wpAny (model prog w) A (getMethod (.ref l) name pl) Q E s:=kl_method N hm slot hty h
theorem zRu{x:Value}{Q:Value→Shared→Prop}(F:Fr h₀ L s.heap m)(N:News h₀ L s.heap news)(U:UpdF l (listOf vs.toArray n) news g)(hsz:vs.length≤100000)(h:∀h',Fr h₀ L h' m→News h₀ L h' (g (listOf (vs++[x]).toArray (n+1)))→Q .none {s with heap:=h'}):wpAny (model prog w) A (call (.builtin "list.append") [.ref l,x]) Q E s:=by
 have e:(vs++[x]).toArray=vs.toArray.push x:=by simp
 refine append_K F N (zE9 U _) (fun h' F' N'=>h h' F' (e▸N')) (by rw [size_toArray,sizeLine_eq];(exact le_trans (by assumption) (le_of_ble_eq_true rfl)))
theorem zSo{x:Value}{Q:Value→Shared→Prop}(F:Fr h₀ L s.heap m)(N:News h₀ L s.heap news)(U:UpdF l (listOf vs.toArray n) news g){j:Nat}(hj:j≤vs.length)(hsz:vs.length≤100000)(h:∀h',Fr h₀ L h' m→News h₀ L h' (g (listOf (vs.take j++x::vs.drop j).toArray (n+1)))→Q .none {s with heap:=h'}):wpAny (model prog w) A (call (.builtin "list.insert") [.ref l,.int (j:Int) u,x]) Q E s:=by
 refine kl_insert (l:=vs.take j++x::vs.drop j) F N ?_ ?_ (zE9 U _) (by rw [sizeLine_eq];simp;(exact le_trans (by assumption) (le_of_ble_eq_true rfl))) h
 ·simp only [Builtin.List.listFitsIndex,and_eq_true,decide_eq_true_eq]
  constructor<;>omega
 ·unfold kl_ins
  have e1:¬((j:Int)<0):=by lia
  have e2:min j vs.length=j:=by lia
  simp [e1,e2]
theorem zUa:∀{l:List Value} {k:Nat} {y:Value},l[k]? = some y→kl_cut l k=some (l.take k,y,l.drop (k+1))
 |[],_,_,h=>by simp at h
 |a::r,0,y,h=>by simp at h;subst h;rfl
 |a::r,k+1,y,h=>by
  have:=zUa (l:=r) (k:=k) (y:=y) (by simpa using h)
  show (match kl_cut r k with|some (p,y,q)=>some (a::p,y,q)|none=>none)=_
  rw [this]
  rfl
theorem zWv{x:Value}{Q:Value→Shared→Prop}(F:Fr h₀ L s.heap m)(N:News h₀ L s.heap news)(U:UpdF l (listOf vs.toArray n) news g){j:Nat}(hj:vs[j]? = some x)(hsz:vs.length≤100000)(h:∀h',Fr h₀ L h' m→News h₀ L h' (g (listOf (vs.take j++vs.drop (j+1)).toArray (n+1)))→Q x {s with heap:=h'}):wpAny (model prog w) A (call (.builtin "list.pop") [.ref l,.int (j:Int) u]) Q E s:=by
 have hjl:j<vs.length:=(List.getElem?_eq_some_iff.mp hj).1
 refine kl_popAt (k:=j) (p:=vs.take j) (q:=vs.drop (j+1)) (y:=x) F N ?_ ?_ ?_ (zE9 U _) (by rw [sizeLine_eq];simp;omega) h
 ·simp only [Builtin.List.listFitsIndex,and_eq_true,decide_eq_true_eq]
  constructor<;>omega
 ·unfold seqIndex?
  rw [size_toArray]
  have e1:¬((j:Int)<0):=by omega
  simp [e1,hjl]
 ·simpa using zUa hj
theorem zZc{Q:Value→Shared→Prop}(N:News h₀ L s.heap news)(hm:(l,listOf vs.toArray n)∈news)(hfit:vs.length≤100000)(h:Q (.int (vs.length:Int) (s.toks+1)) {s with toks:=s.toks+1+1}):wpAny (model prog w) A (call (.builtin "len") [.ref l]) Q E s:=by
 have hl:s.heap.IsList l vs.toArray:=⟨_,(N _ hm).1,rfl,n,rfl⟩
 exact PyProof.Rows.len_list hl (by rw [size_toArray];omega) (by rw [size_toArray];exact h)
theorem zUj{value slice:Expr}{Q:Value→Shared→Prop}(N:News h₀ L s.heap news)(hm:(l,listOf vs.toArray n)∈news)(h0:0≤k)(h1:k<(vs.length:Int))(hfit:vs.length≤100000)(h:∀v,vs[k.toNat]? = some v→Q v s)(hs:autoParam (subscripted slice false (.ref l) (.int k u)=operate [.ref l,.int k u] (getItem (.ref l) (.int k u))) T0W)(hg:autoParam (∀r,letTemporaryGo value (.ref l) r=pure ()) zXz):
  wpAny (model prog w) A (subscriptTail value slice (.ref l) (.int k u)) Q E s:=by
 have hk:k.toNat<vs.length:=by lia
 exact kim_list N hm rfl rfl h0 (by lia) (getElem?_eq_getElem hk) (h _ (getElem?_eq_getElem hk)) hs hg
theorem zW4{value slice:Expr}{Q:Value→Shared→Prop}(N:News h₀ L s.heap news)(hm:(l,listOf vs.toArray n)∈news)(h1:0<vs.length)(hfit:vs.length≤100000)(h:∀v,vs[vs.length-1]? = some v→Q v s)(hs:autoParam (subscripted slice false (.ref l) (.int (-1) u)=operate [.ref l,.int (-1) u] (getItem (.ref l) (.int (-1) u))) T0W)(hg:autoParam (∀r,letTemporaryGo value (.ref l) r=pure ()) zXz):
  wpAny (model prog w) A (subscriptTail value slice (.ref l) (.int (-1) u)) Q E s:=by
 have e:((-1:Int)+(vs.length:Int)).toNat=vs.length-1:=by lia
 have hk:vs.length-1<vs.length:=by omega
 exact kim_back N hm rfl rfl (by decide) (by lia) (by decide) (by rw [e];exact getElem?_eq_getElem hk) (h _ (getElem?_eq_getElem hk)) hs hg
end
abbrev zA0:=Str
structure Wd where
 as:List Addr
 Z:List (Addr×Obj)
noncomputable abbrev yCv(vs:List Value):Obj:={cls:=.type "tuple",data:=.seq vs.toArray}
mutual
inductive DRep(Z:List (Addr×Obj)):PyData→Value→Prop
 |none:DRep Z .none .none
 |bool {b}:DRep Z (.bool b) (.bool b)
 |int {i t}:DRep Z (.int i) (.int i t)
 |str {x t}:DRep Z (.str x) (.str x t)
 |list {a vs n xs}:(a,listOf vs.toArray n)∈Z→DRepL Z xs vs→DRep Z (.list xs) (.ref a)
 |tuple {a vs xs}:(a,yCv vs)∈Z→DRepL Z xs vs→DRep Z (.tuple xs) (.ref a)
inductive DRepL(Z:List (Addr×Obj)):List PyData→List Value→Prop
 |nil:DRepL Z [] []
 |cons {x v xs vs}:DRep Z x v→DRepL Z xs vs→DRepL Z (x::xs) (v::vs)
end
theorem DRep.mono{Z Z':List (Addr×Obj)}(h:∀p∈Z,p∈Z'){x:PyData}{v:Value}(r:DRep Z x v):DRep Z' x v:=
 DRep.rec (motive_1:=fun x v _=>DRep Z' x v) (motive_2:=fun x v _=>DRepL Z' x v) .none .bool .int .str (fun m _ i=>.list (h _ m) i) (fun m _ i=>.tuple (h _ m) i) .nil (fun _ _ a b=>.cons a b) r
theorem DRepL.mono{Z Z':List (Addr×Obj)}(h:∀p∈Z,p∈Z'){x:List PyData}{v:List Value}(r:DRepL Z x v):DRepL Z' x v:=
 DRepL.rec (motive_1:=fun x v _=>DRep Z' x v) (motive_2:=fun x v _=>DRepL Z' x v) .none .bool .int .str (fun m _ i=>.list (h _ m) i) (fun m _ i=>.tuple (h _ m) i) .nil (fun _ _ a b=>.cons a b) r
section
variable {Z:List (Addr×Obj)}
theorem DRep.int_{i:Int}{v:Value}:DRep Z (.int i) v→∃t,v = .int i t | .int=>⟨_,rfl⟩
theorem DRep.str_{i:zA0}{v:Value}:DRep Z (.str i) v→∃t,v = .str i t | .str=>⟨_,rfl⟩
theorem DRep.bool_{i:Bool}{v:Value}:DRep Z (.bool i) v→v = .bool i | .bool=>rfl
theorem DRep.none_{v:Value}:DRep Z .none v→v = .none | .none=>rfl
theorem DRep.list_{xs:List PyData}{v:Value}:DRep Z (.list xs) v→∃a vs n,v = .ref a∧(a,listOf vs.toArray n)∈Z∧DRepL Z xs vs | .list m r=>⟨_,_,_,rfl,m,r⟩
theorem DRep.tuple_{xs:List PyData}{v:Value}:DRep Z (.tuple xs) v→∃a vs,v = .ref a∧(a,yCv vs)∈Z∧DRepL Z xs vs | .tuple m r=>⟨_,_,rfl,m,r⟩
theorem DRepL.nil_{vs:List Value}:DRepL Z [] vs→vs=[] | .nil=>rfl
theorem DRepL.cons_{x:PyData}{xs:List PyData}{vs:List Value}:DRepL Z (x::xs) vs→∃v us,vs=v::us∧DRep Z x v∧DRepL Z xs us | .cons a b=>⟨_,_,rfl,a,b⟩
theorem DRepL.len:∀{xs:List PyData} {vs:List Value},DRepL Z xs vs→vs.length=xs.length
 |[],_,h=>by rw [h.nil_];rfl
 |_::_,_,h=>by obtain ⟨v,us,rfl,_,b⟩:=h.cons_;exact congrArg (· + 1) b.len
theorem DRepL.append:∀{xs:List PyData} {vs:List Value} {ys:List PyData} {us:List Value},DRepL Z xs vs→DRepL Z ys us→DRepL Z (xs++ys) (vs++us)
 |[],_,_,_,h,k=>by rw [h.nil_];exact k
 |_::_,_,_,_,h,k=>by obtain ⟨v,us,rfl,a,b⟩:=h.cons_;exact .cons a (b.append k)
theorem DRepL.at:∀{xs:List PyData} {vs:List Value} {i:Nat} {x:PyData},DRepL Z xs vs→xs[i]? = some x→∃v,vs[i]? = some v∧DRep Z x v
 |[],_,_,_,h,e=>by simp at e
 |_::_,_,0,_,h,e=>by obtain ⟨v,us,rfl,a,b⟩:=h.cons_;simp at e;subst e;exact ⟨v,rfl,a⟩
 |_::_,_,i+1,_,h,e=>by obtain ⟨v,us,rfl,a,b⟩:=h.cons_;exact b.at (i:=i) (by simpa using e)
theorem DRepL.take:∀{n:Nat} {xs:List PyData} {vs:List Value},DRepL Z xs vs→DRepL Z (xs.take n) (vs.take n)
 |0,_,_,_=>.nil
 |_+1,[],_,h=>by rw [h.nil_];exact .nil
 |n+1,_::_,_,h=>by obtain ⟨v,us,rfl,a,b⟩:=h.cons_;exact .cons a (b.take (n:=n))
theorem DRepL.drop:∀{n:Nat} {xs:List PyData} {vs:List Value},DRepL Z xs vs→DRepL Z (xs.drop n) (vs.drop n)
 |0,_,_,h=>h
 |_+1,[],_,h=>by rw [h.nil_];exact .nil
 |n+1,_::_,_,h=>by obtain ⟨v,us,rfl,a,b⟩:=h.cons_;exact b.drop (n:=n)
end
inductive SV where
 |d(x:PyData)
 |r(k:Nat)
 |v(x:Value)
def SRep(z:Wd):SV→Value→Prop
 |.d x,v=>DRep z.Z x v
 |.r k,v=>∃a,z.as[k]? = some a∧v = .ref a
 |.v x,v=>v=x
def Wd.Le(z z':Wd):Prop:=(∃t,z'.as=z.as++t)∧∀p∈z.Z,p∈z'.Z
theorem Wd.Le.refl(z:Wd):z.Le z:=⟨⟨[],by simp⟩,fun _ h=>h⟩
theorem Wd.Le.trans{a b c:Wd}(h:a.Le b)(k:b.Le c):a.Le c:=⟨let ⟨t,e⟩:=h.1;let ⟨u,f⟩:=k.1;⟨t++u,by rw [f,e,append_assoc]⟩,fun p hp=>k.2 p (h.2 p hp)⟩
theorem SRep.mono{z z':Wd}(h:z.Le z'){sv:SV}{v:Value}(r:SRep z sv v):SRep z' sv v:=by
 induction sv with
 |d x=>exact DRep.mono h.2 r
 |r k=>
  obtain ⟨a,e,rfl⟩:=r
  obtain ⟨t,et⟩:=h.1
  exact ⟨a,by rw [et,getElem?_append_left (List.getElem?_eq_some_iff.mp e).1];exact e,rfl⟩
 |v x=>exact r
inductive SRepL(z:Wd):List SV→List Value→Prop
 |nil:SRepL z [] []
 |cons {x v xs vs}:SRep z x v→SRepL z xs vs→SRepL z (x::xs) (v::vs)
theorem SRepL.mono{z z':Wd}(h:z.Le z'){sv:List SV}{v:List Value}(r:SRepL z sv v):SRepL z' sv v:=by
 induction r with
 |nil=>exact .nil
 |cons a _ ih=>exact .cons (a.mono h) ih
theorem SRepL.nil_{z:Wd}{vs:List Value}:SRepL z [] vs→vs=[] | .nil=>rfl
theorem SRepL.cons_{z:Wd}{x:SV}{xs:List SV}{vs:List Value}:SRepL z (x::xs) vs→∃v us,vs=v::us∧SRep z x v∧SRepL z xs us | .cons a b=>⟨_,_,rfl,a,b⟩
inductive SO where
 |lst(l:List PyData)
 |accO(dk:Nat)(l:List PyData)
 |inst(C:Addr)(dk:Nat)
 |attrs(es:List (zA0×SV))
 |mat(x:zA0)(ck:Nat)
 |cell(v:SV)
 |tup(vs:List SV)
 |is(p:Params→Addr→Obj→Prop)
 |gone
noncomputable abbrev yCg(x:zA0)(t:Tok)(c:Addr):Obj:={cls:=.type "re.Match",data:=.fields [.str x t,.ref 50,.int 0 0,.int x.cps.size 0,.int (-1) 0,.ref c].toArray}
inductive AttrL(P:Params)(z:Wd):List (zA0×SV)→List DictEntry→Prop
 |nil:AttrL P z [] []
 |cons {x t sv v xs es}:SRep z sv v→AttrL P z xs es→AttrL P z ((x,sv)::xs) (⟨PyData.keyHash P x,.str x t,v⟩::es)
theorem AttrL.mono{P:Params}{z z':Wd}(h:z.Le z'){sv:List (zA0×SV)}{v:List DictEntry}(r:AttrL P z sv v):AttrL P z' sv v:=by
 induction r with
 |nil=>exact .nil
 |cons a _ ih=>exact .cons (a.mono h) ih
def ORep(P:Params)(z:Wd):SO→Addr→Obj→Prop
 |.lst l,_,o=>∃vs n,o=listOf vs.toArray n∧DRepL z.Z l vs
 |.accO dk l,_,o=>∃d vs n,z.as[dk]? = some d∧o=⟨.ref 262,some d,.seq vs.toArray n,#[]⟩∧DRepL z.Z l vs
 |.inst C dk,_,o=>∃d,z.as[dk]? = some d∧o=instObj C d
 |.attrs es,_,o=>∃ens,o=dictOf ens es.length∧AttrL P z es ens
 |.mat x ck,_,o=>∃t d,z.as[ck]? = some d∧o=yCg x t d
 |.cell v,_,o=>∃val,o.data = .cell (some val)∧SRep z v val
 |.tup vs,_,o=>∃vals,o=yCv vals∧SRepL z vs vals
 |.is p,a,o=>p P a o
 |.gone,_,_=>True
theorem ORep.mono{P:Params}{z z':Wd}(h:z.Le z'){so:SO}{a:Addr}{o:Obj}(r:ORep P z so a o):ORep P z' so a o:=by
 induction so with
 |lst l=>obtain ⟨vs,n,e,q⟩:=r;exact ⟨vs,n,e,q.mono h.2⟩
 |accO dk l=>obtain ⟨d,vs,n,k,e,q⟩:=r;exact ⟨d,vs,n,(by obtain ⟨a,e',e2⟩:=(SRep.mono h (sv:=.r dk) ⟨d,k,rfl⟩);cases e2;exact e'),e,q.mono h.2⟩
 |inst C dk=>obtain ⟨d,k,e⟩:=r;exact ⟨d,(by obtain ⟨a,e',e2⟩:=(SRep.mono h (sv:=.r dk) ⟨d,k,rfl⟩);cases e2;exact e'),e⟩
 |attrs es=>obtain ⟨ens,e,q⟩:=r;exact ⟨ens,e,q.mono h⟩
 |mat x ck=>obtain ⟨t,d,k,e⟩:=r;exact ⟨t,d,(by obtain ⟨a,e',e2⟩:=(SRep.mono h (sv:=.r ck) ⟨d,k,rfl⟩);cases e2;exact e'),e⟩
 |cell v=>obtain ⟨val,e,q⟩:=r;exact ⟨val,e,q.mono h⟩
 |tup vs=>obtain ⟨vals,e,q⟩:=r;exact ⟨vals,e,q.mono h⟩
 |is p=>exact r
 |gone=>trivial
inductive OReps(P:Params)(z:Wd):List SO→List Addr→List Obj→Prop
 |nil:OReps P z [] [] []
 |cons {x a o xs as os}:ORep P z x a o→OReps P z xs as os→OReps P z (x::xs) (a::as) (o::os)
theorem OReps.mono{P:Params}{z z':Wd}(h:z.Le z'){x:List SO}{as:List Addr}{os:List Obj}(r:OReps P z x as os):OReps P z' x as os:=by
 induction r with
 |nil=>exact .nil
 |cons a _ ih=>exact .cons (a.mono h) ih
noncomputable def nth:List SO→Nat→SO
 |[],_=>.gone
 |a::_,0=>a
 |_::r,n+1=>nth r n
noncomputable def upd:List SO→Nat→SO→List SO
 |[],_,_=>[]
 |_::r,0,o=>o::r
 |a::r,n+1,o=>a::upd r n o
theorem OReps.len{P:Params}{z:Wd}{x:List SO}{as:List Addr}{os:List Obj}(r:OReps P z x as os):as.length=x.length∧os.length=x.length:=by
 induction r with
 |nil=>exact ⟨rfl,rfl⟩
 |cons a _ ih=>exact ⟨congrArg (· + 1) ih.1,congrArg (· + 1) ih.2⟩
theorem OReps.append{P:Params}{z:Wd}{x y:List SO}{as bs:List Addr}{os ps:List Obj}(r:OReps P z x as os)(q:OReps P z y bs ps):OReps P z (x++y) (as++bs) (os++ps):=by
 induction r with
 |nil=>exact q
 |cons a _ ih=>exact .cons a ih
theorem OReps.at{P:Params}{z:Wd}{x:List SO}{as:List Addr}{os:List Obj}(r:OReps P z x as os):∀{k:Nat} {a:Addr},as[k]? = some a→∃o,os[k]? = some o∧ORep P z (nth x k) a o∧(a,o)∈as.zip os:=by
 induction r with
 |nil=>intro k a e;simp at e
 |cons h _ ih=>
  intro k a e
  induction k with
  |zero=>simp at e;subst e;exact ⟨_,rfl,h,.head _⟩
  |succ k=>
   obtain ⟨o,e1,e2,e3⟩:=ih (k:=k) (by simpa using e)
   exact ⟨o,by simpa using e1,e2,.tail _ e3⟩
theorem OReps.upd{P:Params}{z:Wd}{x:List SO}{as:List Addr}{os:List Obj}(r:OReps P z x as os):∀{k:Nat} {a:Addr} {so:SO} {o:Obj},as[k]? = some a→ORep P z so a o→OReps P z (Mine.upd x k so) as (os.set k o):=by
 induction r with
 |nil=>intro k a so o e;simp at e
 |cons h h2 ih=>
  intro k a so o e q
  induction k with
  |zero=>simp at e;subst e;exact .cons q h2
  |succ k=>exact .cons h (ih (k:=k) (by simpa using e) q)
structure Dist(as:List Addr)(Z R:List (Addr×Obj)):Prop where
 nd:as.Nodup
 az:∀a∈as,∀p∈Z,p.1≠a
 ar:∀a∈as,∀p∈R,p.1≠a
 zr:∀p∈Z,∀q∈R,p.1≠q.1
structure Fn where
 qual:zA0
 scope:Scope
 addr:Addr
 cdv:Value
 cl:Addr→List (zA0×Addr)
 hk:scope.kind = .function
structure Cx(fn:Fn)(d n₀:Nat) where
 w:World
 p:Program
 loose:List zA0
 mean:ExcName→Option Value
 mg:zA0→Option Value
 mb:zA0→Option Value
 dp:Nat
 un:Nat
 L:Addr
 outer:List Env
 A₀:Around
 base:Heap
 h₀:Heap
 s₀:Shared
 as₀:List Addr
 Z₀:List (Addr×Obj)
 R:List (Addr×Obj)
 B:Below A₀ base outer h₀
 X:(kW w.params).In h₀
 T:Top p loose mean mg mb h₀
 hdp:dp+d<401
 hun:un+10*d<4003
 hn:as₀.length=n₀
section
variable {fn:Fn}{d n₀:Nat}
noncomputable abbrev Cx.A(c:Cx fn d n₀):Around:=zUu c.dp c.un fn.qual fn.scope c.L fn.addr fn.cdv (fn.cl c.L) c.outer
noncomputable abbrev Cx.env(c:Cx fn d n₀):Env:=envX fn.qual fn.scope c.L fn.addr fn.cdv (fn.cl c.L)
noncomputable abbrev Cx.M(c:Cx fn d n₀):Model:=model pw c.w
inductive On(c:Cx fn d n₀)(ps:List (zA0×SV))(nx:List SO):Wd→Shared→Prop
 |mk {h tk gs m as objs Z} (F:Fr c.h₀ c.L h m) (K:∀x sv,ps.lookup x=some sv→∃v,m x=some v∧SRep ⟨as,Z⟩ sv v) (N:News c.h₀ c.L h (as.zip objs++(Z++c.R)))
  (O:OReps c.w.params ⟨as,Z⟩ nx as objs) (D:Dist as Z c.R) (G:AllBare gs) (a0:as.take n₀=c.as₀) (Z0:∀p∈c.Z₀,p∈Z):On c ps nx ⟨as,Z⟩ ⟨h,gs,c.s₀.drawn,tk,c.s₀.os⟩
abbrev noE:Value→Shared→Prop:=fun _ _=>False
def Ev(c:Cx fn d n₀)(E:Env)(ps:List (zA0×SV))(nx:List SO)(e:Expr)(v:SV)(nx':List SO):Prop:=
 ∀z s,On c ps nx z s→∀Q:Value→Shared→Prop,(∀z' s' x,z.Le z'→On c ps nx' z' s'→SRep z' v x→Q x s')→wpAny c.M c.A (eval e E) Q noE s
def EvL(c:Cx fn d n₀)(E:Env)(ps:List (zA0×SV))(nx:List SO)(es:List Expr)(vs:List SV)(nx':List SO):Prop:=
 ∀z s,On c ps nx z s→∀(pos:Pos) (Q:List Value→Shared→Prop),(∀z' s' xs,z.Le z'→On c ps nx' z' s'→SRepL z' vs xs→Q xs s')→wpAny c.M c.A (spliced (backTo pos (starEach es E))) Q noE s
def EvB(c:Cx fn d n₀)(E:Env)(ps:List (zA0×SV))(nx:List SO)(e:Expr)(b:Bool)(nx':List SO):Prop:=
 ∀z s,On c ps nx z s→∀Q:Bool→Shared→Prop,(∀z' s',z.Le z'→On c ps nx' z' s'→Q b s')→wpAny c.M c.A (isTrue e E (eval e E)) Q noE s
def Ex(c:Cx fn d n₀)(ps:List (zA0×SV))(nx:List SO)(st:Stmt)(ps':List (zA0×SV))(nx':List SO):Prop:=
 ∀z s,On c ps nx z s→∀Q:Flow→Shared→Prop,(∀z' s',On c ps' nx' z' s'→Q .next s')→wpAny c.M c.A (exec st c.env) Q noE s
def wpB(c:Cx fn d n₀)(Q:Flow→Shared→Prop):List (List Stmt)→Shared→Prop
 |[],s=>Q .next s
 |b::bs,s=>wpAny c.M c.A (execs b c.env) (fun f s'=>match f with | .next=>wpB c Q bs s'|f=>Q f s') noE s
def J(c:Cx fn d n₀)(Q:Flow→Shared→Prop)(ps:List (zA0×SV))(nx:List SO)(bs:List (List Stmt)):Prop:=∀z s,On c ps nx z s→wpB c Q bs s
variable {c:Cx fn d n₀}{ps:List (zA0×SV)}{nx nx' nx₁:List SO}{Q:Flow→Shared→Prop}{bs:List (List Stmt)}{rest:List Stmt}
theorem J.seq{st:Stmt}{ps':List (zA0×SV)}(h:Ex c ps nx st ps' nx')(k:J c Q ps' nx' (rest::bs)):J c Q ps nx ((st::rest)::bs):=
 fun z s O=>wpAny_execs_cons (h z s O _ fun z' s' O'=>k z' s' O')
theorem J.pop(k:J c Q ps nx bs):J c Q ps nx ([]::bs):=fun z s O=>wpAny_execs_nil (k z s O)
theorem J.ret{e:Expr}{pos:Pos}{v:SV}(h:Ev c c.env ps nx e v nx')(k:∀z s x,On c ps nx' z s→SRep z v x→Q (.ret x) s):J c Q ps nx ((.Return (some e) pos::rest)::bs):=
 fun z s O=>wpAny_execs_cons (wpAny_Return_some (h z s O _ fun z' s' x _ O' r=>k z' s' x O' r))
theorem J.ret0{pos:Pos}(k:∀z s,On c ps nx z s→Q (.ret .none) s):J c Q ps nx ((.Return none pos::rest)::bs):=
 fun z s O=>wpAny_execs_cons (wpAny_Return_none (k z s O))
theorem J.brk{pos:Pos}(k:∀z s,On c ps nx z s→Q .brk s):J c Q ps nx ((.Break pos::rest)::bs):=fun z s O=>wpAny_execs_cons (show wpAny _ _ (exec (.Break pos) _) _ _ _ from fun _ _ _=>k z s O)
end
section
variable {E:Env}{fn:Fn}{d n₀:Nat}{c:Cx fn d n₀}{ps:List (zA0×SV)}{nx nx' nx₁ nx₂:List SO}{z:Wd}{s:Shared}{e l r:Expr}{pos px:Pos}{v v₁ v₂:SV}{x:zA0}{Q:Flow→Shared→Prop}{bs:List (List Stmt)}{rest body orelse:List Stmt}
theorem On.toks(O:On c ps nx z s)(t:Nat):On c ps nx z {s with toks:=t}:=by
 induction O with|mk F K N O D G a0 Z0=>exact .mk F K N O D G a0 Z0
theorem On.top(O:On c ps nx z s):(kW c.w.params).In s.heap:=by
 induction O with|mk F K N O D G a0 Z0=>exact c.X.keeps F.keep
theorem On.names{ps':List (zA0×SV)}(O:On c ps nx z s)(h:∀x sv,ps'.lookup x=some sv→ps.lookup x=some sv):On c ps' nx z s:=by
 induction O with|mk F K N O D G a0 Z0=>exact .mk F (fun x sv e=>K x sv (h x sv e)) N O D G a0 Z0
theorem zB5(O:On c ps nx z s){a:Value}(hv:SRep z v a){Q:Unit→Shared→Prop}(h:∀s',On c ((x,v)::ps) nx z s'→Q () s')(hx:fn.scope.names.lookup x=some .local):wpAny c.M c.A (storeName c.env x a) Q noE s:=by
 induction O with
 |mk F K N O D G a0 Z0=>
  refine storeX_L F N (fun h' F' N'=>h _ (.mk F' (fun y sv e=>?_) N' O D G a0 Z0)) fn.hk hx
  rw [lookup_cons] at e
  cases hyx:y==x with
  |true=>
   rw [hyx] at e
   cases e
   exact ⟨a,if_pos (beq_iff_eq.mp hyx),hv⟩
  |false=>
   rw [hyx] at e
   obtain ⟨a',e',r'⟩:=K y sv e
   exact ⟨a',(if_neg fun q=>by rw [beq_iff_eq.mpr q] at hyx;cases hyx).trans e',r'⟩
theorem Ev.loc(h:ps.lookup x=some v)(hx:autoParam (fn.scope.names.lookup x=some .local) T0R)(hd:autoParam ((x==("__debug__" : Str))=false) T0R):Ev c c.env ps nx (.Name x px) v nx:=by
 rintro z s O Q k
 have O':=O
 induction O with
 |mk F K N O D G a0 Z0=>
  obtain ⟨a,e,r⟩:=K x v h
  exact nameX_L F e (k _ _ _ (.refl _) O' r) fn.hk hx hd
theorem Ev.glob{g:Value}(e:∀P,nsIn (kW P) mainGlobals x=some (some g))(hx:autoParam (fn.scope.names.lookup x=some .globalImplicit) T0R)(hd:autoParam ((x==("__debug__" : Str))=false) T0R):Ev c c.env ps nx (.Name x px) (.v g) nx:=by
 rintro z s O Q k
 have O':=O
 induction O with
 |mk F K N O D G a0 Z0=>exact nameX_K F c.X (topRead_of c.T) (e _) (k _ _ _ (.refl _) O' rfl) fn.hk hx hd
theorem Ev.built{g:Value}(e:∀P,nsIn (kW P) mainGlobals x=some none)(hv:bootBuiltins x=some g)(hn:x≠"__name__")(hx:autoParam (fn.scope.names.lookup x=some .globalImplicit) T0R)(hd:autoParam ((x==("__debug__" : Str))=false) T0R):Ev c c.env ps nx (.Name x px) (.v g) nx:=by
 rintro z s O Q k
 have O':=O
 induction O with
 |mk F K N O D G a0 Z0=>exact nameX_B F c.X (topRead_of c.T) (e _) hv hn (k _ _ _ (.refl _) O' rfl) fn.hk hx hd
theorem Ev.int{i:Int}{k:Nat}:Ev c E ps nx (.Constant (.int i) k px) (.d (.int i)) nx:=fun z s O Q k=>wpAny_Constant_int (k _ _ _ (.refl _) (O.toks _) .int)
theorem Ev.str{i:zA0}{k:Nat}:Ev c E ps nx (.Constant (.str i) k px) (.d (.str i)) nx:=fun z s O Q k=>wpAny_Constant_str (k _ _ _ (.refl _) (O.toks _) .str)
theorem Ev.non{k:Nat}:Ev c E ps nx (.Constant .none k px) (.d .none) nx:=fun z s O Q k=>wpAny_Constant_none (k _ _ _ (.refl _) O .none)
theorem Ev.bool{i:Bool}{k:Nat}:Ev c E ps nx (.Constant (.bool i) k px) (.d (.bool i)) nx:=fun z s O Q k=>wpAny_Constant_bool (k _ _ _ (.refl _) O .bool)
theorem EvL.nil:EvL c E ps nx [] [] nx:=fun z s O pos Q k=>args_nil (k _ _ _ (.refl _) O .nil)
theorem EvL.cons{es:List Expr}{vs:List SV}(h:Ev c E ps nx e v nx₁)(k:EvL c E ps nx₁ es vs nx₂)(he:autoParam (starEach (e::es) E=(false,eval e E)::starEach es E) T0R):EvL c E ps nx (e::es) (v::vs) nx₂:=
 fun z s O pos Q q=>args_cons (h z s O _ fun z₁ s₁ a₁ l₁ O₁ r₁=>k z₁ s₁ O₁ pos _ fun z₂ s₂ as l₂ O₂ rs=>q z₂ s₂ _ (l₁.trans l₂) O₂ (.cons (r₁.mono l₂) rs)) he
def BinS(c:Cx fn d n₀)(ps:List (zA0×SV))(nx:List SO)(op:Operator)(v₁ v₂ v:SV)(nx':List SO):Prop:=
 ∀z s a₁ a₂,On c ps nx z s→SRep z v₁ a₁→SRep z v₂ a₂→∀Q:Value→Shared→Prop,(∀z' s' x,z.Le z'→On c ps nx' z' s'→SRep z' v x→Q x s')→wpAny c.M c.A (binaryOp op a₁ a₂) Q noE s
def CmpS(c:Cx fn d n₀)(ps:List (zA0×SV))(nx:List SO)(op:CmpOp)(v₁ v₂:SV)(b:Bool):Prop:=
 ∀z s a₁ a₂,On c ps nx z s→SRep z v₁ a₁→SRep z v₂ a₂→∀Q:Value→Shared→Prop,(∀s',On c ps nx z s'→Q (.bool b) s')→wpAny c.M c.A (compareOp op a₁ a₂) Q noE s
def SubS(c:Cx fn d n₀)(ps:List (zA0×SV))(nx:List SO)(value slice:Expr)(v₁ v₂ v:SV):Prop:=
 ∀z s a₁ a₂,On c ps nx z s→SRep z v₁ a₁→SRep z v₂ a₂→∀Q:Value→Shared→Prop,(∀s' x,On c ps nx z s'→SRep z v x→Q x s')→wpAny c.M c.A (subscriptTail value slice a₁ a₂) Q noE s
def TruS(c:Cx fn d n₀)(ps:List (zA0×SV))(nx:List SO)(v:SV)(b:Bool):Prop:=
 ∀z s a,On c ps nx z s→SRep z v a→∀Q:Bool→Shared→Prop,(∀z' s',z.Le z'→On c ps nx z' s'→Q b s')→wpAny c.M c.A (truthy a) Q noE s
def CallS(c:Cx fn d n₀)(ps:List (zA0×SV))(nx:List SO)(f:Value)(vs:List SV)(kw:List (zA0×Value))(v:SV)(nx':List SO):Prop:=
 ∀z s xs,On c ps nx z s→SRepL z vs xs→∀Q:Value→Shared→Prop,(∀z' s' x,z.Le z'→On c ps nx' z' s'→SRep z' v x→Q x s')→wpAny c.M c.A (call f xs kw) Q noE s
theorem Ev.bin{op:Operator}(hl:Ev c E ps nx l v₁ nx₁)(hr:Ev c E ps nx₁ r v₂ nx₂)(ho:BinS c ps nx₂ op v₁ v₂ v nx'):Ev c E ps nx (.BinOp l op r pos) v nx':=
 fun z s O Q k=>wpAny_BinOp (hl z s O _ fun z₁ s₁ a₁ l₁ O₁ r₁=>hr z₁ s₁ O₁ _ fun z₂ s₂ a₂ l₂ O₂ r₂=>ho z₂ s₂ a₁ a₂ O₂ (r₁.mono l₂) r₂ _ fun z₃ s₃ a₃ l₃ O₃ r₃=>k z₃ s₃ a₃ ((l₁.trans l₂).trans l₃) O₃ r₃)
theorem Ev.cmp{op:CmpOp}{b:Bool}(hl:Ev c E ps nx l v₁ nx₁)(hr:Ev c E ps nx₁ r v₂ nx₂)(ho:CmpS c ps nx₂ op v₁ v₂ b)(hm:autoParam (behindInMarks op r=false) T0W):Ev c E ps nx (.Compare l [op] [r] pos) (.d (.bool b)) nx₂:=
 fun z s O Q k=>wpAny_Compare1 (hl z s O _ fun z₁ s₁ a₁ l₁ O₁ r₁=>hr z₁ s₁ O₁ _ fun z₂ s₂ a₂ l₂ O₂ r₂=>ho z₂ s₂ a₁ a₂ O₂ (r₁.mono l₂) r₂ _ fun s₃ O₃=>k z₂ s₃ _ (l₁.trans l₂) O₃ .bool) hm
theorem EvB.cmp{op:CmpOp}{b:Bool}(hl:Ev c E ps nx l v₁ nx₁)(hr:Ev c E ps nx₁ r v₂ nx₂)(ho:CmpS c ps nx₂ op v₁ v₂ b)(hm:autoParam (behindInMarks op r=false) T0W):EvB c E ps nx (.Compare l [op] [r] pos) b nx₂:=
 fun z s O Q k=>wpAny_isTrue_Compare1 (hl z s O _ fun z₁ s₁ a₁ l₁ O₁ r₁=>hr z₁ s₁ O₁ _ fun z₂ s₂ a₂ l₂ O₂ r₂=>ho z₂ s₂ a₁ a₂ O₂ (r₁.mono l₂) r₂ _ fun s₃ O₃=>wpAny_truthy_bool (k z₂ s₃ (l₁.trans l₂) O₃)) hm
theorem EvB.plain{b:Bool}(h:Ev c E ps nx e v nx')(ht:TruS c ps nx' v b)(he:autoParam (∀whole,isTrue e E whole=(do let v ←whole;standAt e.pos;holding [v] (truthy v))) T0I):EvB c E ps nx e b nx':=
 fun z s O Q k=>isTrue_plain (h z s O _ fun z₁ s₁ a₁ l₁ O₁ r₁=>ht z₁ s₁ a₁ O₁ r₁ _ fun z₂ s₂ l₂ O₂=>k z₂ s₂ (l₁.trans l₂) O₂) (he _)
theorem EvB.not{b:Bool}(h:EvB c E ps nx e b nx'):EvB c E ps nx (.UnaryOp .Not e pos) (!b) nx':=
 fun z s O Q k=>isTrue_not (h z s O _ fun z₁ s₁ l₁ O₁=>k z₁ s₁ l₁ O₁)
theorem EvB.andN:EvB c E ps nx (.BoolOp .And [] pos) true nx:=fun z s O Q k=>isTrue_and_nil (k z s (.refl _) O)
theorem EvB.and{b b':Bool}{es:List Expr}(h:EvB c E ps nx e b nx)(h':b=true→EvB c E ps nx (.BoolOp .And es pos) b' nx):EvB c E ps nx (.BoolOp .And (e::es) pos) (b&&b') nx:=
 fun z s O Q k=>isTrue_and (h z s O _ fun z₁ s₁ l₁ O₁=>by
  induction b with
  |true=>exact h' rfl z₁ s₁ O₁ _ fun z₂ s₂ l₂ O₂=>k z₂ s₂ (l₁.trans l₂) O₂
  |false=>exact k z₁ s₁ l₁ O₁)
theorem EvB.orN:EvB c E ps nx (.BoolOp .Or [] pos) false nx:=fun z s O Q k=>isTrue_or_nil (k z s (.refl _) O)
theorem EvB.or{b b':Bool}{es:List Expr}(h:EvB c E ps nx e b nx)(h':b=false→EvB c E ps nx (.BoolOp .Or es pos) b' nx):EvB c E ps nx (.BoolOp .Or (e::es) pos) (b || b') nx:=
 fun z s O Q k=>isTrue_or (h z s O _ fun z₁ s₁ l₁ O₁=>by
  induction b with
  |false=>exact h' rfl z₁ s₁ O₁ _ fun z₂ s₂ l₂ O₂=>k z₂ s₂ (l₁.trans l₂) O₂
  |true=>exact k z₁ s₁ l₁ O₁)
theorem EvB.orF{b b':Bool}{es:List Expr}(h:EvB c E ps nx e b nx₁)(hb:b=false)(h':EvB c E ps nx₁ (.BoolOp .Or es pos) b' nx'):EvB c E ps nx (.BoolOp .Or (e::es) pos) b' nx':=
 fun z s O Q k=>isTrue_or (h z s O _ fun z₁ s₁ l₁ O₁=>by
  subst hb
  exact h' z₁ s₁ O₁ _ fun z₂ s₂ l₂ O₂=>k z₂ s₂ (l₁.trans l₂) O₂)
theorem Ev.ift{t f:Expr}(h:EvB c E ps nx e true nx₁)(k:Ev c E ps nx₁ t v nx'):Ev c E ps nx (.IfExp e t f pos) v nx':=
 fun z s O Q q=>wpAny_IfExp (h z s O _ fun z₁ s₁ l₁ O₁=>k z₁ s₁ O₁ _ fun z₂ s₂ a l₂ O₂ r=>q z₂ s₂ a (l₁.trans l₂) O₂ r)
theorem Ev.iff{t f:Expr}(h:EvB c E ps nx e false nx₁)(k:Ev c E ps nx₁ f v nx'):Ev c E ps nx (.IfExp e t f pos) v nx':=
 fun z s O Q q=>wpAny_IfExp (h z s O _ fun z₁ s₁ l₁ O₁=>k z₁ s₁ O₁ _ fun z₂ s₂ a l₂ O₂ r=>q z₂ s₂ a (l₁.trans l₂) O₂ r)
theorem Ev.sub(hl:Ev c E ps nx l v₁ nx₁)(hr:Ev c E ps nx₁ r v₂ nx₂)(ho:SubS c ps nx₂ l r v₁ v₂ v):Ev c E ps nx (.Subscript l r pos) v nx₂:=
 fun z s O Q k=>Subscript_ (hl z s O _ fun z₁ s₁ a₁ l₁ O₁ r₁=>hr z₁ s₁ O₁ _ fun z₂ s₂ a₂ l₂ O₂ r₂=>ho z₂ s₂ a₁ a₂ O₂ (r₁.mono l₂) r₂ _ fun s₃ a₃ O₃ r₃=>k z₂ s₃ a₃ (l₁.trans l₂) O₃ r₃)
theorem J.ite{b:Bool}(h:EvB c c.env ps nx e b nx')(k1:b=true→J c Q ps nx' (body::rest::bs))(k2:b=false→J c Q ps nx' (orelse::rest::bs)):J c Q ps nx ((.If e body orelse pos::rest)::bs):=
 fun z s O=>wpAny_execs_cons (wpAny_If (h z s O _ fun z₁ s₁ l₁ O₁=>by
  induction b with
  |true=>exact wpAny_mono (k1 rfl z₁ s₁ O₁) (fun f s h=>by induction f<;>exact h) fun _ _ x=>x
  |false=>exact wpAny_mono (k2 rfl z₁ s₁ O₁) (fun f s h=>by induction f<;>exact h) fun _ _ x=>x))
theorem J.ift{b:Bool}(h:EvB c c.env ps nx e b nx')(hb:b=true)(k1:J c Q ps nx' (body::rest::bs)):J c Q ps nx ((.If e body orelse pos::rest)::bs):=J.ite h (fun _=>k1) fun h=>nomatch hb.symm.trans h
theorem J.iff{b:Bool}(h:EvB c c.env ps nx e b nx')(hb:b=false)(k1:J c Q ps nx' (orelse::rest::bs)):J c Q ps nx ((.If e body orelse pos::rest)::bs):=J.ite h (fun h=>nomatch hb.symm.trans h) fun _=>k1
theorem Ex.assign(h:Ev c c.env ps nx e v nx')(hx:autoParam (fn.scope.names.lookup x=some .local) T0R)(hs:autoParam (swapsWith e (some (.Name x px)) pos.line c.env=pure false) T0R):Ex c ps nx (.Assign [.Name x px] e pos) ((x,v)::ps) nx':=
 fun z s O Q k=>wpAny_Assign_Name (h z s O _ fun z₁ s₁ a l₁ O₁ r=>zB5 O₁ r (fun s₂ O₂=>k z₁ s₂ O₂) hx) hs
theorem Ex.expr(h:Ev c c.env ps nx e (.d .none) nx')(hi:autoParam (interactive c.env=false) T0R)(hs:autoParam (swapsWith e none pos.line c.env=pure false) T0R):Ex c ps nx (.Expr e pos) ps nx':=
 fun z s O Q k=>wpAny_Expr (h z s O _ fun z₁ s₁ a l₁ O₁ r=>by cases DRep.none_ r;exact k z₁ s₁ O₁) hi hs
theorem BinS.addI{i j:Int}:BinS c ps nx .Add (.d (.int i)) (.d (.int j)) (.d (.int (i+j))) nx:=fun z s a b O h1 h2 Q k=>by
 obtain ⟨t,rfl⟩:=DRep.int_ h1
 obtain ⟨u,rfl⟩:=DRep.int_ h2
 exact add_int (k z _ _ (.refl _) (O.toks _) .int)
theorem BinS.subI{i j:Int}:BinS c ps nx .Sub (.d (.int i)) (.d (.int j)) (.d (.int (i-j))) nx:=fun z s a b O h1 h2 Q k=>by
 obtain ⟨t,rfl⟩:=DRep.int_ h1
 obtain ⟨u,rfl⟩:=DRep.int_ h2
 exact sub_int (k z _ _ (.refl _) (O.toks _) .int)
theorem BinS.fdI{i j:Int}(h0:j≠0)(hp:Builtin.divisionGoesByPylong i j=false):BinS c ps nx .FloorDiv (.d (.int i)) (.d (.int j)) (.d (.int (i.fdiv j))) nx:=fun z s a b O h1 h2 Q k=>by
 obtain ⟨t,rfl⟩:=DRep.int_ h1
 obtain ⟨u,rfl⟩:=DRep.int_ h2
 exact floordiv_int h0 (k z _ _ (.refl _) (O.toks _) .int) (.inl hp)
theorem BinS.addT{i j:zA0}(h:i.length+j.length≤sizeLine):BinS c ps nx .Add (.d (.str i)) (.d (.str j)) (.d (.str (i++j))) nx:=fun z s a b O h1 h2 Q k=>by
 obtain ⟨t,rfl⟩:=DRep.str_ h1
 obtain ⟨u,rfl⟩:=DRep.str_ h2
 exact PyProof.Rows.add_str (fun t' tk=>k z _ _ (.refl _) (O.toks _) .str) h
theorem CmpS.ltI{i j:Int}:CmpS c ps nx .Lt (.d (.int i)) (.d (.int j)) (decide (i<j)):=fun z s a b O h1 h2 Q k=>by
 obtain ⟨t,rfl⟩:=DRep.int_ h1
 obtain ⟨u,rfl⟩:=DRep.int_ h2
 exact lt_int (k _ O)
theorem CmpS.gtI{i j:Int}:CmpS c ps nx .Gt (.d (.int i)) (.d (.int j)) (decide (j<i)):=fun z s a b O h1 h2 Q k=>by
 obtain ⟨t,rfl⟩:=DRep.int_ h1
 obtain ⟨u,rfl⟩:=DRep.int_ h2
 exact gt_int (k _ O)
theorem CmpS.geI{i j:Int}:CmpS c ps nx .GtE (.d (.int i)) (.d (.int j)) (decide (j≤i)):=fun z s a b O h1 h2 Q k=>by
 obtain ⟨t,rfl⟩:=DRep.int_ h1
 obtain ⟨u,rfl⟩:=DRep.int_ h2
 exact ge_int (k _ O)
theorem CmpS.eqI{i j:Int}:CmpS c ps nx .Eq (.d (.int i)) (.d (.int j)) (i==j):=fun z s a b O h1 h2 Q k=>by
 obtain ⟨t,rfl⟩:=DRep.int_ h1
 obtain ⟨u,rfl⟩:=DRep.int_ h2
 exact eq_int (k _ O)
theorem CmpS.eqT{i j:zA0}:CmpS c ps nx .Eq (.d (.str i)) (.d (.str j)) (i==j):=fun z s a b O h1 h2 Q k=>by
 obtain ⟨t,rfl⟩:=DRep.str_ h1
 obtain ⟨u,rfl⟩:=DRep.str_ h2
 exact PyProof.Rows.eq_str (k _ O)
theorem CmpS.neT{i j:zA0}:CmpS c ps nx .NotEq (.d (.str i)) (.d (.str j)) (i != j):=fun z s a b O h1 h2 Q k=>by
 obtain ⟨t,rfl⟩:=DRep.str_ h1
 obtain ⟨u,rfl⟩:=DRep.str_ h2
 exact PyProof.Rows.ne_str (k _ O)
theorem TruS.bool{b:Bool}:TruS c ps nx (.d (.bool b)) b:=fun z s a O h1 Q k=>by
 cases DRep.bool_ h1
 exact wpAny_truthy_bool (k _ _ (.refl _) O)
theorem TruS.non:TruS c ps nx (.d .none) false:=fun z s a O h1 Q k=>by
 cases DRep.none_ h1
 exact truthy_none (k _ _ (.refl _) O)
theorem Ev.not{b:Bool}(h:Ev c E ps nx e v nx')(ht:TruS c ps nx' v b):Ev c E ps nx (.UnaryOp .Not e pos) (.d (.bool (!b))) nx':=
 fun z s O Q k=>wpAny_UnaryOp (h z s O _ fun z₁ s₁ a l₁ O₁ r=>not_of (ht z₁ s₁ a O₁ r _ fun z₂ s₂ l₂ O₂=>k z₂ s₂ _ (l₁.trans l₂) O₂ .bool))
theorem Ev.one{op:BoolOp}(h:Ev c E ps nx e v nx'):Ev c E ps nx (.BoolOp op [e] pos) v nx':=fun z s O Q k=>BoolOp_one (h z s O Q k)
theorem Ev.and{b b':Bool}{e₂:Expr}{es:List Expr}(h:Ev c E ps nx e (.d (.bool b)) nx)(k:b=true→Ev c E ps nx (.BoolOp .And (e₂::es) pos) (.d (.bool b')) nx):Ev c E ps nx (.BoolOp .And (e::e₂::es) pos) (.d (.bool (b&&b'))) nx:=
 fun z s O Q q=>BoolOp_and (h z s O _ fun z₁ s₁ a l₁ O₁ r=>by
  cases DRep.bool_ r
  refine wpAny_truthy_bool ?_
  induction b with
  |true=>exact k rfl z₁ s₁ O₁ _ fun z₂ s₂ a l₂ O₂ r₂=>q z₂ s₂ a (l₁.trans l₂) O₂ r₂
  |false=>exact q z₁ s₁ _ l₁ O₁ .bool)
theorem Ev.or{b b':Bool}{e₂:Expr}{es:List Expr}(h:Ev c E ps nx e (.d (.bool b)) nx)(k:b=false→Ev c E ps nx (.BoolOp .Or (e₂::es) pos) (.d (.bool b')) nx):Ev c E ps nx (.BoolOp .Or (e::e₂::es) pos) (.d (.bool (b || b'))) nx:=
 fun z s O Q q=>BoolOp_or (h z s O _ fun z₁ s₁ a l₁ O₁ r=>by
  cases DRep.bool_ r
  refine wpAny_truthy_bool ?_
  induction b with
  |false=>exact k rfl z₁ s₁ O₁ _ fun z₂ s₂ a l₂ O₂ r₂=>q z₂ s₂ a (l₁.trans l₂) O₂ r₂
  |true=>exact q z₁ s₁ _ l₁ O₁ .bool)
end
noncomputable def SV.ren(ρ:Nat→Nat):SV→SV
 |.r k=>.r (ρ k)
 |x=>x
noncomputable def SO.ren(ρ:Nat→Nat):SO→SO
 |.accO dk l=>.accO (ρ dk) l
 |.inst C dk=>.inst C (ρ dk)
 |.attrs es=>.attrs (es.map fun p=>(p.1,p.2.ren ρ))
 |.mat x ck=>.mat x (ρ ck)
 |.cell v=>.cell (v.ren ρ)
 |.tup vs=>.tup (vs.map (SV.ren ρ))
 |x=>x
noncomputable def rho:List Nat→Nat→Nat→Nat
 |[],n,j=>n+j
 |k::_,_,0=>k
 |_::σ,n,j+1=>rho σ n j
noncomputable def zXm(ρ:Nat→Nat):List Nat→List SO→List SO→List SO
 |[],new,nx=>nx++new.map (SO.ren ρ)
 |k::σ,new,nx=>match new with
  |o::new=>zXm ρ σ new (upd nx k (o.ren ρ))
  |[]=>nx
noncomputable def okS:List Nat→Nat→Bool
 |[],_=>true
 |k::σ,n=>blt k n && !σ.contains k&&okS σ n
theorem zQ2:∀{σ:List Nat} {n:Nat},okS σ n=true→σ.Nodup∧∀k∈σ,k<n
 |[],_,_=>⟨.nil,fun _ h=>nomatch h⟩
 |k::σ,n,h=>by
  simp only [okS,and_eq_true,Bool.not_eq_true',blt_eq] at h
  obtain ⟨⟨a,b⟩,e⟩:=h
  obtain ⟨i,j⟩:=zQ2 e
  refine ⟨nodup_cons.mpr ⟨fun q=>?_,i⟩,List.forall_mem_cons.mpr ⟨a,j⟩⟩
  rw [List.contains_iff_mem.mpr q] at b
  cases b
theorem SRep.ren{a b:List Addr}{Z:List (Addr×Obj)}{ρ:Nat→Nat}(h:∀j,a[j]? = b[ρ j]?){sv:SV}{v:Value}:SRep ⟨a,Z⟩ sv v↔SRep ⟨b,Z⟩ (sv.ren ρ) v:=by
 induction sv with
 |d x=>exact Iff.rfl
 |r k=>show (∃q,a[k]? = some q∧_)↔∃q,b[ρ k]? = some q∧_;rw [h]
 |v x=>exact Iff.rfl
theorem SRepL.ren{a b:List Addr}{Z:List (Addr×Obj)}{ρ:Nat→Nat}(h:∀j,a[j]? = b[ρ j]?):∀{svs:List SV} {vs:List Value},SRepL ⟨b,Z⟩ (svs.map (SV.ren ρ)) vs→SRepL ⟨a,Z⟩ svs vs
 |[],_,k=>by rw [k.nil_];exact .nil
 |x::xs,_,k=>by obtain ⟨v,us,rfl,p,q⟩:=k.cons_;exact .cons ((SRep.ren h).mpr p) (SRepL.ren h q)
theorem SRepL.renM{a b:List Addr}{Z:List (Addr×Obj)}{ρ:Nat→Nat}(h:∀j,a[j]? = b[ρ j]?):∀{svs:List SV} {vs:List Value},SRepL ⟨a,Z⟩ svs vs→SRepL ⟨b,Z⟩ (svs.map (SV.ren ρ)) vs
 |[],_,k=>by rw [k.nil_];exact .nil
 |x::xs,_,k=>by obtain ⟨v,us,rfl,p,q⟩:=k.cons_;exact .cons ((SRep.ren h).mp p) (SRepL.renM h q)
theorem AttrL.ren{P:Params}{a b:List Addr}{Z:List (Addr×Obj)}{ρ:Nat→Nat}(h:∀j,a[j]? = b[ρ j]?):∀{es:List (zA0×SV)} {ens:List DictEntry},AttrL P ⟨a,Z⟩ es ens↔AttrL P ⟨b,Z⟩ (es.map fun p=>(p.1,p.2.ren ρ)) ens
 |[],_=>⟨fun | .nil=>.nil,fun | .nil=>.nil⟩
 |(x,sv)::es,_=>⟨fun | .cons p q=>.cons ((SRep.ren h).mp p) ((AttrL.ren h).mp q),fun | .cons p q=>.cons ((SRep.ren h).mpr p) ((AttrL.ren h).mpr q)⟩
theorem ORep.ren{P:Params}{a b:List Addr}{Z:List (Addr×Obj)}{ρ:Nat→Nat}(h:∀j,a[j]? = b[ρ j]?){so:SO}{q:Addr}{o:Obj}:ORep P ⟨a,Z⟩ so q o↔ORep P ⟨b,Z⟩ (so.ren ρ) q o:=by
 induction so with
 |lst l=>exact Iff.rfl
 |accO dk l=>show (∃d vs n,a[dk]? = some d∧_)↔∃d vs n,b[ρ dk]? = some d∧_;rw [h]
 |inst C dk=>show (∃d,a[dk]? = some d∧_)↔∃d,b[ρ dk]? = some d∧_;rw [h]
 |attrs es=>
  show (∃ens,o=dictOf ens es.length∧_)↔∃ens,o=dictOf ens (es.map fun p=>(p.1,p.2.ren ρ)).length∧_
  rw [length_map]
  exact ⟨fun ⟨ens,e,k⟩=>⟨ens,e,(AttrL.ren h).mp k⟩,fun ⟨ens,e,k⟩=>⟨ens,e,(AttrL.ren h).mpr k⟩⟩
 |mat x ck=>show (∃t d,a[ck]? = some d∧_)↔∃t d,b[ρ ck]? = some d∧_;rw [h]
 |cell v=>exact ⟨fun ⟨x,e,k⟩=>⟨x,e,(SRep.ren h).mp k⟩,fun ⟨x,e,k⟩=>⟨x,e,(SRep.ren h).mpr k⟩⟩
 |tup vs=>exact ⟨fun ⟨x,e,k⟩=>⟨x,e,SRepL.renM h k⟩,fun ⟨x,e,k⟩=>⟨x,e,SRepL.ren h k⟩⟩
 |is p=>exact Iff.rfl
 |gone=>exact Iff.rfl
theorem OReps.renM{P:Params}{a b:List Addr}{Z:List (Addr×Obj)}{ρ:Nat→Nat}(h:∀j,a[j]? = b[ρ j]?){nx:List SO}{as:List Addr}{os:List Obj}(r:OReps P ⟨a,Z⟩ nx as os):OReps P ⟨b,Z⟩ (nx.map (SO.ren ρ)) as os:=by
 induction r with
 |nil=>exact .nil
 |cons x _ ih=>exact .cons ((ORep.ren h).mp x) ih
noncomputable def zNc:List Nat→List Obj→List Obj→List Obj
 |[],new,os=>os++new
 |k::σ,new,os=>match new with
  |o::new=>zNc σ new (os.set k o)
  |[]=>os
theorem zJs{P:Params}{z:Wd}{ρ:Nat→Nat}:∀{σ:List Nat} {nx new:List SO} {as as':List Addr} {os os':List Obj},OReps P z nx as os→OReps P z (new.map (SO.ren ρ)) as' os'→σ.length≤new.length→(∀(j k:Nat),σ[j]? = some k→as[k]? = as'[j]?)→
  OReps P z (zXm ρ σ new nx) (as++as'.drop σ.length) (zNc σ os' os)
 |[],nx,new,as,as',os,os',h,k,_,_=>h.append k
 |k::σ,nx,[],as,as',os,os',h,q,hl,e=>by simp at hl
 |k::σ,nx,o::new,as,a::as',os,ob::os',h,.cons q q2,hl,e=>by
  have e0:as[k]? = some a:=e 0 k rfl
  exact zJs (σ:=σ) (nx:=upd nx k (o.ren ρ)) (new:=new) (as':=as') (os:=os.set k ob) (os':=os') (h.upd e0 q) q2 (Nat.le_of_succ_le_succ hl) fun j i hj=>e (j+1) i hj
theorem scatO_in:∀{σ:List Nat} {os os':List Obj} {i:Nat} {o:Obj},(zNc σ os' os)[i]? = some o→σ.length≤os'.length→σ.Nodup→(∀k∈σ,k<os.length)→(i∉σ∧os[i]? = some o)∨(∃j:Nat,σ[j]? = some i∧os'[j]? = some o)∨(os.length≤i∧os'[i-os.length+σ.length]? = some o)
 |[],os,os',i,o,h,_,_,_=>by
  by_cases hi:i<os.length
  ·rw [zNc,getElem?_append_left hi] at h
   exact .inl ⟨by simp,h⟩
  ·rw [zNc,getElem?_append_right (le_of_not_lt hi)] at h
   exact .inr (.inr ⟨le_of_not_lt hi,h⟩)
 |k::σ,os,[],i,o,h,hl,_,_=>by simp at hl
 |k::σ,os,ob::os',i,o,h,hl,hn,hb=>by
  have hn':=nodup_cons.mp hn
  rcases scatO_in (σ:=σ) (os:=os.set k ob) (os':=os') h (Nat.le_of_succ_le_succ hl) hn'.2 (fun j hj=>by rw [List.length_set];exact hb j (.tail _ hj)) with ⟨a,b⟩|⟨j,a,b⟩|⟨a,b⟩
  ·by_cases hik:i=k
   ·subst hik
    rw [List.getElem?_set_self (hb i (.head _))] at b
    exact .inr (.inl ⟨0,rfl,b⟩)
   ·rw [List.getElem?_set_ne (Ne.symm hik)] at b
    exact .inl ⟨fun q=>by cases q with|head=>exact hik rfl|tail _ q=>exact a q,b⟩
  ·exact .inr (.inl ⟨j+1,a,b⟩)
  ·rw [List.length_set] at a b
   exact .inr (.inr ⟨a,b⟩)
noncomputable def zXi(σ:List Nat):Nat→List (Addr×Obj)→List (Addr×Obj)
 |_,[]=>[]
 |i,p::l=>if i∈σ then zXi σ (i+1) l else p::zXi σ (i+1) l
theorem offS_mem{σ:List Nat}:∀{l:List (Addr×Obj)} {i:Nat} {p:Addr×Obj},p∈zXi σ i l↔∃j:Nat,l[j]? = some p∧i+j∉σ
 |[],i,p=>by simp [zXi]
 |q::l,i,p=>by
  unfold zXi
  have ih:=@offS_mem σ l (i+1) p
  constructor
  ·intro h
   split at h
   ·obtain ⟨j,a,b⟩:=ih.mp h
    exact ⟨j+1,by simpa using a,by rw [add_comm j 1,←Nat.add_assoc];exact b⟩
   ·rename_i hi
    rcases mem_cons.mp h with rfl|h
    ·exact ⟨0,rfl,hi⟩
    ·obtain ⟨j,a,b⟩:=ih.mp h
     exact ⟨j+1,by simpa using a,by rw [add_comm j 1,←Nat.add_assoc];exact b⟩
  ·rintro ⟨j,a,b⟩
   induction j with
   |zero=>
    simp at a
    subst a
    rw [if_neg (show i∉σ from b)]
    exact .head _
   |succ j=>
    have:=ih.mpr ⟨j,by simpa using a,by rw [Nat.add_assoc,add_comm 1 j];exact b⟩
    split
    ·exact this
    ·exact .tail _ this
theorem zip_at:∀{as:List Addr} {os:List Obj} {i:Nat} {p:Addr×Obj},(as.zip os)[i]? = some p↔as[i]? = some p.1∧os[i]? = some p.2
 |as,os,i,p=>by
  rw [List.getElem?_zip_eq_some]
theorem zGv{l:List Nat}(h:l.Nodup){i j a:Nat}(e1:l[i]? = some a)(e2:l[j]? = some a):i=j:=by
 obtain ⟨h1,e1⟩:=List.getElem?_eq_some_iff.mp e1
 obtain ⟨h2,e2⟩:=List.getElem?_eq_some_iff.mp e2
 have H:=List.pairwise_iff_getElem.mp h
 rcases Nat.lt_trichotomy i j with q|q|q
 ·exact absurd (e1.trans e2.symm) (H i j h1 h2 q)
 ·exact q
 ·exact absurd (e2.trans e1.symm) (H j i h2 h1 q)
theorem yA6{l:List Nat}(h:∀i j a:Nat,l[i]? = some a→l[j]? = some a→i=j):l.Nodup:=
 List.pairwise_iff_getElem.mpr fun i j hi hj hij e=>absurd (h i j _ (getElem?_eq_getElem hi) (e▸getElem?_eq_getElem hj)) (ne_of_lt hij)
def Con(d:Nat)(f:Addr)(vs:List SV)(kw:List (zA0×Value))(nx:List SO)(r:SV)(nx':List SO):Prop:=
 ∀(fn:Fn) (dc n₀:Nat) (c:Cx fn dc n₀) (z:Wd) (s:Shared) (as:List Addr) (os:List Obj) (R:List (Addr×Obj)) (h:Heap) (m:zA0→Option Value) (tk:Nat) (gs:Array GenState) (xs:List Value) (Q:Value→Shared→Prop),d<dc→
  Fr c.h₀ c.L h m→News c.h₀ c.L h (as.zip os++(z.Z++R))→OReps c.w.params ⟨as,z.Z⟩ nx as os→Dist as z.Z R→AllBare gs→SRepL ⟨as,z.Z⟩ vs xs→
  (∀as' os' Z' h' tk' gs' x,Fr c.h₀ c.L h' m→News c.h₀ c.L h' (as'.zip os'++(Z'++R))→OReps c.w.params ⟨as',Z'⟩ nx' as' os'→Dist as' Z' R→AllBare gs'→Wd.Le ⟨as,z.Z⟩ ⟨as',Z'⟩→SRep ⟨as',Z'⟩ r x→Q x ⟨h',gs',c.s₀.drawn,tk',c.s₀.os⟩)→
  wpAny c.M c.A (call (.ref f) xs kw) Q noE ⟨h,gs,c.s₀.drawn,tk,c.s₀.os⟩
def ConK(d:Nat)(f:Addr)(vs:List SV)(kw:List (zA0×Value))(nx:List SO)(r:SV)(nx':List SO):Prop:=
 ∀(fn:Fn) (dc n₀:Nat) (c:Cx fn dc n₀) (z:Wd) (s:Shared) (as:List Addr) (os:List Obj) (R:List (Addr×Obj)) (h:Heap) (m:zA0→Option Value) (tk:Nat) (gs:Array GenState) (xs:List Value) (Q:Value→Shared→Prop),d<dc→
  Fr c.h₀ c.L h m→News c.h₀ c.L h (as.zip os++(z.Z++R))→OReps c.w.params ⟨as,z.Z⟩ nx as os→Dist as z.Z R→AllBare gs→SRepL ⟨as,z.Z⟩ vs xs→
  (∀as' os' Z' h' tk' gs' x,Fr c.h₀ c.L h' m→News c.h₀ c.L h' (as'.zip os'++(Z'++R))→OReps c.w.params ⟨as',Z'⟩ nx' as' os'→Dist as' Z' R→AllBare gs'→Wd.Le ⟨as,z.Z⟩ ⟨as',Z'⟩→SRep ⟨as',Z'⟩ r x→Q x ⟨h',gs',c.s₀.drawn,tk',c.s₀.os⟩)→
  codeAny c.M c.A (.call (.ref f) ⟨xs,kw⟩) (fun r s'=>match r with | .ok (.ret v)=>Q v s' | .ok _=>False | .error e=>noE e s') ⟨h,gs,c.s₀.drawn,tk,c.s₀.os⟩
theorem ConK.con{d:Nat}{f:Addr}{vs:List SV}{kw:List (zA0×Value)}{nx nx':List SO}{r:SV}(C:ConK d f vs kw nx r nx'):Con d f vs kw nx r nx':=
 fun fn dc n₀ c z s as os R h m tk gs xs Q hd F N O D G hx k=>wpAny_call (C fn dc n₀ c z s as os R h m tk gs xs Q hd F N O D G hx k)
theorem zQo{σ:List Nat}{n j:Nat}:rho σ n j=match σ[j]? with|some k=>k|none=>n+(j-σ.length):=by
 induction σ generalizing j with
 |nil=>simp [rho]
 |cons k σ ih=>
  induction j with
  |zero=>rfl
  |succ j=>simp [rho,ih]
section
variable {fn:Fn}{d n₀ dc:Nat}{c:Cx fn dc n₀}{ps:List (zA0×SV)}{nx nx₀ nx₁ nx':List SO}{f:Addr}{vs vs₀:List SV}{kw:List (zA0×Value)}{r:SV}(σ:List Nat)
theorem On.con{z:Wd}{s:Shared}{xs:List Value}{Q:Value→Shared→Prop}{GL:Prop}(O:On c ps nx z s)(hx:SRepL z vs xs)(k:∀z' s' x,z.Le z'→On c ps (zXm (rho σ nx.length) σ nx₁ nx) z' s'→SRep z' (r.ren (rho σ nx.length)) x→Q x s')(hσ:okS σ nx.length=true)(hl:nx₀.map (SO.ren (rho σ nx.length))=σ.map (nth nx))(hl':ble σ.length nx₁.length=true)(hv:vs₀.map (SV.ren (rho σ nx.length))=vs)(C:∀(as:List Addr) (os:List Obj) (R:List (Addr×Obj)) (h:Heap) (m:zA0→Option Value) (tk:Nat) (gs:Array GenState),s=⟨h,gs,c.s₀.drawn,tk,c.s₀.os⟩→Fr c.h₀ c.L h m→News c.h₀ c.L h (as.zip os++(z.Z++R))→OReps c.w.params ⟨as,z.Z⟩ nx₀ as os→Dist as z.Z R→AllBare gs→SRepL ⟨as,z.Z⟩ vs₀ xs→
   (∀as' os' Z' h' tk' gs' x,Fr c.h₀ c.L h' m→News c.h₀ c.L h' (as'.zip os'++(Z'++R))→OReps c.w.params ⟨as',Z'⟩ nx₁ as' os'→Dist as' Z' R→AllBare gs'→Wd.Le ⟨as,z.Z⟩ ⟨as',Z'⟩→SRep ⟨as',Z'⟩ r x→Q x ⟨h',gs',c.s₀.drawn,tk',c.s₀.os⟩)→GL):GL:=by
 subst hv
 induction O with
 |@mk h tk gs m as os Z F K N O D G a0 Z0=>
  obtain ⟨nd,hb⟩:=zQ2 hσ
  obtain ⟨la,lo⟩:=O.len
  have lz:nx₀.length=σ.length:=by have:=congrArg List.length hl;simpa using this
  have hbs:∀k∈σ,k<as.length:=fun k hk=>la▸hb k hk
  have hbo:∀k∈σ,k<os.length:=fun k hk=>lo▸hb k hk
  let as₀:=σ.map fun k=>as.getD k 0
  let os₀:=σ.map fun k=>os.getD k default
  have aat:∀(j k:Nat),σ[j]? = some k→as[k]? = as₀[j]? := fun j k e=>by
   have hk:=hbs k (mem_of_getElem? e)
   show _=(σ.map _)[j]?
   rw [getElem?_map,e,getElem?_eq_getElem hk]
   show _=some (as.getD k 0)
   rw [getD_eq_getElem?_getD,getElem?_eq_getElem hk]
   rfl
  have oat:∀(j k:Nat),σ[j]? = some k→os[k]? = os₀[j]? := fun j k e=>by
   have hk:=hbo k (mem_of_getElem? e)
   show _=(σ.map _)[j]?
   rw [getElem?_map,e,getElem?_eq_getElem hk]
   show _=some (os.getD k default)
   rw [getD_eq_getElem?_getD,getElem?_eq_getElem hk]
   rfl
  have ren₀:∀j,as₀[j]? = as[rho σ nx.length j]? := fun j=>by
   rw [zQo]
   cases e:σ[j]? with
   |some k=>exact (aat j k e).symm
   |none=>
    rw [getElem?_eq_none (by have:=List.getElem?_eq_none_iff.mp e;simpa [as₀] using this),getElem?_eq_none (by rw [la];exact Nat.le_add_right _ _)]
  have zin:∀p∈as₀.zip os₀,∃(j k:Nat),σ[j]? = some k∧as[k]? = some p.1∧os[k]? = some p.2:=fun p hp=>by
   obtain ⟨j,hj⟩:=getElem?_of_mem hp
   obtain ⟨e1,e2⟩:=zip_at.mp hj
   have hj':j<σ.length:=by have:=(List.getElem?_eq_some_iff.mp e1).1;simpa [as₀] using this
   exact ⟨j,σ[j],getElem?_eq_getElem hj',(aat j _ (getElem?_eq_getElem hj')).trans e1,(oat j _ (getElem?_eq_getElem hj')).trans e2⟩
  let rest:=zXi σ 0 (as.zip os)
  have rin:∀p∈rest,∃k:Nat,k∉σ∧as[k]? = some p.1∧os[k]? = some p.2:=fun p hp=>by
   obtain ⟨j,e,hj⟩:=offS_mem.mp hp
   rw [zero_add] at hj
   exact ⟨j,hj,zip_at.mp e⟩
  have inz:∀k p,as[k]? = some p.1→os[k]? = some p.2→p∈as.zip os:=fun k p e1 e2=>mem_of_getElem? (zip_at.mpr ⟨e1,e2⟩)
  have O₀:OReps c.w.params ⟨as₀,Z⟩ nx₀ as₀ os₀:=by
   have key:∀(τ:List Nat) (ny:List SO),(∀k∈τ,k<as.length)→ny.map (SO.ren (rho σ nx.length))=τ.map (nth nx)→OReps c.w.params ⟨as₀,Z⟩ ny (τ.map fun k=>as.getD k 0) (τ.map fun k=>os.getD k default):=by
    intro τ
    induction τ with
    |nil=>intro ny _ e;induction ny with|nil=>exact .nil|cons a b=>simp at e
    |cons k τ ih=>
     intro ny hk e
     induction ny with
     |nil=>simp at e
     |cons a b=>
      simp only [map_cons,List.cons.injEq] at e
      have hka:=hk k (.head _)
      obtain ⟨o,eo,ro,_⟩:=O.at (getElem?_eq_getElem hka)
      refine .cons ((ORep.ren ren₀).mpr ?_) (ih b (fun j hj=>hk j (.tail _ hj)) e.2)
      show ORep _ _ _ (as.getD k 0) (os.getD k default)
      rw [e.1,getD_eq_getElem?_getD,getElem?_eq_getElem hka,getD_eq_getElem?_getD,eo]
      exact ro
   exact key σ nx₀ hbs hl
  have D₀:Dist as₀ Z (rest++c.R):=by
   refine ⟨?_,fun a ha p hp=>?_,fun a ha p hp=>?_,fun p hp q hq=>?_⟩
   ·refine yA6 fun i j a e1 e2=>?_
    have hi':i<σ.length:=by have:=(List.getElem?_eq_some_iff.mp e1).1;simpa [as₀] using this
    have hj':j<σ.length:=by have:=(List.getElem?_eq_some_iff.mp e2).1;simpa [as₀] using this
    rw [←aat i _ (getElem?_eq_getElem hi')] at e1
    rw [←aat j _ (getElem?_eq_getElem hj')] at e2
    exact zGv nd (getElem?_eq_getElem hi') ((zGv D.nd e1 e2)▸getElem?_eq_getElem hj')
   ·obtain ⟨j,hj⟩:=getElem?_of_mem ha
    have hj':j<σ.length:=by have:=(List.getElem?_eq_some_iff.mp hj).1;simpa [as₀] using this
    rw [←aat j _ (getElem?_eq_getElem hj')] at hj
    exact D.az a (mem_of_getElem? hj) p hp
   ·obtain ⟨j,hj⟩:=getElem?_of_mem ha
    have hj':j<σ.length:=by have:=(List.getElem?_eq_some_iff.mp hj).1;simpa [as₀] using this
    rw [←aat j _ (getElem?_eq_getElem hj')] at hj
    rcases mem_append.mp hp with hp|hp
    ·obtain ⟨i,hi,e1,e2⟩:=rin p hp
     intro e
     rw [e] at e1
     exact hi (zGv D.nd e1 hj▸getElem_mem hj')
    ·exact D.ar a (mem_of_getElem? hj) p hp
   ·rcases mem_append.mp hq with hq|hq
    ·obtain ⟨i,hi,e1,e2⟩:=rin q hq
     exact D.az _ (mem_of_getElem? e1) p hp
    ·exact D.zr p hp q hq
  have N₀:News c.h₀ c.L h (as₀.zip os₀++(Z++(rest++c.R))):=by
   intro p hp
   rcases mem_append.mp hp with hp|hp
   ·obtain ⟨j,k,_,e1,e2⟩:=zin p hp
    exact N p (mem_append_left _ (inz k p e1 e2))
   rcases mem_append.mp hp with hp|hp
   ·exact N p (mem_append_right _ (mem_append_left _ hp))
   rcases mem_append.mp hp with hp|hp
   ·obtain ⟨i,hi,e1,e2⟩:=rin p hp
    exact N p (mem_append_left _ (inz i p e1 e2))
   ·exact N p (mem_append_right _ (mem_append_right _ hp))
  refine C as₀ os₀ (rest++c.R) h m tk gs rfl F N₀ O₀ D₀ G (SRepL.ren ren₀ hx) ?_
  intro as' os' Z' h' tk' gs' x F' N' O' D' G' le' r'
  obtain ⟨t,et⟩:=le'.1
  obtain ⟨la',lo'⟩:=O'.len
  have ls:as₀.length=σ.length:=by simp [as₀]
  have hls:σ.length≤nx₁.length:=le_of_ble_eq_true hl'
  have et':as'.drop σ.length=t:=by rw [show as'=as₀++t from et,List.drop_append_of_le_length (by rw [ls];exact le_refl _),←ls,List.drop_length,List.nil_append]
  have at0:∀j,j<σ.length→as'[j]? = as₀[j]? := fun j hj=>by rw [show as'=as₀++t from et,getElem?_append_left (by rw [ls];exact hj)]
  let as'':=as++as'.drop σ.length
  have ren₁:∀j,as'[j]? = as''[rho σ nx.length j]? := fun j=>by
   rw [zQo]
   cases e:σ[j]? with
   |some k=>
    have hj:j<σ.length:=(List.getElem?_eq_some_iff.mp e).1
    have hk:=hbs k (mem_of_getElem? e)
    rw [at0 j hj,←aat j k e]
    exact (getElem?_append_left hk).symm
   |none=>
    have hj:=List.getElem?_eq_none_iff.mp e
    show _=(as++as'.drop σ.length)[nx.length+(j-σ.length)]?
    rw [getElem?_append_right (by rw [la];exact Nat.le_add_right _ _),la,Nat.add_sub_cancel_left,List.getElem?_drop,Nat.add_sub_cancel' hj]
  have le'':Wd.Le ⟨as,Z⟩ ⟨as'',Z'⟩:=⟨⟨_,rfl⟩,le'.2⟩
  have O'':=zJs (σ:=σ) (O.mono le'') (O'.renM ren₁) hls fun j k e=>by
   have hj:j<σ.length:=(List.getElem?_eq_some_iff.mp e).1
   rw [at0 j hj];exact aat j k e
  have mem':∀p∈as''.zip (zNc σ os' os),p∈rest∨p∈as'.zip os':=fun p hp=>by
   obtain ⟨i,hi⟩:=getElem?_of_mem hp
   obtain ⟨e1,e2⟩:=zip_at.mp hi
   rcases scatO_in e2 (by rw [lo'];exact hls) nd hbo with ⟨a,b⟩|⟨j,a,b⟩|⟨a,b⟩
   ·have:i<as.length:=by rw [la,←lo];exact (List.getElem?_eq_some_iff.mp b).1
    rw [getElem?_append_left this] at e1
    exact .inl (offS_mem.mpr ⟨i,zip_at.mpr ⟨e1,b⟩,by rw [zero_add];exact a⟩)
   ·have hj:j<σ.length:=(List.getElem?_eq_some_iff.mp a).1
    have hk:=hbs i (mem_of_getElem? a)
    rw [getElem?_append_left hk,aat j i a,←at0 j hj] at e1
    exact .inr (mem_of_getElem? (zip_at.mpr ⟨e1,b⟩))
   ·rw [getElem?_append_right (by rw [la,←lo];exact a),la,←lo,List.getElem?_drop,add_comm] at e1
    exact .inr (mem_of_getElem? (zip_at.mpr ⟨e1,b⟩))
  have zadr:∀{bs:List Addr} {ps:List Obj} {q:Addr×Obj},q∈bs.zip ps→q.1∈bs:=fun h=>(of_mem_zip (a:=_) (b:=_) h).1
  have radr:∀p∈rest,p.1∈as:=fun p hp=>by obtain ⟨i,_,e1,_⟩:=rin p hp;exact mem_of_getElem? e1
  have tin:∀a∈t,a∈as':=fun a ha=>by rw [show as'=as₀++t from et];exact mem_append_right _ ha
  have a0in:∀a∈as,a∈as'∨∃p∈rest,p.1=a:=fun a ha=>by
   obtain ⟨i,hi⟩:=getElem?_of_mem ha
   by_cases hs:i∈σ
   ·obtain ⟨j,hj⟩:=getElem?_of_mem hs
    rw [aat j i hj,←at0 j (List.getElem?_eq_some_iff.mp hj).1] at hi
    exact .inl (mem_of_getElem? hi)
   ·have hio:i<os.length:=by rw [lo,←la];exact (List.getElem?_eq_some_iff.mp hi).1
    exact .inr ⟨(a,os[i]),offS_mem.mpr ⟨i,zip_at.mpr ⟨hi,getElem?_eq_getElem hio⟩,by rw [zero_add];exact hs⟩,rfl⟩
  refine k ⟨as'',Z'⟩ _ x le'' (.mk F' (fun y sv e=>?_) (fun p hp=>?_) O'' ⟨?_,fun a ha p hp=>?_,fun a ha p hp=>?_,fun p hp q hq=>D'.zr p hp q (mem_append_right _ hq)⟩ G' ?_ fun p hp=>le'.2 p (Z0 p hp)) ((SRep.ren ren₁).mp r')
  ·obtain ⟨v,e1,e2⟩:=K y sv e
   exact ⟨v,e1,e2.mono le''⟩
  ·rcases mem_append.mp hp with hp|hp
   ·rcases mem' p hp with hp|hp
    ·exact N' p (mem_append_right _ (mem_append_right _ (mem_append_left _ hp)))
    ·exact N' p (mem_append_left _ hp)
   rcases mem_append.mp hp with hp|hp
   ·exact N' p (mem_append_right _ (mem_append_left _ hp))
   ·exact N' p (mem_append_right _ (mem_append_right _ (mem_append_right _ hp)))
  ·show (as++as'.drop σ.length).Nodup
   rw [et']
   refine nodup_append.mpr ⟨D.nd,?_,fun a ha b hb e=>?_⟩
   ·have:=D'.nd
    rw [show as'=as₀++t from et] at this
    exact (nodup_append.mp this).2.1
   ·subst e
    rcases a0in a ha with q|⟨p,hp,rfl⟩
    ·obtain ⟨i,hi⟩:=getElem?_of_mem ha
     by_cases hs:i∈σ
     ·obtain ⟨j,hj⟩:=getElem?_of_mem hs
      rw [aat j i hj] at hi
      have:=D'.nd
      rw [show as'=as₀++t from et] at this
      exact (nodup_append.mp this).2.2 a (mem_of_getElem? hi) a hb rfl
     ·have hio:i<os.length:=by rw [lo,←la];exact (List.getElem?_eq_some_iff.mp hi).1
      exact D'.ar a (tin a hb) (a,os[i]) (mem_append_left _ (offS_mem.mpr ⟨i,zip_at.mpr ⟨hi,getElem?_eq_getElem hio⟩,by rw [zero_add];exact hs⟩)) rfl
    ·exact D'.ar _ (tin _ hb) p (mem_append_left _ hp) rfl
  ·rcases mem_append.mp ha with ha|ha
   ·rcases a0in a ha with q|⟨q,hq,rfl⟩
    ·exact D'.az a q p hp
    ·exact D'.zr p hp q (mem_append_left _ hq)
   ·exact D'.az a (List.mem_of_mem_drop ha) p hp
  ·rcases mem_append.mp ha with ha|ha
   ·exact D.ar a ha p hp
   ·exact D'.ar a (List.mem_of_mem_drop ha) p (mem_append_right _ hp)
  ·rw [←a0]
   show (as++_).take n₀=_
   have hn:n₀≤as.length:=by rw [←c.hn,←a0,length_take];exact Nat.min_le_right _ _
   exact List.take_append_of_le_length hn
theorem CallS.con(C:Con d f vs₀ kw nx₀ r nx₁)(hd:ble (d+1) dc=true)(hσ:okS σ nx.length=true)(hl:nx₀.map (SO.ren (rho σ nx.length))=σ.map (nth nx))(hl':ble σ.length nx₁.length=true)(hv:vs₀.map (SV.ren (rho σ nx.length))=vs):CallS c ps nx (.ref f) vs kw (r.ren (rho σ nx.length)) (zXm (rho σ nx.length) σ nx₁ nx):=fun z s xs O hx Q k=>
 On.con σ O hx k hσ hl hl' hv fun as os R h m tk gs e F N O' D G hx' k'=>by
  subst e
  exact C _ _ _ c z c.s₀ as os R h m tk gs xs Q (le_of_ble_eq_true hd) F N O' D G hx' k'
end
inductive BindR(z:Wd):List (zA0×SV)→List (zA0×Value)→Prop
 |nil:BindR z [] []
 |cons {x sv v xs vs}:SRep z sv v→BindR z xs vs→BindR z ((x,sv)::xs) ((x,v)::vs)
theorem BindR.at{z:Wd}{b:List (zA0×SV)}{cs:List (zA0×Value)}(h:BindR z b cs):∀y sv,b.lookup y=some sv→∃v,cs.lookup y=some v∧SRep z sv v:=by
 induction h with
 |nil=>intro y sv e;cases e
 |@cons x sv v xs vs r _ ih=>
  intro y sv' e
  rw [lookup_cons] at e ⊢
  cases q:y==x with
  |true=>rw [q] at e;cases e;exact ⟨v,rfl,r⟩
  |false=>rw [q] at e;exact ih y sv' e
theorem BindR.names{z:Wd}{b:List (zA0×SV)}{cs:List (zA0×Value)}(h:BindR z b cs):cs.map (·.1)=b.map (·.1):=by
 induction h with
 |nil=>rfl
 |cons _ _ ih=>exact congrArg _ ih
theorem BindR.append{z:Wd}{b b':List (zA0×SV)}{cs cs':List (zA0×Value)}(h:BindR z b cs)(k:BindR z b' cs'):BindR z (b++b') (cs++cs'):=by
 induction h with
 |nil=>exact k
 |cons a _ ih=>exact .cons a ih
theorem zGs{y:zA0}:∀{l r:List (zA0×Value)},(l++r).lookup y=(l.lookup y).or (r.lookup y)
 |[],r=>rfl
 |(x,v)::l,r=>by
  rw [List.cons_append,lookup_cons,lookup_cons,zGs]
  cases y==x<;>rfl
theorem zFo{y:zA0}:∀{l:List (zA0×Value)},y∉l.map (·.1)→l.lookup y=none
 |[],_=>rfl
 |(x,v)::l,h=>by
  rw [lookup_cons]
  have:(y==x)=false:=by
   cases q:y==x with
   |false=>rfl
   |true=>exact absurd (by rw [beq_iff_eq.mp q];exact .head _) h
  rw [this]
  exact zFo fun k=>h (.tail _ k)
theorem zEh{y:zA0}:∀{l:List (zA0×Value)},(l.map (·.1)).Nodup→l.reverse.lookup y=l.lookup y
 |[],_=>rfl
 |(x,v)::l,h=>by
  have h':=nodup_cons.mp h
  rw [List.reverse_cons,zGs,zEh h'.2,lookup_cons,lookup_cons]
  cases q:y==x with
  |false=>show (l.lookup y).or none=l.lookup y;cases l.lookup y<;>rfl
  |true=>
   have:=beq_iff_eq.mp q
   subst this
   rw [zFo h'.1]
   rfl
noncomputable def zFp:List zA0→Bool
 |[]=>true
 |x::r=>!r.contains x&&zFp r
theorem zFq:∀{l:List zA0},zFp l=true→l.Nodup
 |[],_=>.nil
 |x::r,h=>by
  simp only [zFp,and_eq_true,Bool.not_eq_true'] at h
  refine nodup_cons.mpr ⟨fun q=>?_,zFq h.2⟩
  rw [List.contains_iff_mem.mpr q] at h
  cases h.1
abbrev zEa(fn:Fn)(d:Nat)(binds:List (zA0×SV))(nx:List SO)(body:List Stmt)(r:SV)(nx':List SO):Prop:=
 ∀(c:Cx fn d nx.length) (Q:Flow→Shared→Prop),(∀ps' z s x,On c ps' nx' z s→SRep z r x→Q (.ret x) s)→(r = .d .none→∀ps',J c Q ps' nx' [])→J c Q binds nx [body]
section
variable {d:Nat}{vs:List SV}{kw:List (zA0×Value)}{nx nx':List SO}{r:SV}{binds:List (zA0×SV)}{st:Stmt}{name:zA0}{dV kV pm ct:Value}{fcl:List (zA0×Addr)}{fn:Fn}
theorem ConK.enter(cs:List Value→List (zA0×Value))(hbody:zEa fn d binds nx (zAf st) r nx')(hb:∀z xs,SRepL z vs xs→BindR z binds (cs xs))(hK:∀P,(kW P).lookup fn.addr=some ⟨.type "function",none,.func (fnD st name fn.qual fcl dV kV pm fn.cdv ct),#[]⟩)(hcl:fn.cl=fun _=>fcl)(hsc:zAl st=fn.scope)(hcd:∀P,codeIn (kW P) fn.cdv fn.qual=true)(hbind:∀P (z:Wd) (s:Shared) (xs:List Value),SRepL z vs xs→(kW P).In s.heap→BindsTo s (fnX name fn.qual (zGe st) (zAf st) fn.scope fcl dV kV .none pm none fn.cdv ct) ⟨xs,kw⟩ (cs xs))(hloc:((binds.map (·.1)).all fun x=>decide (fn.scope.names.lookup x=some .local))=true)(hnd:zFp (binds.map (·.1))=true)(hcell:(fn.scope.names.all fun x=>x.2 != .cell)=true)(hco:fn.scope.isCoroutine=false)(hgen:fn.scope.isGenerator=false):ConK d fn.addr vs kw nx r nx':=by
 intro fn₁ dc n₁ c z s as os R h m tk gs xs Q hd F N O D G hx k
 have bd:=hb _ _ hx
 refine zYl (s:=⟨h,gs,c.s₀.drawn,tk,c.s₀.os⟩) (fcl:=fcl) (name:=name) (st:=st) c.B F c.X N c.T fn₁.hk (lt_of_le_of_lt (Nat.le_add_right _ _) (lt_trans c.hdp (by decide))) (hK _) rfl rfl hsc (hcd _) (hbind _ ⟨as,z.Z⟩ _ xs hx (c.X.keeps F.keep)) ?_ (fun x hx=>by have:=all_eq_true.mp hcell x hx;simpa using this) hco hgen fn.hk ?_
 ·have h9:=hloc
  rw [←bd.names,List.all_map] at h9
  exact h9
 intro g L' h₁ FG F' N' B' X' T' l
 have hdp:=c.hdp
 have hun:=c.hun
 have hcl':fn.cl L'=fcl:=congrFun hcl L'
 let c':Cx fn d nx.length:={w:=c.w,p:=c.p,loose:=c.loose,mean:=c.mean,mg:=c.mg,mb:=c.mb,dp:=c.dp+1,un:=c.un+3,L:=L',outer:=envX fn₁.qual fn₁.scope c.L fn₁.addr fn₁.cdv (fn₁.cl c.L)::c.outer,A₀:=c.A,base:=c.base,h₀:=g,s₀:=c.s₀,as₀:=as,Z₀:=z.Z,R:=R,B:=B',X:=X',T:=T',hdp:=by lia,hun:=by lia,hn:=O.len.1}
 have hOn:On c' binds nx ⟨as,z.Z⟩ ⟨h₁,gs,c.s₀.drawn,tk+(cs xs).length,c.s₀.os⟩:=by
  refine On.mk (c:=c') F' (fun y sv e=>?_) N' O D G ?_ fun p hp=>hp
  ·rw [zEh (by rw [bd.names];exact zFq hnd)]
   exact bd.at y sv e
  ·show as.take nx.length=as
   rw [←O.len.1,take_length]
 have fin:∀{ps' z' s' x},On c' ps' nx' z' s'→SRep z' r x→LeaveK c.h₀ c.L m g (fun r s=>match r with | .ok (.ret v)=>Q v s | .ok _=>False | .error e=>noE e s) x s':=by
  rintro ps' z' s' x ⟨F₁,K₁,N₁,O₁,D₁,G₁,a₁,Z₁⟩ hr
  refine leaveK_ F₁ N₁ fun F₂ N₂=>?_
  refine k _ _ _ _ _ _ _ F₂ N₂ O₁ D₁ G₁ ⟨?_,Z₁⟩ hr
  exact ⟨_,by rw [show as=List.take nx.length _ from a₁.symm];exact (take_append_drop _ _).symm⟩
 have:=hbody c' (fun fl s'=>LeaveK c.h₀ c.L m g (fun r s=>match r with | .ok (.ret v)=>Q v s | .ok _=>False | .error e=>noE e s) (match fl with | .ret v=>v|_=>.none) s') (fun ps' z' s' x O' r'=>fin O' r') (fun hr ps' z' s' O'=>fin (x:=.none) O' (by rw [hr];exact .none)) _ _ hOn
 show wpAny (model pw c.w) (zUu (c.dp+1) (c.un+3) fn.qual fn.scope L' fn.addr fn.cdv fcl _) (execs _ (envX fn.qual fn.scope L' fn.addr fn.cdv fcl)) _ _ _
 rw [←hcl']
 exact wpAny_mono this (fun f s h=>by induction f<;>exact h) fun _ _ x=>x
def AllV(p:List Value→Prop):Nat→List Value→Prop
 |0,xs=>p xs
 |n+1,xs=>∀v,AllV p n (xs++[v])
theorem AllV.at{p:List Value→Prop}:∀{xs as:List Value},AllV p xs.length as→p (as++xs)
 |[],as,h=>by rw [append_nil];exact h
 |x::xs,as,h=>by
  have:=AllV.at (xs:=xs) (h x)
  rwa [append_assoc] at this
theorem BindR.zip{z:Wd}{vs:List SV}{xs:List Value}(h:SRepL z vs xs):∀names:List zA0,BindR z (names.zip vs) (names.zip xs):=by
 induction h with
 |nil=>intro names;rw [List.zip_nil_right,List.zip_nil_right];exact .nil
 |cons a _ ih=>
  intro names
  induction names with
  |nil=>exact .nil
  |cons n r=>exact .cons a (ih r)
theorem SRepL.len{z:Wd}{vs:List SV}{xs:List Value}(h:SRepL z vs xs):xs.length=vs.length:=by
 induction h with
 |nil=>rfl
 |cons _ _ ih=>exact congrArg (· + 1) ih
noncomputable abbrev nmS(st:Stmt):List zA0:=(zGe st).args.map (·.arg)
theorem ConK.enterN(hK:∀P,(kW P).lookup fn.addr=some ⟨.type "function",none,.func (fnD st name fn.qual fcl dV kV pm fn.cdv ct),#[]⟩)(ex:List (zA0×Value))(exS:List (zA0×SV))(hbody:zEa fn d ((nmS st).zip vs++exS) nx (zAf st) r nx')(hex:∀z,BindR z exS ex)(hbind:∀P (s:Shared),AllV (fun xs=>(kW P).In s.heap→BindsTo s (fnX name fn.qual (zGe st) (zAf st) fn.scope fcl dV kV .none pm none fn.cdv ct) ⟨xs,kw⟩ ((nmS st).zip xs++ex)) vs.length [])(hcd:∀P,codeIn (kW P) fn.cdv fn.qual=true:=by exact fun _=>rfl)(hcl:autoParam (fn.cl=fun _=>fcl) T0R)(hsc:autoParam (zAl st=fn.scope) T0R)(hloc:autoParam (((((nmS st).zip vs++exS).map (·.1)).all fun x=>decide (fn.scope.names.lookup x=some .local))=true) T0R)(hnd:autoParam (zFp (((nmS st).zip vs++exS).map (·.1))=true) T0R)(hcell:autoParam ((fn.scope.names.all fun x=>x.2 != .cell)=true) T0R)(hco:autoParam (fn.scope.isCoroutine=false) T0R)(hgen:autoParam (fn.scope.isGenerator=false) T0R):ConK d fn.addr vs kw nx r nx':=
 ConK.enter (fun xs=>(nmS st).zip xs++ex) hbody (fun z xs h=>(BindR.zip h _).append (hex z)) hK hcl hsc hcd (fun P z s xs h=>(h.len▸hbind P s:AllV _ xs.length []).at) hloc hnd hcell hco hgen
theorem Con.enterN(hK:∀P,(kW P).lookup fn.addr=some ⟨.type "function",none,.func (fnD st name fn.qual fcl dV kV pm fn.cdv ct),#[]⟩)(ex:List (zA0×Value))(exS:List (zA0×SV))(hbody:zEa fn d ((nmS st).zip vs++exS) nx (zAf st) r nx')(hex:∀z,BindR z exS ex)(hbind:∀P (s:Shared),AllV (fun xs=>(kW P).In s.heap→BindsTo s (fnX name fn.qual (zGe st) (zAf st) fn.scope fcl dV kV .none pm none fn.cdv ct) ⟨xs,kw⟩ ((nmS st).zip xs++ex)) vs.length [])(hcd:∀P,codeIn (kW P) fn.cdv fn.qual=true:=by exact fun _=>rfl)(hcl:autoParam (fn.cl=fun _=>fcl) T0R)(hsc:autoParam (zAl st=fn.scope) T0R)(hloc:autoParam (((((nmS st).zip vs++exS).map (·.1)).all fun x=>decide (fn.scope.names.lookup x=some .local))=true) T0R)(hnd:autoParam (zFp (((nmS st).zip vs++exS).map (·.1))=true) T0R)(hcell:autoParam ((fn.scope.names.all fun x=>x.2 != .cell)=true) T0R)(hco:autoParam (fn.scope.isCoroutine=false) T0R)(hgen:autoParam (fn.scope.isGenerator=false) T0R):Con d fn.addr vs kw nx r nx':=
 (ConK.enterN hK ex exS hbody hex hbind hcd hcl hsc hloc hnd hcell hco hgen).con
end
theorem zF6:∀{as:List Addr} {os:List Obj} {rest:List (Addr×Obj)} {k:Nat} {a:Addr} {o:Obj},as[k]? = some a→os[k]? = some o→as.Nodup→(∀p∈rest,p.1≠a)→UpdF a o (as.zip os++rest) (fun o'=>as.zip (os.set k o')++rest)
 |[],_,_,_,_,_,e,_,_,_=>by simp at e
 |_::_,[],_,_,_,_,_,e,_,_=>by simp at e
 |b::as,p::os,rest,0,a,o,e,f,nd,hr=>by
  simp at e f
  subst e f
  have nd':=nodup_cons.mp nd
  refine UpdF.head fun q hq=>?_
  rcases mem_append.mp hq with hq|hq
  ·intro e;exact nd'.1 (e▸(of_mem_zip (a:=q.1) (b:=q.2) hq).1)
  ·exact hr q hq
 |b::as,p::os,rest,k+1,a,o,e,f,nd,hr=>by
  have nd':=nodup_cons.mp nd
  have e':as[k]? = some a:=by simpa using e
  exact UpdF.tail (fun (q:b=a)=>nd'.1 (q▸mem_of_getElem? e')) (zF6 e' (by simpa using f) nd'.2 hr)
section
variable {E:Env}{fn:Fn}{d n₀:Nat}{c:Cx fn d n₀}{ps:List (zA0×SV)}{nx nx' nx₁ nx₂:List SO}{z:Wd}{s:Shared}{e l r:Expr}{pos px:Pos}{v v₁ v₂:SV}{x:zA0}{Q:Flow→Shared→Prop}{bs:List (List Stmt)}{rest body orelse:List Stmt}{k:Nat}
abbrev zRn(c:Cx fn d n₀)(z:Wd)(nx:List SO)(news:List (Addr×Obj)):Prop:=∀j b,z.as[j]? = some b→∃ob,(b,ob)∈news∧ORep c.w.params z (nth nx j) b ob
theorem On.obj(O:On c ps nx z s){a:Addr}(hk:z.as[k]? = some a){GL:Prop}(q:∀m o news g,Fr c.h₀ c.L s.heap m→News c.h₀ c.L s.heap news→UpdF a o news g→ORep c.w.params z (nth nx k) a o→(∀p∈z.Z,p∈news)→zRn c z nx news→
  (∀so o' h' tk',ORep c.w.params z so a o'→Fr c.h₀ c.L h' m→News c.h₀ c.L h' (g o')→On c ps (upd nx k so) z {s with heap:=h',toks:=tk'})→GL):GL:=by
 induction O with
 |@mk h tk gs m as os Z F K N O D G a0 Z0=>
  obtain ⟨o,e1,e2,e3⟩:=O.at hk
  refine q m o _ _ F N (zF6 hk e1 D.nd fun p hp=>?_) e2 (fun p hp=>mem_append_right _ (mem_append_left _ hp)) (fun j b hj=>?_) fun so o' h' tk' ho F' N'=>.mk F' K N' (O.upd hk ho) D G a0 Z0
  ·rcases mem_append.mp hp with hp|hp
   ·exact D.az a (mem_of_getElem? hk) p hp
   ·exact D.ar a (mem_of_getElem? hk) p hp
  ·obtain ⟨ob,f1,f2,f3⟩:=O.at hj
   exact ⟨ob,mem_append_left _ f3,f2⟩
theorem zM5{as:List Addr}{os:List Obj}{a:Addr}{o:Obj}(h:as.length=os.length):(as++[a]).zip (os++[o])=as.zip os++[(a,o)]:=by rw [List.zip_append h];rfl
theorem On.grow(O:On c ps nx z s){GL:Prop}(q:∀m news,Fr c.h₀ c.L s.heap m→News c.h₀ c.L s.heap news→(∀p∈z.Z,p∈news)→
  (∀so o h' tk',(∀z',z.Le z'→ORep c.w.params z' so s.heap.objs.size o)→Fr c.h₀ c.L h' m→News c.h₀ c.L h' ((s.heap.objs.size,o)::news)→∀{G:Prop},(∀z',z.Le z'→On c ps (nx++[so]) z' {s with heap:=h',toks:=tk'}→SRep z' (.r nx.length) (.ref s.heap.objs.size)→G)→G)→GL):GL:=by
 induction O with
 |@mk h tk gs m as os Z F K N O D G a0 Z0=>
  obtain ⟨la,lo⟩:=O.len
  refine q m _ F N (fun p hp=>mem_append_right _ (mem_append_left _ hp)) fun so o h' tk' ho F' N' GL q=>?_
  have fresh:∀p∈as.zip os++(Z++c.R),p.1≠h.objs.size:=fun p hp=>ne_of_lt (Heap.lt_size (N p hp).1)
  have le:Wd.Le ⟨as,Z⟩ ⟨as++[h.objs.size],Z⟩:=⟨⟨_,rfl⟩,fun _ h=>h⟩
  have asin:∀a∈as,a≠h.objs.size:=fun a ha=>by
   obtain ⟨i,hi⟩:=getElem?_of_mem ha
   obtain ⟨o,_,_,e3⟩:=O.at hi
   exact fresh (a,o) (mem_append_left _ e3)
  refine q _ le (.mk F' (fun y sv e=>let ⟨v,a,b⟩:=K y sv e;⟨v,a,b.mono le⟩) (fun p hp=>?_) ((O.mono le).append (.cons (ho _ le) .nil)) ⟨?_,fun a ha p hp=>?_,fun a ha p hp=>?_,D.zr⟩ G ?_ Z0) ⟨h.objs.size,?_,rfl⟩
  ·rw [zM5 (la.trans lo.symm)] at hp
   rcases mem_append.mp hp with hp|hp
   ·rcases mem_append.mp hp with hp|hp
    ·exact N' p (.tail _ (mem_append_left _ hp))
    ·exact N' p (mem_singleton.mp hp▸.head _)
   ·exact N' p (.tail _ (mem_append_right _ hp))
  ·refine nodup_append.mpr ⟨D.nd,by simp,fun a ha b hb e=>?_⟩
   rw [mem_singleton.mp hb] at e
   exact asin a ha e
  ·rcases mem_append.mp ha with ha|ha
   ·exact D.az a ha p hp
   ·rw [mem_singleton.mp ha];exact fresh p (mem_append_right _ (mem_append_left _ hp))
  ·rcases mem_append.mp ha with ha|ha
   ·exact D.ar a ha p hp
   ·rw [mem_singleton.mp ha];exact fresh p (mem_append_right _ (mem_append_right _ hp))
  ·show (as++_).take n₀=_
   have hn:n₀≤as.length:=by rw [←c.hn,←a0,length_take];exact Nat.min_le_right _ _
   rw [List.take_append_of_le_length hn,a0]
  ·show (as++[h.objs.size])[nx.length]? = _
   rw [←la,getElem?_append_right (le_refl _),sub_self]
   rfl
theorem On.growZD(O:On c ps nx z s){GL:Prop}(q:∀m news,Fr c.h₀ c.L s.heap m→News c.h₀ c.L s.heap news→(∀p∈z.Z,p∈news)→zRn c z nx news→
  (∀D o h' tk',Fr c.h₀ c.L h' m→News c.h₀ c.L h' ((D,o)::news)→(∀p∈news,p.1≠D)→∀{G:Prop},(∀z',z.Le z'→(D,o)∈z'.Z→On c ps nx z' {s with heap:=h',toks:=tk'}→G)→G)→GL):GL:=by
 induction O with
 |@mk h tk gs m as os Z F K N O D G a0 Z0=>
  refine q m _ F N (fun p hp=>mem_append_right _ (mem_append_left _ hp)) (fun j b hj=>?_) fun q o h' tk' F' N' fresh GL k=>?_
  ·obtain ⟨ob,f1,f2,f3⟩:=O.at hj
   exact ⟨ob,mem_append_left _ f3,f2⟩
  have le:Wd.Le ⟨as,Z⟩ ⟨as,(q,o)::Z⟩:=⟨⟨[],by simp⟩,fun _ h=>.tail _ h⟩
  refine k _ le (.head _) (.mk F' (fun y sv e=>let ⟨v,a,b⟩:=K y sv e;⟨v,a,b.mono le⟩) (fun p hp=>?_) (O.mono le) ⟨D.nd,fun a ha p hp=>?_,D.ar,fun p hp q hq=>?_⟩ G a0 fun p hp=>.tail _ (Z0 p hp))
  ·rcases mem_append.mp hp with hp|hp
   ·exact N' p (.tail _ (mem_append_left _ hp))
   ·rcases mem_cons.mp hp with rfl|hp
    ·exact N' _ (.head _)
    ·exact N' p (.tail _ (mem_append_right _ hp))
  ·rcases mem_cons.mp hp with rfl|hp
   ·obtain ⟨i,hi⟩:=getElem?_of_mem ha
    obtain ⟨o',_,_,e3⟩:=O.at hi
    exact Ne.symm (fresh (a,o') (mem_append_left _ e3))
   ·exact D.az a ha p hp
  ·rcases mem_cons.mp hp with rfl|hp
   ·exact Ne.symm (fresh q (mem_append_right _ (mem_append_right _ hq)))
   ·exact D.zr p hp q hq
theorem On.growZ(O:On c ps nx z s){GL:Prop}(q:∀m news,Fr c.h₀ c.L s.heap m→News c.h₀ c.L s.heap news→(∀p∈z.Z,p∈news)→
  (∀o h' tk',Fr c.h₀ c.L h' m→News c.h₀ c.L h' ((s.heap.objs.size,o)::news)→∀{G:Prop},(∀z',z.Le z'→(s.heap.objs.size,o)∈z'.Z→On c ps nx z' {s with heap:=h',toks:=tk'}→G)→G)→GL):GL:=
 O.growZD fun m news F N hZ _ g=>q m news F N hZ fun o h' tk' F' N'=>g _ o h' tk' F' N' fun p hp=>ne_of_lt (Heap.lt_size (N p hp).1)
theorem zSf:∀{z:Wd} {xs:List PyData} {vs:List Value},SRepL z (xs.map SV.d) vs→DRepL z.Z xs vs
 |_,[],_,h=>by rw [h.nil_];exact .nil
 |_,_::_,_,h=>by obtain ⟨v,us,rfl,a,b⟩:=h.cons_;exact .cons a (zSf b)
theorem zBk:∀{z:Wd} {xs:List SV} {vs:List Value},SRepL z xs vs→vs.length=xs.length
 |_,[],_,h=>by rw [h.nil_];rfl
 |_,_::_,_,h=>by obtain ⟨v,us,rfl,a,b⟩:=h.cons_;exact congrArg (· + 1) (zBk b)
theorem zTk{n:Nat}(h:ble n 100000=true):n≤sizeLine:=le_trans (le_of_ble_eq_true h) (by rw [sizeLine_eq];decide)
theorem Ev.tuple{elts:List Expr}{kk:Nat}{xs:List PyData}(h:EvL c E ps nx elts (xs.map SV.d) nx')(hs:autoParam (ble xs.length 100000=true) T0R):Ev c E ps nx (.Tuple elts kk pos) (.d (.tuple xs)) nx':=fun z s O Q k=>by
 refine Tuple_ (h z s O _ _ fun z₁ s₁ vs l₁ O₁ r=>?_)
 refine O₁.growZ fun m news F N _ g=>?_
 refine newTuple_N F N (fun h' F' N'=>?_) (by rw [zBk r,length_map];exact zTk hs)
 refine g _ h' s₁.toks F' N' fun z₂ le hz O₂=>?_
 exact k z₂ _ _ (l₁.trans le) O₂ (.tuple hz ((zSf r).mono le.2))
theorem Ev.list{elts:List Expr}{xs:List PyData}(h:EvL c E ps nx elts (xs.map SV.d) nx')(hs:autoParam (ble xs.length 100000=true) T0R):Ev c E ps nx (.List elts pos) (.r nx'.length) (nx'++[.lst xs]):=fun z s O Q k=>by
 refine List_ (h z s O _ _ fun z₁ s₁ vs l₁ O₁ r=>?_)
 refine O₁.grow fun m news F N _ g=>?_
 refine newList_N F N (fun h' F' N'=>?_) (by rw [zBk r,length_map];exact zTk hs)
 refine g (.lst xs) _ h' s₁.toks (fun z' le=>⟨vs,0,rfl,(zSf r).mono le.2⟩) F' N' fun z₂ le O₂ r₂=>?_
 exact k z₂ _ _ (l₁.trans le) O₂ r₂
theorem Ev.listD{elts:List Expr}{xs:List PyData}(h:EvL c E ps nx elts (xs.map SV.d) nx')(hs:autoParam (ble xs.length 100000=true) T0R):Ev c E ps nx (.List elts pos) (.d (.list xs)) nx':=fun z s O Q k=>by
 refine List_ (h z s O _ _ fun z₁ s₁ vs l₁ O₁ r=>?_)
 refine O₁.growZ fun m news F N _ g=>?_
 refine newList_N F N (fun h' F' N'=>?_) (by rw [zBk r,length_map];exact zTk hs)
 refine g _ h' s₁.toks F' N' fun z₂ le hz O₂=>?_
 exact k z₂ _ _ (l₁.trans le) O₂ (.list hz ((zSf r).mono le.2))
def MethS(c:Cx fn d n₀)(ps:List (zA0×SV))(nx:List SO)(v:SV)(name:zA0)(f:Value)(vs:List SV):Prop:=
 ∀z s a,On c ps nx z s→SRep z v a→∀(pl:Sem Bool) (Q:Value×List Value→Shared→Prop),(∀s' xs,On c ps nx z s'→SRepL z vs xs→Q (f,xs) s')→wpAny c.M c.A (getMethod a name pl) Q noE s
inductive Callee:Value→Prop
 |b {id}:Callee (.builtin id)
 |t {T}:Callee (.type T)
 |k {f} (h:∀P,keepIn (kW P) f=true):Callee f
theorem SRepL.append{z:Wd}{vs us:List SV}{xs ys:List Value}(h:SRepL z vs xs)(k:SRepL z us ys):SRepL z (vs++us) (xs++ys):=by
 induction h with
 |nil=>exact k
 |cons a _ ih=>exact .cons a ih
noncomputable def zDo:Expr→Bool
 |.Starred _ _=>false
 |_=>true
theorem zAz{env:Env}{es:List Expr}(h:zDo e=true):starEach (e::es) env=(false,eval e env)::starEach es env:=by cases e<;>first|rfl|cases h
theorem zBp{env:Env}:∀{es:List Expr},es.all zDo=true→(backTo pos (starEach es env)).any (·.1)=false
 |[],_=>rfl
 |e::es,h=>by
  rw [all_cons,and_eq_true] at h
  rw [zAz h.1]
  show (false || (backTo pos (starEach es env)).any (·.1))=false
  rw [zBp h.2]
  rfl
theorem zGg{f:Value}{vs us:List SV}{es:List Expr}{xs:List Value}(hf:Callee f)(h:EvL c E ps nx es us nx₁)(hc:CallS c ps nx₁ f (vs++us) [] v nx')(hp:es.all zDo=true){Q:Value→Shared→Prop}(O:On c ps nx z s)(hx:SRepL z vs xs)(k:∀z' s' x,z.Le z'→On c ps nx' z' s'→SRep z' v x→Q x s'):wpAny c.M c.A (callWith pos f xs (backTo pos (starEach es E)) []) Q noE s:=by
 have go:=fun (P:Heap→Prop) (hP:∀s:Shared,(kW c.w.params).In s.heap→P s.heap)=>h z s O pos (fun us' s'=>P s'.heap∧wpAny c.M c.A (call f (xs++us') []) Q noE s') (fun z' s' us' l' O' r'=>⟨hP _ O'.top,hc z' s' _ O' ((hx.mono l').append r') _ fun z₂ s₂ a l₂ O₂ r₂=>k z₂ s₂ a (l'.trans l₂) O₂ r₂⟩)
 induction es with
 |nil=>
  have e:wpAny c.M c.A (call f (xs++[]) []) Q noE s:=fun Γ p hΓ=>(go (fun _=>True) (fun _ _=>trivial) Γ p hΓ).2 Γ p hΓ
  induction hf with
  |b=>exact callWith_method0 (by simpa using e)
  |t=>exact PyProof.Rows.callWith_type (args:=[]) rfl (PyProof.Rows.evalArgs_none (by simpa using e))
  |k hk=>exact callWith_K0 O.top (hk _) e
 |cons a es=>
  rw [all_cons,and_eq_true] at hp
  induction hf with
  |t=>
   have g:=wpAny_mono (go (fun _=>True) fun _ _=>trivial) (fun _ _ h=>h.2) fun _ _ x=>x
   have sp:=zAz (env:=E) (es:=es) hp.1
   rw [sp] at g ⊢
   exact PyProof.Rows.callWith_type (by show (false || (backTo pos (starEach es E)).any (·.1))=false;rw [zBp hp.2];rfl) (evalArgs_plain g)
  |b=>exact callWith_method1 (wpAny_mono (go (fun _=>True) fun _ _=>trivial) (fun _ _ h=>h.2) fun _ _ x=>x) (zAz hp.1) (zBp hp.2)
  |k hk=>exact callWith_K c.X (hk _) (go (kW c.w.params).In fun _ h=>h) (zAz hp.1) (zBp hp.2)
theorem Ev.call{f:Value}{us:List SV}{func:Expr}{es:List Expr}(hf:Ev c E ps nx func (.v f) nx)(h:EvL c E ps nx es us nx₁)(hc:CallS c ps nx₁ f us [] v nx')(hk:Callee f)(hp:autoParam (es.all zDo=true) T0R)(he:autoParam (eval (.Call func es [] pos) E=(do callWith pos (←eval func E) [] (backTo pos (starEach es E)) (backToKw pos (keywordEach [] E)))) T0R):Ev c E ps nx (.Call func es [] pos) v nx':=
 fun z s O Q k=>Call_ (hf z s O _ fun z₁ s₁ a l₁ O₁ r=>by induction r;exact zGg (vs:=[]) hk h hc hp O₁ .nil fun z' s' x l'=>k z' s' x (l₁.trans l')) he
theorem Ev.meth{f:Value}{vs us:List SV}{o:Expr}{name:zA0}{apos:Pos}{es:List Expr}{pl:Sem Bool}(ho:Ev c E ps nx o v₁ nx₁)(hm:MethS c ps nx₁ v₁ name f vs)(h:EvL c E ps nx₁ es us nx₂)(hc:CallS c ps nx₂ f (vs++us) [] v nx')(hk:Callee f)(hp:autoParam (es.all zDo=true) T0R)(he:autoParam (eval (.Call (.Attribute o name apos) es [] pos) E=(do
   let ov ←eval o E
   standAt apos.atName
   let (f,first) ←holding [ov] (getMethod ov name pl)
   callWith pos f first (backTo pos (starEach es E)) [])) T0R):Ev c E ps nx (.Call (.Attribute o name apos) es [] pos) v nx':=
 fun z s O Q k=>MethodCall_ (ho z s O _ fun z₁ s₁ a l₁ O₁ r=>hm z₁ s₁ a O₁ r pl _ fun s₂ xs O₂ rs=>zGg hk h hc hp O₂ rs fun z' s' x l'=>k z' s' x (l₁.trans l')) he
theorem Ev.callK{f g:Value}{us:List SV}{func a ke:Expr}{es:List Expr}{kn:zA0}{kp:Pos}(hf:Ev c E ps nx func (.v f) nx)(h:EvL c E ps nx (a::es) us nx₁)(hg:∀nx,Ev c E ps nx ke (.v g) nx)(hc:CallS c ps nx₁ f us [(kn,g)] v nx')(hk:∀P,keepIn (kW P) f=true)(hp:autoParam ((a::es).all zDo=true) T0R)(he:autoParam (eval (.Call func (a::es) [⟨some kn,ke,kp⟩] pos) E=(do callWith pos (←eval func E) [] (backTo pos (starEach (a::es) E)) (backToKw pos (keywordEach [⟨some kn,ke,kp⟩] E)))) T0R):Ev c E ps nx (.Call func (a::es) [⟨some kn,ke,kp⟩] pos) v nx':=fun z s O Q k=>by
 rw [he]
 refine wpAny_bind (hf z s O _ fun z₁ s₁ b l₁ O₁ r=>?_)
 induction r
 have hp':=hp
 rw [all_cons,and_eq_true] at hp'
 refine callWith_KW c.X (hk _) rfl ?_ (by show ((backTo pos (starEach (a::es) E)).any (·.1) || false)=false;rw [zBp hp];rfl) (zAz hp'.1)
 refine h z₁ s₁ O₁ pos _ fun z₂ s₂ vs l₂ O₂ rs=>?_
 refine kwAll_cons (hg _ z₂ s₂ O₂ _ fun z₃ s₃ b l₃ O₃ r₃=>?_)
 induction r₃
 exact kwAll_nil ⟨O₃.top,hc z₃ s₃ vs O₃ (rs.mono l₃) _ fun z₄ s₄ x l₄ O₄ r₄=>k z₄ s₄ x (((l₁.trans l₂).trans l₃).trans l₄) O₄ r₄⟩
theorem MethS.list{l:List PyData}{name:zA0}{id:String}(hk:nth nx k = .lst l)(slot:Slot "list" name id)(hty:typeOf (.builtin id)=pure (.type "method_descriptor")):MethS c ps nx (.r k) name (.builtin id) [.r k]:=fun z s a O r pl Q q=>by
 obtain ⟨a,ha,rfl⟩:=r
 refine O.obj ha fun m o news g F N U ro _ _ _=>?_
 rw [hk] at ro
 obtain ⟨vs,n,rfl,_⟩:=ro
 exact zUp N (zA2 U) slot hty (q s _ O (.cons ⟨a,ha,rfl⟩ .nil))
theorem MethS.append{l:List PyData}(hk:nth nx k = .lst l):MethS c ps nx (.r k) (.ofString "append") (.builtin "list.append") [.r k]:=MethS.list hk PySem.F.slot_list_append PySem.F.type_list_append
theorem MethS.insert{l:List PyData}(hk:nth nx k = .lst l):MethS c ps nx (.r k) (.ofString "insert") (.builtin "list.insert") [.r k]:=MethS.list hk PySem.F.slot_list_insert PySem.F.type_list_insert
theorem MethS.pop{l:List PyData}(hk:nth nx k = .lst l):MethS c ps nx (.r k) (.ofString "pop") (.builtin "list.pop") [.r k]:=MethS.list hk PySem.F.slot_list_pop PySem.F.type_list_pop
theorem CallS.append{l:List PyData}{y:PyData}(hk:nth nx k = .lst l)(hl:l.length≤100000):CallS c ps nx (.builtin "list.append") [.r k,.d y] [] (.d .none) (upd nx k (.lst (l++[y]))):=fun z s xs O hx Q q=>by
 obtain ⟨_,us,rfl,⟨a,ha,rfl⟩,h2⟩:=hx.cons_
 obtain ⟨b,us,rfl,hb,h3⟩:=h2.cons_
 rw [h3.nil_]
 refine O.obj ha fun m o news g F N U ro _ _ G=>?_
 rw [hk] at ro
 obtain ⟨vs,n,rfl,rv⟩:=ro
 exact zRu F N U (rv.len▸hl) fun h' F' N'=>q z _ _ (.refl _) (G _ _ h' s.toks ⟨_,_,rfl,rv.append (.cons hb .nil)⟩ F' N') .none
theorem CallS.insert{l:List PyData}{y:PyData}{j:Nat}(hk:nth nx k = .lst l)(hl:l.length≤100000)(hj:j≤l.length):CallS c ps nx (.builtin "list.insert") [.r k,.d (.int j),.d y] [] (.d .none) (upd nx k (.lst (l.take j++y::l.drop j))):=fun z s xs O hx Q q=>by
 obtain ⟨_,us,rfl,⟨a,ha,rfl⟩,h2⟩:=hx.cons_
 obtain ⟨b,us,rfl,hb,h3⟩:=h2.cons_
 obtain ⟨t,rfl⟩:=DRep.int_ hb
 obtain ⟨e,us,rfl,he,h4⟩:=h3.cons_
 rw [h4.nil_]
 refine O.obj ha fun m o news g F N U ro _ _ G=>?_
 rw [hk] at ro
 obtain ⟨vs,n,rfl,rv⟩:=ro
 exact zSo F N U (rv.len▸hj) (rv.len▸hl) fun h' F' N'=>q z _ _ (.refl _) (G _ _ h' s.toks ⟨_,_,rfl,rv.take.append (.cons he rv.drop)⟩ F' N') .none
theorem CallS.popAt{l:List PyData}{y:PyData}{j:Nat}(hk:nth nx k = .lst l)(hl:l.length≤100000)(hj:l[j]? = some y):CallS c ps nx (.builtin "list.pop") [.r k,.d (.int j)] [] (.d y) (upd nx k (.lst (l.take j++l.drop (j+1)))):=fun z s xs O hx Q q=>by
 obtain ⟨_,us,rfl,⟨a,ha,rfl⟩,h2⟩:=hx.cons_
 obtain ⟨b,us,rfl,hb,h3⟩:=h2.cons_
 obtain ⟨t,rfl⟩:=DRep.int_ hb
 rw [h3.nil_]
 refine O.obj ha fun m o news g F N U ro _ _ G=>?_
 rw [hk] at ro
 obtain ⟨vs,n,rfl,rv⟩:=ro
 obtain ⟨v,hv,rv'⟩:=rv.at hj
 exact zWv F N U hv (rv.len▸hl) fun h' F' N'=>q z _ _ (.refl _) (G _ _ h' s.toks ⟨_,_,rfl,rv.take.append rv.drop⟩ F' N') rv'
theorem CallS.len{l:List PyData}(hk:nth nx k = .lst l)(hl:l.length≤100000):CallS c ps nx (.builtin "len") [.r k] [] (.d (.int l.length)) nx:=fun z s xs O hx Q q=>by
 obtain ⟨_,us,rfl,⟨a,ha,rfl⟩,h2⟩:=hx.cons_
 rw [h2.nil_]
 refine O.obj ha fun m o news g F N U ro _ _ G=>?_
 rw [hk] at ro
 obtain ⟨vs,n,rfl,rv⟩:=ro
 exact zZc N (zA2 U) (rv.len▸hl) (q z _ _ (.refl _) (O.toks _) (rv.len▸.int))
theorem CallS.lenD{l:List PyData}(hl:l.length≤100000):CallS c ps nx (.builtin "len") [.d (.list l)] [] (.d (.int l.length)) nx:=fun z s xs O hx Q q=>by
 obtain ⟨_,us,rfl,ha,h2⟩:=hx.cons_
 rw [h2.nil_]
 obtain ⟨a,vs,n,rfl,hz,rv⟩:=DRep.list_ ha
 refine O.growZ fun m news F N hZ _=>?_
 exact zZc N (hZ _ hz) (rv.len▸hl) (q z _ _ (.refl _) (O.toks _) (rv.len▸.int))
theorem zAv{prog:Program}{w:World}{A:Around}{E:Value→Shared→Prop}{s:Shared}{value slice:Expr}{o i:Value}{x:zA0}{px:Pos}{Q:Value→Shared→Prop}(h:wpAny (model prog w) A (subscriptTail (.Name x px) slice o i) Q E s):wpAny (model prog w) A (subscriptTail value slice o i) Q E s:=fun Γ p hΓ=>by
 have h':=h Γ p hΓ
 unfold subscriptTail at h' ⊢
 simp only [Sem.wp_bind'] at h' ⊢
 refine Sem.wp_mono _ Γ _ (fun b p₁ s₁ h₁=>Sem.wp_mono _ Γ _ (fun r p₂ s₂ h₂=>?_) (fun _ _ _ x=>x) _ _ h₁) (fun _ _ _ x=>x) _ _ h'
 have h₃:Q r s₂:=h₂
 exact wpAny_letTemporaryGo (Q:=fun _ s=>Q r s) h₃ Γ p₂ hΓ
theorem SubS.item{value slice:Expr}{l:List PyData}{y:PyData}{j:Nat}(hk:nth nx k = .lst l)(hl:l.length≤100000)(hj:l[j]? = some y)(hs:autoParam (∀a u,subscripted slice false (.ref a) (.int j u)=operate [.ref a,.int j u] (getItem (.ref a) (.int j u))) zKr):SubS c ps nx value slice (.r k) (.d (.int j)) (.d y):=fun z s a₁ a₂ O h1 h2 Q q=>by
 obtain ⟨a,ha,rfl⟩:=h1
 obtain ⟨t,rfl⟩:=DRep.int_ h2
 refine O.obj ha fun m o news g F N U ro _ _ G=>?_
 rw [hk] at ro
 obtain ⟨vs,n,rfl,rv⟩:=ro
 obtain ⟨v,hv,rv'⟩:=rv.at hj
 have hjl:=(List.getElem?_eq_some_iff.mp hv).1
 refine zAv (x:=.ofString "x") (px:=default) ?_
 refine zUj N (zA2 U) (natCast_nonneg j) (ofNat_lt.mpr hjl) (rv.len▸hl) (fun v' e=>?_) (hs _ _) (fun _=>rfl)
 rw [toNat_natCast,hv] at e
 cases e
 exact q _ _ O rv'
theorem CallS.con0{d':Nat}{f:Addr}{vs:List SV}{kw:List (zA0×Value)}{y:PyData}(C:Con d' f (vs) kw [] (.d y) [])(hv:vs.map (SV.ren (rho [] nx.length))=vs)(hd:autoParam (ble (d'+1) d=true) T0R):CallS c ps nx (.ref f) vs kw (.d y) nx:=by
 have:=CallS.con (c:=c) (ps:=ps) (nx:=nx) [] C hd rfl rfl rfl hv
 rw [show zXm (rho [] nx.length) [] [] nx=nx from append_nil _] at this
 exact this
theorem SubS.itemD{value slice:Expr}{l:List PyData}{y:PyData}{j:Nat}(hl:l.length≤100000)(hj:l[j]? = some y)(hs:autoParam (∀a u,subscripted slice false (.ref a) (.int j u)=operate [.ref a,.int j u] (getItem (.ref a) (.int j u))) zKr):SubS c ps nx value slice (.d (.list l)) (.d (.int j)) (.d y):=fun z s a₁ a₂ O h1 h2 Q q=>by
 obtain ⟨a,vs,n,rfl,hz,rv⟩:=DRep.list_ h1
 obtain ⟨t,rfl⟩:=DRep.int_ h2
 refine O.growZ fun m news F N hZ _=>?_
 obtain ⟨v,hv,rv'⟩:=rv.at hj
 have hjl:=(List.getElem?_eq_some_iff.mp hv).1
 refine zAv (x:=.ofString "x") (px:=default) ?_
 refine zUj N (hZ _ hz) (natCast_nonneg j) (ofNat_lt.mpr hjl) (rv.len▸hl) (fun v' e=>?_) (hs _ _) (fun _=>rfl)
 rw [toNat_natCast,hv] at e
 cases e
 exact q _ _ O rv'
end
noncomputable def SV.lo(n:Nat):SV→Bool
 |.r k=>blt k n
 |_=>true
noncomputable def SO.lo(n:Nat):SO→Bool
 |.accO dk _=>blt dk n
 |.inst _ dk=>blt dk n
 |.attrs es=>es.all fun p=>p.2.lo n
 |.mat _ ck=>blt ck n
 |.cell v=>v.lo n
 |.tup vs=>vs.all fun v=>v.lo n
 |_=>true
theorem SRep.trim{z:Wd}{n:Nat}{sv:SV}{v:Value}(h:SRep z sv v)(hl:sv.lo n=true):SRep ⟨z.as.take n,z.Z⟩ sv v:=by
 induction sv with
 |d x=>exact h
 |r k=>
  obtain ⟨a,e,rfl⟩:=h
  exact ⟨a,by rw [getElem?_take_of_lt (blt_eq.mp hl)];exact e,rfl⟩
 |v x=>exact h
theorem SRepL.trim{z:Wd}{n:Nat}{svs:List SV}{vs:List Value}(h:SRepL z svs vs)(hl:(svs.all fun v=>v.lo n)=true):SRepL ⟨z.as.take n,z.Z⟩ svs vs:=by
 induction h with
 |nil=>exact .nil
 |cons a _ ih=>rw [all_cons,and_eq_true] at hl;exact .cons (a.trim hl.1) (ih hl.2)
theorem AttrL.trim{P:Params}{z:Wd}{n:Nat}{es:List (zA0×SV)}{ens:List DictEntry}(h:AttrL P z es ens)(hl:(es.all fun p=>p.2.lo n)=true):AttrL P ⟨z.as.take n,z.Z⟩ es ens:=by
 induction h with
 |nil=>exact .nil
 |cons a _ ih=>rw [all_cons,and_eq_true] at hl;exact .cons (a.trim hl.1) (ih hl.2)
theorem ORep.trim{P:Params}{z:Wd}{n:Nat}{so:SO}{a:Addr}{o:Obj}(h:ORep P z so a o)(hl:so.lo n=true):ORep P ⟨z.as.take n,z.Z⟩ so a o:=by
 induction so with
 |lst l=>exact h
 |accO dk l=>
  obtain ⟨d,vs,n',e,r⟩:=h
  exact ⟨d,vs,n',by rw [getElem?_take_of_lt (blt_eq.mp hl)];exact e,r⟩
 |inst C dk=>
  obtain ⟨d,e,r⟩:=h
  exact ⟨d,by rw [getElem?_take_of_lt (blt_eq.mp hl)];exact e,r⟩
 |attrs es=>obtain ⟨ens,e,r⟩:=h;exact ⟨ens,e,r.trim hl⟩
 |mat x ck=>
  obtain ⟨t,d,e,r⟩:=h
  exact ⟨t,d,by rw [getElem?_take_of_lt (blt_eq.mp hl)];exact e,r⟩
 |cell v=>obtain ⟨x,e,r⟩:=h;exact ⟨x,e,r.trim hl⟩
 |tup vs=>obtain ⟨x,e,r⟩:=h;exact ⟨x,e,r.trim hl⟩
 |is p=>exact h
 |gone=>exact h
theorem OReps.trim{P:Params}{z z':Wd}{x:List SO}{as:List Addr}{os:List Obj}(h:OReps P z x as os):∀{n:Nat},(∀so a o,so∈x.take n→ORep P z so a o→ORep P z' so a o)→OReps P z' (x.take n) (as.take n) (os.take n):=by
 induction h with
 |nil=>intro n _;induction n<;>exact .nil
 |cons a _ ih=>
  intro n k
  induction n with
  |zero=>exact .nil
  |succ n=>exact .cons (k _ _ _ (.head _) a) (ih fun so a o h=>k so a o (.tail _ h))
section
variable {fn:Fn}{d n₀:Nat}{c:Cx fn d n₀}{ps ps':List (zA0×SV)}{nx nx' nx₁ nx₂:List SO}{z:Wd}{s:Shared}{e l r:Expr}{pos px:Pos}{v v₁ v₂:SV}{x:zA0}{Q Q₁:Flow→Shared→Prop}{bs:List (List Stmt)}{rest body orelse:List Stmt}{k:Nat}
structure Less(n₀:Nat)(ps:List (zA0×SV))(nx:List SO)(ps':List (zA0×SV))(nx':List SO):Prop where
 names:ps'.map (fun p=>ps.lookup p.1)=ps'.map fun p=>some p.2
 objs:nx.take nx'.length=nx'
 lo:(ps'.all fun p=>p.2.lo nx'.length)=true
 lo':(nx'.all fun o=>o.lo nx'.length)=true
 ge:ble n₀ nx'.length=true
theorem zBx{β:Type}{x:zA0}{v:β}:∀{l:List (zA0×β)},l.lookup x=some v→(x,v)∈l
 |[],h=>by cases h
 |(y,u)::l,h=>by
  rw [lookup_cons] at h
  cases q:x==y with
  |true=>rw [q] at h;cases h;rw [beq_iff_eq.mp q];exact .head _
  |false=>rw [q] at h;exact .tail _ (zBx h)
theorem zPp{α β:Type}{f g:α→β}:∀{l:List α} {a:α},l.map f=l.map g→a∈l→f a=g a
 |_::_,_,e,.head _=>(List.cons.inj e).1
 |_::_,_,e,.tail _ h=>zPp (List.cons.inj e).2 h
theorem On.trimO(O:On c ps nx z s)(ho:nx.take nx'.length=nx')(lo:(ps.all fun p=>p.2.lo nx'.length)=true)(lo':(nx'.all fun o=>o.lo nx'.length)=true)(ge:ble n₀ nx'.length=true):On c ps nx' ⟨z.as.take nx'.length,z.Z⟩ s:=by
 induction O with
 |@mk hh tk gs m as os Z F K N O D G a0 Z0=>
  have hz:∀sv v,sv.lo nx'.length=true→SRep ⟨as,Z⟩ sv v→SRep ⟨as.take nx'.length,Z⟩ sv v:=fun sv v a b=>b.trim a
  refine .mk (objs:=os.take nx'.length) F (fun y sv e=>?_) (fun p hp=>?_) ?_ ⟨D.nd.sublist (List.take_sublist _ _),fun a ha=>D.az a (mem_of_mem_take ha),fun a ha=>D.ar a (mem_of_mem_take ha),D.zr⟩ G ?_ Z0
  ·obtain ⟨v,a,b⟩:=K y sv e
   exact ⟨v,a,b.trim (all_eq_true.mp lo _ (zBx e))⟩
  ·rcases mem_append.mp hp with hp|hp
   ·rw [show (as.take nx'.length).zip (os.take nx'.length)=(as.zip os).take nx'.length by simp [List.zip,List.take_zipWith]] at hp
    exact N p (mem_append_left _ (mem_of_mem_take hp))
   ·exact N p (mem_append_right _ hp)
  ·have:=O.trim (z':=⟨as.take nx'.length,Z⟩) (n:=nx'.length) fun so a o hm r=>r.trim (by rw [ho] at hm;exact all_eq_true.mp lo' _ hm)
   rw [ho] at this
   exact this
  ·rw [take_take,min_eq_left (le_of_ble_eq_true ge)]
   exact a0
theorem On.lessZ(O:On c ps nx z s)(h:Less n₀ ps nx ps' nx'):∃z',z'.Z=z.Z∧On c ps' nx' z' s:=
 ⟨⟨z.as.take nx'.length,z.Z⟩,rfl,(O.names (ps':=ps') fun x sv e=>zPp h.names (zBx e)).trimO h.objs h.lo h.lo' h.ge⟩
theorem On.less(O:On c ps nx z s)(h:Less n₀ ps nx ps' nx'):∃z',On c ps' nx' z' s:=let ⟨z',_,O'⟩:=O.lessZ h;⟨z',O'⟩
theorem J.retL{y:PyData}(h:Ev c c.env ps nx e (.d y) nx₁)(hl:Less n₀ ps nx₁ [] nx')(k:∀z s x,On c [] nx' z s→SRep z (.d y) x→Q (.ret x) s):J c Q ps nx ((.Return (some e) pos::rest)::bs):=
 J.ret h fun z s x O r=>let ⟨z',ez,O'⟩:=O.lessZ hl;k z' s x O' (by rw [SRep,ez];exact r)
theorem J.less(h:Less n₀ ps nx ps' nx')(k:J c Q ps' nx' bs):J c Q ps nx bs:=fun z s O=>let ⟨z',O'⟩:=O.less h;k z' s O'
inductive Turn2(c:Cx fn d n₀)(ps:List (zA0×SV))(nx:List SO)(test:Expr)(A B:List SO→Prop):Prop
 |mk {b nx'} (h:EvB c c.env ps nx test b nx') (k1:b=true→A nx') (k2:b=false→B nx')
structure LQ(Q Q₁:Flow→Shared→Prop)(next after:Shared→Prop):Prop where
 nx:∀s,next s→Q₁ .next s
 ct:∀s,next s→Q₁ .cont s
 br:∀s,after s→Q₁ .brk s
 rt:∀v s,Q (.ret v) s→Q₁ (.ret v) s
def Nxt{X:Type}(c:Cx fn d n₀)(P:X→Prop)(S:X→List (zA0×SV))(T:X→List SO)(s:Shared):Prop:=∃x z,P x∧On c (S x) (T x) z s
theorem J.next{X:Type}{P:X→Prop}{S:X→List (zA0×SV)}{T:X→List SO}{after:Shared→Prop}(q:LQ Q Q₁ (Nxt c P S T) after)(x:X)(hx:P x)(h:Less n₀ ps nx (S x) (T x)):J c Q₁ ps nx []:=fun z s O=>let ⟨z',O'⟩:=O.less h;q.nx s ⟨x,z',hx,O'⟩
theorem J.cont{X:Type}{P:X→Prop}{S:X→List (zA0×SV)}{T:X→List SO}{after:Shared→Prop}(q:LQ Q Q₁ (Nxt c P S T) after)(x:X)(hx:P x)(h:Less n₀ ps nx (S x) (T x)):J c Q₁ ps nx ((.Continue pos::rest)::bs):=
 fun z s O=>wpAny_execs_cons (show wpAny _ _ (exec (.Continue pos) _) _ _ _ from fun _ _ _=>let ⟨z',O'⟩:=O.less h;q.ct s ⟨x,z',hx,O'⟩)
theorem J.while{X:Type}(μ:X→Nat)(P:X→Prop)(S:X→List (zA0×SV))(T:X→List SO)(x₀:X)(hx:P x₀)(h0:Less n₀ ps nx (S x₀) (T x₀))(turn:∀x,P x→Turn2 c (S x) (T x) e (fun nx'=>∀Q₁,LQ Q Q₁ (Nxt c (fun y=>P y∧μ y<μ x) S T) (wpB c Q (rest::bs))→J c Q₁ (S x) nx' [body]) (fun nx'=>J c Q (S x) nx' (rest::bs))):J c Q ps nx ((.While e body [] pos::rest)::bs):=fun z s O=>by
 obtain ⟨z',O'⟩:=O.less h0
 refine wpAny_execs_cons (wpAny_While ?_)
 refine codeAny_whileLoop (fun n s'=>∃x z,P x∧μ x=n∧On c (S x) (T x) z s') ?_ (μ x₀) ⟨x₀,z',hx,rfl,O'⟩
 rintro n s' ⟨x,z,px,rfl,Ox⟩
 obtain ⟨h,k1,k2⟩:=turn x px
 have hE:∀e s',noE e s'→notedBy (model pw c.w) c.A c.env (fun e s'=>match (Except.error e:Result) with | .ok f=>(fun f s'=>match f with | .next=>wpB c Q (rest::bs) s'|f=>Q f s') f s' | .error e=>cameBackBy c.M c.A c.env noE e s') e s':=fun _ _ h=>h.elim
 refine wpAny_mono (h z s' Ox (fun b s₂=>_) ?_) (fun _ _ h=>h) fun _ _ h=>h.elim
 intro z₂ s₂ l₂ O₂
 cases (‹Bool› : Bool) with
 |true=>
  refine wpAny_mono (k1 rfl (fun f s₃=>match f with | .next | .cont=>∃m,m<μ x∧∃x z,P x∧μ x=m∧On c (S x) (T x) z s₃ | .brk=>wpB c Q (rest::bs) s₃ | .ret v=>Q (.ret v) s₃) ⟨?_,?_,?_,?_⟩ z₂ s₂ O₂) (fun f s₃ h₃=>?_) fun _ _ h=>h.elim
  ·rintro s ⟨y,z,⟨py,ly⟩,Oy⟩;exact ⟨_,ly,y,z,py,rfl,Oy⟩
  ·rintro s ⟨y,z,⟨py,ly⟩,Oy⟩;exact ⟨_,ly,y,z,py,rfl,Oy⟩
  ·exact fun s h=>h
  ·exact fun v s h=>h
  ·induction f<;>exact h₃
 |false=>
  exact wpAny_execs_nil (k2 rfl z₂ s₂ O₂)
end
noncomputable def zXh(k:Nat)(l:List PyData):SV→SV
 |.r j=>bif Nat.beq j k then .d (.list l) else .r j
 |v=>v
noncomputable def frz(k:Nat)(l:List PyData)(ps:List (zA0×SV)):List (zA0×SV):=ps.map fun p=>(p.1,zXh k l p.2)
theorem zGp{k:Nat}{l:List PyData}{x:zA0}{sv:SV}:∀{ps:List (zA0×SV)},(frz k l ps).lookup x=some sv→∃sv',ps.lookup x=some sv'∧sv=zXh k l sv'
 |[],h=>nomatch h
 |(y,v)::ps,h=>by
  have h':((y,zXh k l v)::frz k l ps).lookup x=some sv:=h
  rw [lookup_cons] at h' ⊢
  cases q:x==y with
  |true=>rw [q] at h';cases h';exact ⟨v,rfl,rfl⟩
  |false=>rw [q] at h';exact zGp h'
theorem SRep.frz{as:List Addr}{Z:List (Addr×Obj)}{k:Nat}{a:Addr}{o:Obj}{l:List PyData}{sv:SV}{v:Value}(ha:as[k]? = some a)(hd:DRep ((a,o)::Z) (.list l) (.ref a))(r:SRep ⟨as,Z⟩ sv v)(lo:(zXh k l sv).lo k=true):SRep ⟨as.take k,(a,o)::Z⟩ (zXh k l sv) v:=by
 induction sv with
 |d x=>exact DRep.mono (fun _ h=>.tail _ h) r
 |v x=>exact r
 |r j=>
  obtain ⟨b,hb,rfl⟩:=r
  have ef:zXh k l (.r j)=(bif Nat.beq j k then .d (.list l) else .r j):=rfl
  rw [ef] at lo ⊢
  cases q:Nat.beq j k with
  |true=>
   have:=Nat.eq_of_beq_eq_true q
   subst this
   have hb':as[j]? = some b:=hb
   rw [ha] at hb'
   cases hb'
   exact hd
  |false=>
   rw [q] at lo
   exact ⟨b,by rw [getElem?_take_of_lt (blt_eq.mp lo)];exact hb,rfl⟩
section
variable {fn:Fn}{d n₀:Nat}{c:Cx fn d n₀}{ps:List (zA0×SV)}{nx nx' nx₁:List SO}{z:Wd}{s:Shared}{l:List PyData}{Q:Flow→Shared→Prop}{bs:List (List Stmt)}{rest:List Stmt}{e:Expr}{pos:Pos}
theorem zLp:∀{nx:List SO} {o:SO},nth (nx++[o]) nx.length=o
 |[],_=>rfl
 |_::nx,o=>zLp (nx:=nx)
theorem On.freeze(O:On c ps (nx++[.lst l]) z s)(lo:((frz nx.length l ps).all fun p=>p.2.lo nx.length)=true)(lo':(nx.all fun o=>o.lo nx.length)=true)(ge:ble n₀ nx.length=true):
  ∃a o,z.as[nx.length]? = some a∧DRep ((a,o)::z.Z) (.list l) (.ref a)∧On c (frz nx.length l ps) nx ⟨z.as.take nx.length,(a,o)::z.Z⟩ s:=by
 induction O with
 |@mk hh tk gs m as os Z F K N O D G a0 Z0=>
  have hl:=O.len.1
  rw [length_append,length_singleton] at hl
  have hk:nx.length<as.length:=by rw [hl];exact lt_succ_self _
  have ha:=getElem?_eq_getElem hk
  obtain ⟨o,e1,ro,hm⟩:=O.at ha
  rw [zLp] at ro
  obtain ⟨vs,n,rfl,hr⟩:=ro
  have ham:=getElem_mem hk
  have hd:DRep ((as[nx.length],listOf vs.toArray n)::Z) (.list l) (.ref as[nx.length]):=.list (.head _) (hr.mono fun _ h=>.tail _ h)
  refine ⟨_,_,ha,hd,.mk (objs:=os.take nx.length) F (fun y sv e=>?_) (fun p hp=>?_) ?_ ⟨D.nd.sublist (List.take_sublist _ _),fun a ha p hp=>?_,fun a ha=>D.ar a (mem_of_mem_take ha),fun p hp q hq=>?_⟩ G ?_ fun p hp=>.tail _ (Z0 p hp)⟩
  ·obtain ⟨sv',e',rfl⟩:=zGp e
   obtain ⟨v,p,q⟩:=K y sv' e'
   exact ⟨v,p,q.frz ha hd (all_eq_true.mp lo _ (zBx e))⟩
  ·rcases mem_append.mp hp with hp|hp
   ·rw [show (as.take nx.length).zip (os.take nx.length)=(as.zip os).take nx.length by simp [List.zip,List.take_zipWith]] at hp
    exact N p (mem_append_left _ (mem_of_mem_take hp))
   rcases mem_append.mp hp with hp|hp
   ·rcases mem_cons.mp hp with rfl|hp
    ·exact N _ (mem_append_left _ hm)
    ·exact N p (mem_append_right _ (mem_append_left _ hp))
   ·exact N p (mem_append_right _ (mem_append_right _ hp))
  ·have:=O.trim (z':=⟨as.take nx.length,(as[nx.length],listOf vs.toArray n)::Z⟩) (n:=nx.length) fun so a o hm r=>(r.trim (n:=nx.length) (by
    rw [List.take_append_of_le_length (le_refl _),take_length] at hm
    exact all_eq_true.mp lo' _ hm)).mono ⟨⟨[],by simp⟩,fun _ h=>.tail _ h⟩
   rw [List.take_append_of_le_length (le_refl _),take_length] at this
   exact this
  ·rcases mem_cons.mp hp with rfl|hp
   ·intro e
    obtain ⟨i,hi,ei⟩:=List.getElem_of_mem ha
    rw [List.getElem_take] at ei
    rw [length_take] at hi
    have h1:as[i]? = some a:=by rw [getElem?_eq_getElem (by lia),ei]
    have h2:as[nx.length]? = some a:=by rw [‹as[nx.length]? = _›];exact congrArg some e
    have:=zGv D.nd h1 h2
    lia
   ·exact D.az a (mem_of_mem_take ha) p hp
  ·rcases mem_cons.mp hp with rfl|hp
   ·exact Ne.symm (D.ar _ ham q hq)
   ·exact D.zr p hp q hq
  ·rw [take_take,min_eq_left (le_of_ble_eq_true ge)]
   exact a0
theorem Ev.ifb{E:Env}{b:Bool}{t f:Expr}{v:SV}(h:EvB c E ps nx e b nx₁)(hb:b=true)(k:Ev c E ps nx₁ t v nx'):Ev c E ps nx (.IfExp e t f pos) v nx':=by
 subst hb
 exact Ev.ift h k
theorem J.freeze(k:J c Q (frz nx.length l ps) nx bs)(lo:autoParam (((frz nx.length l ps).all fun p=>p.2.lo nx.length)=true) T0R)(lo':autoParam ((nx.all fun o=>o.lo nx.length)=true) T0R)(ge:autoParam (ble n₀ nx.length=true) T0R):J c Q ps (nx++[.lst l]) bs:=fun z s O=>
 let ⟨_,_,_,_,O'⟩:=O.freeze lo lo' ge;k _ s O'
theorem J.retF(h:Ev c c.env ps nx₁ e (.r nx.length) nx')(hl:nx'.take (nx.length+1)=nx++[SO.lst l])(q:∀z s x,On c [] (nx.take n₀) z s→SRep z (.d (.list l)) x→Q (.ret x) s)(lo1:autoParam (((nx++[SO.lst l]).all fun o=>o.lo (nx++[SO.lst l]).length)=true) T0R)(lo':autoParam ((nx.all fun o=>o.lo nx.length)=true) T0R)(lo2:autoParam (((nx.take n₀).all fun o=>o.lo (nx.take n₀).length)=true) T0R)(ge:autoParam (ble n₀ nx.length=true) T0R):
  J c Q ps nx₁ ((.Return (some e) pos::rest)::bs):=J.ret h fun z s x O r=>by
 obtain ⟨a,ha,rfl⟩:=r
 have hge:=le_of_ble_eq_true ge
 have O₁:=(O.names (ps':=[]) fun _ _ e=>nomatch e).trimO (nx':=nx++[SO.lst l]) (by rw [length_append,length_singleton];exact hl) rfl lo1 (Nat.ble_eq.mpr (by rw [length_append];(exact le_succ_of_le (by assumption))))
 obtain ⟨a',o,ha',hd,O₂⟩:=O₁.freeze rfl lo' ge
 have e:a'=a:=by
  have:(z.as.take (nx++[SO.lst l]).length)[nx.length]? = some a':=ha'
  rw [getElem?_take_of_lt (by rw [length_append,length_singleton];lia),ha] at this
  exact (Option.some.inj this).symm
 subst e
 have O₃:=O₂.trimO (nx':=nx.take n₀) (by rw [length_take,min_eq_left hge]) rfl lo2 (Nat.ble_eq.mpr (by rw [length_take,min_eq_left hge];exact le_refl _))
 exact q _ s _ O₃ hd
end
section
variable {fn:Fn}{d n₀:Nat}
noncomputable def Cx.hid(c:Cx fn d n₀)(p:Addr×Obj)(Z:List (Addr×Obj)):Cx fn d n₀:={c with R:=p::c.R,Z₀:=Z}
variable {c:Cx fn d n₀}{ps ps':List (zA0×SV)}{nx nx' nx₁ nx₂:List SO}{z:Wd}{s:Shared}{e l r:Expr}{pos px:Pos}{v v₁ v₂:SV}{x:zA0}{Q Q₁:Flow→Shared→Prop}{bs:List (List Stmt)}{rest body orelse:List Stmt}{k:Nat}{p:Addr×Obj}{Z:List (Addr×Obj)}
theorem On.hide(O:On c ps nx z s){o:Obj}(hf:o.isFreed=false)(tk:Nat):On (c.hid (s.heap.objs.size,o) z.Z) ps nx z {s with heap:=s.heap.push o,toks:=tk}:=by
 induction O with
 |@mk h t gs m as os Z F K N O D G a0 Z0=>
  have fresh:∀p∈as.zip os++(Z++c.R),p.1≠h.objs.size:=fun p hp=>ne_of_lt (Heap.lt_size (N p hp).1)
  have N':=News.push F N o hf
  refine .mk (c:=c.hid (h.objs.size,o) Z) (F.push o) K (fun p hp=>N' p ?_) O ⟨D.nd,D.az,fun a ha p hp=>?_,fun p hp q hq=>?_⟩ G a0 fun p hp=>hp
  ·rcases mem_append.mp hp with hp|hp
   ·exact .tail _ (mem_append_left _ hp)
   ·rcases mem_append.mp hp with hp|hp
    ·exact .tail _ (mem_append_right _ (mem_append_left _ hp))
    ·rcases mem_cons.mp hp with rfl|hp
     ·exact .head _
     ·exact .tail _ (mem_append_right _ (mem_append_right _ hp))
  ·rcases mem_cons.mp hp with rfl|hp
   ·obtain ⟨i,hi⟩:=getElem?_of_mem ha
    obtain ⟨o',_,_,e3⟩:=O.at hi
    exact Ne.symm (fresh (a,o') (mem_append_left _ e3))
   ·exact D.ar a ha p hp
  ·rcases mem_cons.mp hq with rfl|hq
   ·exact fresh p (mem_append_right _ (mem_append_left _ hp))
   ·exact D.zr p hp q hq
theorem On.show(O:On (c.hid p Z) ps nx z s)(h:∀q∈c.Z₀,q∈Z):On c ps nx z s:=by
 induction O with
 |mk F K N O D G a0 Z0=>exact .mk F K (fun q hq=>N q ((mem_append.mp hq).elim (mem_append_left _) fun hq=>mem_append_right _ ((mem_append.mp hq).elim (mem_append_left _) fun hq=>mem_append_right _ (.tail _ hq)))) O ⟨D.nd,D.az,fun a ha q hq=>D.ar a ha q (.tail _ hq),fun a ha q hq=>D.zr a ha q (.tail _ hq)⟩ G a0 fun q hq=>Z0 q (h q hq)
theorem On.bare(O:On (c.hid p Z) ps nx z s)(h:∀q∈c.Z₀,q∈Z){h':Heap}{tk:Nat}(hk:∀b o,b≠p.1→s.heap.get? b=some o→h'.get? b=some o)(hR:∀q∈c.R,q.1≠p.1):On c ps nx z {s with heap:=h',toks:=tk}:=by
 induction O with
 |@mk hh t gs m as os Z' F K N O D G a0 Z0=>
  have hp:=N p (mem_append_right _ (mem_append_right _ (.head _)))
  have old:∀b o,c.h₀.get? b=some o→b≠p.1:=fun b o e q=>by have h2:c.h₀.get? p.1=none:=hp.2.2;rw [q,h2] at e;cases e
  refine .mk (c:=c) ⟨F.ns.at' fun o e=>hk _ o (Ne.symm hp.2.1) e,fun b o e=>hk b o (old b o e) (F.keep b o e),F.above⟩ K (fun q hq=>?_) O ⟨D.nd,D.az,fun a ha q hq=>D.ar a ha q (.tail _ hq),fun a ha q hq=>D.zr a ha q (.tail _ hq)⟩ G a0 fun q hq=>Z0 q (h q hq)
  rcases mem_append.mp hq with hq|hq
  ·obtain ⟨a,b,e⟩:=N q (mem_append_left _ hq)
   exact ⟨hk _ _ (fun e=>D.ar q.1 (of_mem_zip (a:=q.1) (b:=q.2) hq).1 p (.head _) e.symm) a,b,e⟩
  rcases mem_append.mp hq with hq|hq
  ·obtain ⟨a,b,e⟩:=N q (mem_append_right _ (mem_append_left _ hq))
   exact ⟨hk _ _ (D.zr q hq p (.head _)) a,b,e⟩
  ·obtain ⟨a,b,e⟩:=N q (mem_append_right _ (mem_append_right _ (.tail _ hq)))
   exact ⟨hk _ _ (hR q hq) a,b,e⟩
theorem On.hid_at(O:On (c.hid p Z) ps nx z s):s.heap.get? p.1=some p.2∧p.1≠c.L∧c.h₀.get? p.1=none∧∀q∈Z,s.heap.get? q.1=some q.2:=by
 induction O with
 |mk F K N O D G a0 Z0=>
  have:=N p (mem_append_right _ (mem_append_right _ (.head _)))
  exact ⟨this.1,this.2.1,this.2.2,fun q hq=>(N q (mem_append_right _ (mem_append_left _ (Z0 q hq)))).1⟩
theorem On.hid_set(O:On (c.hid p Z) ps nx z s){h':Heap}{o':Obj}{tk:Nat}(hk:∀b o,b≠p.1→s.heap.get? b=some o→h'.get? b=some o)(ho:h'.get? p.1=some o')(hR:∀q∈c.R,q.1≠p.1):On (c.hid (p.1,o') Z) ps nx z {s with heap:=h',toks:=tk}:=by
 induction O with
 |@mk h t gs m as os Z' F K N O D G a0 Z0=>
  have hp:=N p (mem_append_right _ (mem_append_right _ (.head _)))
  have old:∀b o,c.h₀.get? b=some o→b≠p.1:=fun b o e q=>by have h2:c.h₀.get? p.1=none:=hp.2.2;rw [q,h2] at e;cases e
  refine .mk (c:=c.hid (p.1,o') Z) ⟨F.ns.at' fun o e=>hk _ o (Ne.symm hp.2.1) e,fun b o e=>hk b o (old b o e) (F.keep b o e),F.above⟩ K (fun q hq=>?_) O ⟨D.nd,D.az,fun a ha q hq=>?_,fun a ha q hq=>?_⟩ G a0 Z0
  ·rcases mem_append.mp hq with hq|hq
   ·obtain ⟨a,b,e⟩:=N q (mem_append_left _ hq)
    exact ⟨hk _ _ (fun e=>D.ar q.1 (of_mem_zip (a:=q.1) (b:=q.2) hq).1 p (.head _) e.symm) a,b,e⟩
   rcases mem_append.mp hq with hq|hq
   ·obtain ⟨a,b,e⟩:=N q (mem_append_right _ (mem_append_left _ hq))
    exact ⟨hk _ _ (D.zr q hq p (.head _)) a,b,e⟩
   rcases mem_cons.mp hq with rfl|hq
   ·exact ⟨ho,hp.2⟩
   ·obtain ⟨a,b,e⟩:=N q (mem_append_right _ (mem_append_right _ (.tail _ hq)))
    exact ⟨hk _ _ (hR q hq) a,b,e⟩
  ·rcases mem_cons.mp hq with rfl|hq
   ·exact D.ar a ha p (.head _)
   ·exact D.ar a ha q (.tail _ hq)
  ·rcases mem_cons.mp hq with rfl|hq
   ·exact D.zr a ha p (.head _)
   ·exact D.zr a ha q (.tail _ hq)
theorem On.freshR(O:On c ps nx z s):(∀q∈c.R,q.1≠s.heap.objs.size)∧∀q∈c.Z₀,q∈z.Z:=by
 induction O with
 |mk F K N O D G a0 Z0=>exact ⟨fun q hq=>ne_of_lt (Heap.lt_size (N q (mem_append_right _ (mem_append_right _ hq))).1),Z0⟩
structure Sub(c' c:Cx fn d n₀):Prop where
 on:∀ps nx z s,On c' ps nx z s→On c ps nx z s
 L:c'.L=c.L
 as:c'.as₀=c.as₀
 H:c'.h₀=c.h₀
theorem zFk{X:Type}{I:Addr}{fp:List Addr}{n:Nat}{P:Nat→Value→Prop}{St:Nat→Heap→Prop}(W:Walks pw c.w c.A I fp [I] n P St)(hob:∀i h,St i h→∃o,h.get? I=some o)(hfp:∀b∈fp,b=I∨∃o,(b,o)∈Z)(hR:∀q∈c.R,q.1≠I)(hZ:∀q∈c.Z₀,q∈Z)(V:Nat→SV)(hV:∀i v z,(∀q∈Z,q∈z.Z)→i<n→P i v→SRep z (V i) v)(J₀:Nat→X→Prop)(S:Nat→X→List (zA0×SV))(T:Nat→X→List SO)(x₀:X)(hx₀:J₀ 0 x₀){o:Obj}(O:On (c.hid (I,o) Z) (S 0 x₀) (T 0 x₀) z s)(hst:St 0 s.heap)(turn:∀i y,i<n→J₀ i y→∀(c':Cx fn d n₀) Q₁,Sub c' c→LQ Q Q₁ (Nxt c' (J₀ (i+1)) (S (i+1)) (T (i+1))) (wpB c Q (rest::bs))→J c' Q₁ ((x,V i)::S i y) (T i y) [body])(done:∀y,J₀ n y→J c Q (S n y) (T n y) (orelse::rest::bs)){R:Result→Shared→Prop}(hn:∀s,wpB c Q (rest::bs) s→R (.ok .next) s)(hf:∀f s,f≠.next→Q f s→R (.ok f) s)(hx:autoParam (fn.scope.names.lookup x=some .local) T0R):
  codeAny c.M c.A (.forLoop (.Name x px) (.ref I) body orelse c.env) R s:=by
 refine codeAny_forLoop (fun k s'=>∃i y o z,k=n+1-i∧i≤n∧J₀ i y∧St i s'.heap∧On (c.hid (I,o) Z) (S i y) (T i y) z s') ?_ (n+1) ⟨0,x₀,o,z,rfl,zero_le _,hx₀,hst,O⟩
 rintro k s' ⟨i,y,o,z,rfl,hi,hJ,hst',O'⟩
 have zin:∀{o ps nx z s},On (c.hid (I,o) Z) ps nx z s→∀q∈Z,q∈z.Z:=fun O=>by induction O with|mk F K N O D G a0 Z0=>exact Z0
 have keepSt:∀{o ps nx z ps' nx' z' i} {s s':Shared},On (c.hid (I,o) Z) ps nx z s→On (c.hid (I,o) Z) ps' nx' z' s'→St i s.heap→St i s'.heap:=fun A B st=>W.frame _ _ _ st fun b hb o' e=>by
  have h1:=A.hid_at
  have h2:=B.hid_at
  rcases hfp b hb with rfl|⟨ob,hz⟩
  ·exact h2.1.trans (h1.1.symm.trans e)
  ·exact (h2.2.2.2 _ hz).trans ((h1.2.2.2 _ hz).symm.trans e)
 by_cases hlt:i<n
 ·refine W.item i _ _ _ hlt hst' fun v h₁ tk₁ hP hst₁ hk₁=>?_
  obtain ⟨o₁,ho₁⟩:=hob _ _ hst₁
  have O₁:=O'.hid_set (h':=h₁) (o':=o₁) (tk:=tk₁) (fun b o hb e=>hk₁ b o (fun q=>hb (mem_singleton.mp q)) e) ho₁ hR
  refine wpAny_assign_Name ?_
  refine wpAny_mono (zB5 (c:=c.hid (I,o₁) Z) O₁ (hV i v z (zin O₁) hlt hP) (Q:=fun _ s₂=>∃z,On (c.hid (I,o₁) Z) ((x,V i)::S i y) (T i y) z s₂) (fun s₂ O₂=>⟨z,O₂⟩) hx) (fun _ s₂ h₂=>?_) fun _ _ h=>h.elim
  obtain ⟨z₂,O₂⟩:=h₂
  refine wpAny_mono (turn i y hlt hJ (c.hid (I,o₁) Z) (fun f s₃=>match f with | .next | .cont=>∃m,m<n+1-i∧∃i y o z,m=n+1-i∧i≤n∧J₀ i y∧St i s₃.heap∧On (c.hid (I,o) Z) (S i y) (T i y) z s₃ | .brk=>wpB c Q (rest::bs) s₃ | .ret v=>Q (.ret v) s₃) ⟨fun _ _ _ _ O=>O.show hZ,rfl,rfl,rfl⟩ ⟨?_,?_,fun s h=>h,fun v s h=>h⟩ z₂ s₂ O₂) (fun f s₃ h₃=>?_) fun _ _ h=>h.elim
  ·rintro s ⟨y',z',hy,Oy⟩
   exact ⟨n+1-(i+1),by lia,i+1,y',o₁,z',rfl,hlt,hy,keepSt O₁ Oy hst₁,Oy⟩
  ·rintro s ⟨y',z',hy,Oy⟩
   exact ⟨n+1-(i+1),by omega,i+1,y',o₁,z',rfl,hlt,hy,keepSt O₁ Oy hst₁,Oy⟩
  ·induction f with
   |ret v=>exact hf _ _ (fun e=>nomatch e) h₃
   |brk=>exact hn _ h₃
   |next=>exact h₃
   |cont=>exact h₃
 ·have hin:i=n:=by lia
  subst hin
  refine W.done _ _ _ hst' fun h₁ tk₁ hk₁=>?_
  refine wpAny_mono (done y hJ z _ (O'.bare (h':=h₁) (tk:=tk₁) hZ (fun b o hb e=>hk₁ b o (fun q=>hb (mem_singleton.mp q)) e) hR)) (fun f s h=>?_) fun _ _ h=>h.elim
  induction f with
  |next=>exact hn s h
  |_=>exact hf _ s (fun e=>nomatch e) h
noncomputable abbrev zEs(a b st:Int):SO:=.is fun _ _ o=>∃t u v,o = {cls:=.type "range",data:=.fields #[.int a t,.int b u,.int st v]}
theorem J.forRange{X:Type}{a b st:Int}(n:Nat)(J₀:Nat→X→Prop)(S:Nat→X→List (zA0×SV))(T:Nat→X→List SO)(x₀:X)(hx₀:J₀ 0 x₀)(h:Ev c c.env ps nx e (.r k) nx')(hk:nth nx' k=zEs a b st)(hsm:Builtin.Range.small a b st=true)(hsz:Builtin.Range.rangeSize a b st=(n:Int))(hl:Less n₀ ps nx' (S 0 x₀) (T 0 x₀))(turn:∀i y,i<n→J₀ i y→∀(c':Cx fn d n₀) Q₁,Sub c' c→LQ Q Q₁ (Nxt c' (J₀ (i+1)) (S (i+1)) (T (i+1))) (wpB c Q (rest::bs))→J c' Q₁ ((x,.d (.int (a+(i:Nat)*st)))::S i y) (T i y) [body])(done:∀y,J₀ n y→J c Q (S n y) (T n y) (orelse::rest::bs))(hx:autoParam (fn.scope.names.lookup x=some .local) T0R)(hs:autoParam (∀x,foldedSetIterable e c.env x=pure x) T0I):J c Q ps nx ((.For (.Name x px) e body orelse pos::rest)::bs):=fun z s O=>by
 refine wpAny_execs_cons (wpAny_For (h z s O _ fun z₁ s₁ v l₁ O₁ r₁=>?_) hs)
 obtain ⟨ra,hra,rfl⟩:=r₁
 refine O₁.obj hra fun m o news g F N U ro _ _ _=>?_
 rw [hk] at ro
 obtain ⟨t,u,v,rfl⟩:=ro
 refine wpAny_pyIter_range (N _ (zA2 U)).1 hsm ?_
 have O₂:=On.hide O₁ (o:={cls:=.type "range_iterator",data:=.fields #[rawInt a,rawInt (Builtin.Range.rangeSize a b st),rawInt st]}) rfl s₁.toks
 obtain ⟨z₃,O₃⟩:=On.less O₂ hl
 obtain ⟨fR,fZ⟩:=O₁.freshR
 refine zFk (Walks.range rfl _ a st n) (fun i h hi=>⟨_,hi⟩) (fun b hb=>.inl (mem_singleton.mp hb)) fR fZ (fun i=>.d (.int (a+(i:Nat)*st))) ?_ J₀ S T x₀ hx₀ O₃ ?_ turn done (fun s h=>h) (fun f s hf h=>by induction f<;>first|exact h|exact absurd rfl hf) hx
 ·rintro i v z _ _ ⟨t,rfl⟩
  exact .int
 ·show IsRangeIter _ _ _ _ _
  rw [hsz]
  simpa using Heap.get?_push_size _ rfl
end
theorem CmpS.isN{fn:Fn}{d n₀:Nat}{c:Cx fn d n₀}{ps:List (zA0×SV)}{nx:List SO}:CmpS c ps nx .Is (.d .none) (.d .none) true:=fun z s a b O h1 h2 Q k=>by
 cases DRep.none_ h1
 cases DRep.none_ h2
 exact is_none_gen (k _ O)
noncomputable def notNone:SV→Bool
 |.d .none=>false
 |.d _=>true
 |.r _=>true
 |.v x=>x != .none
theorem SRep.notNone{z:Wd}{sv:SV}{a:Value}(h:SRep z sv a)(hs:notNone sv=true):(a == .none)=false:=by
 induction sv with
 |d x=>cases h<;>first|rfl|cases hs
 |r k=>obtain ⟨b,_,rfl⟩:=h;rfl
 |v x=>
  induction h
  have hs':(a != .none)=true:=hs
  simpa using hs'
theorem CmpS.isX{fn:Fn}{d n₀:Nat}{c:Cx fn d n₀}{ps:List (zA0×SV)}{nx:List SO}{sv:SV}(hs:autoParam (notNone sv=true) T0R):CmpS c ps nx .Is sv (.d .none) false:=fun z s a b O h1 h2 Q k=>by
 cases DRep.none_ h2
 exact is_none_gen (h1.notNone hs▸k _ O)
theorem zKd(P:Params):nsIn (kW P) mainGlobals (.ofString "unmatched")=some (some (.ref 45)):=by kernel_rfl
theorem zD9(P:Params):nsIn (kW P) mainGlobals (.ofString "len")=some none:=by kernel_rfl
theorem zAr(P:Params):nsIn (kW P) mainGlobals (.ofString "range")=some none:=by kernel_rfl
theorem zJ4(P:Params):nsIn (kW P) mainGlobals (.ofString "bisect_left")=some (some (.ref 105)):=by kernel_rfl
theorem zL8(P:Params):nsIn (kW P) mainGlobals (.ofString "bisect_right")=some (some (.ref 87)):=by kernel_rfl
theorem zJn(P:Params):keepIn (kW P) (.ref 105)=true:=by kernel_rfl
theorem zLx(P:Params):keepIn (kW P) (.ref 87)=true:=by kernel_rfl
theorem zD8:bootBuiltins (.ofString "len")=some (.builtin "len"):=by kernel_rfl
theorem zWc(lo hi:Nat):((lo:Int)+(hi:Int)).fdiv 2=(((lo+hi)/2:Nat):Int):=by
 rw [Int.fdiv_eq_ediv_of_nonneg _ (by decide)]
 rfl
theorem BinS.half{fn:Fn}{d n₀:Nat}{c:Cx fn d n₀}{ps:List (zA0×SV)}{nx:List SO}{lo hi:Nat}(h:lo+hi≤4000):BinS c ps nx .FloorDiv (.d (.int ((lo:Int)+(hi:Int)))) (.d (.int 2)) (.d (.int ((lo+hi)/2:Nat))) nx:=
 zWc lo hi▸BinS.fdI (by decide) (PyProof.noPylong_small (by decide))
theorem BinS.succ{fn:Fn}{d n₀:Nat}{c:Cx fn d n₀}{ps:List (zA0×SV)}{nx:List SO}{lo:Nat}:BinS c ps nx .Add (.d (.int (lo:Nat))) (.d (.int 1)) (.d (.int (lo+1:Nat))) nx:=BinS.addI
noncomputable def zJ2:Fn:=⟨.ofString "bisect_left",zAl (stAt 12),105,.ref 104,fun _=>[],rfl⟩
noncomputable def zL6:Fn:=⟨.ofString "bisect_right",zAl (stAt 10),87,.ref 86,fun _=>[],rfl⟩
noncomputable abbrev pints(S:List Int):List PyData:=S.map .int
theorem zLu{S:List Int}{i:Nat}(h:i<S.length):(pints S)[i]? = some (.int (S.getD i 0)):=by
 rw [getElem?_map,getElem?_eq_getElem h,getD_eq_getElem?_getD,getElem?_eq_getElem h]
 rfl
theorem zF1{S:List Int}{i:Nat}(h:i<S.length):S[i]? = some (S.getD i 0):=by
 rw [getElem?_eq_getElem h,getD_eq_getElem?_getD,getElem?_eq_getElem h]
 rfl
theorem pil(S:List Int):(pints S).length=S.length:=length_map ..
theorem zFl{lo hi:Nat}(h:lo<hi):lo≤(lo+hi)/2∧(lo+hi)/2<hi:=by lia
noncomputable abbrev yD8(S:List Int)(z:Int)(lo hi:Nat):List (zA0×SV):=[(.ofString "a",.r 0),(.ofString "x",.d (.int z)),(.ofString "lo",.d (.int lo)),(.ofString "hi",.d (.int hi))]
noncomputable abbrev zV6(x:SV)(key:SV):List (zA0×SV):=[(.ofString "a",.r 0),(.ofString "x",x),(.ofString "lo",.d (.int 0)),(.ofString "hi",.d .none),(.ofString "key",key)]
structure BisI(j n:Nat)(p:Nat×Nat):Prop where
 a:p.1≤j
 b:j≤p.2
 c:p.2≤n
theorem BisI.up{j n lo hi:Nat}(h:BisI j n (lo,hi))(hl:lo<hi)(hj:(lo+hi)/2<j):BisI j n ((lo+hi)/2+1,hi)∧hi-((lo+hi)/2+1)<hi-lo:=⟨⟨hj,h.b,h.c⟩,by omega⟩
theorem BisI.dn{j n lo hi:Nat}(h:BisI j n (lo,hi))(hl:lo<hi)(hj:¬(lo+hi)/2<j):BisI j n (lo,(lo+hi)/2)∧(lo+hi)/2-lo<hi-lo:=⟨⟨h.a,le_of_not_lt hj,le_trans (le_of_lt (zFl hl).2) h.c⟩,by omega⟩
theorem BisI.fin{j n lo hi:Nat}(h:BisI j n (lo,hi))(hl:¬lo<hi):lo=j:=by have:=h.a;have:=h.b;dsimp only at *;lia
theorem zLm{a b:Nat}{c:Bool}(h:decide ((a:Int)<(b:Int))=true):a<b:=ofNat_lt.mp (of_decide_eq_true h)
theorem zI0{a b:Nat}(h:decide ((a:Int)<(b:Int))=false):¬a<b:=fun k=>of_decide_eq_false h (ofNat_lt.mpr k)
theorem zIo{S:List Int}{z:Int}{j:Nat}(hn:S.length≤1000)(hj:j≤S.length)(hc:∀i v,S[i]? = some v→(v<z↔i<j)):zEa zJ2 0 (zV6 (.d (.int z)) (.d .none)) [.lst (pints S)] (zAf (stAt 12)) (.d (.int j)) [.lst (pints S)]:=by
 intro c Q ret fin
 have hn':(pints S).length≤1000:=pil S▸hn
 conv=>arg 5;arg 1;whnf
 refine J.iff (EvB.cmp (.loc rfl) .int .ltI) (by decide) (J.pop ?_)
 refine J.ift (EvB.cmp (.loc rfl) .non .isN) rfl (J.seq (Ex.assign (Ev.call (Ev.built zD9 zD8 (by decide)) (.cons (.loc rfl) .nil) (CallS.len rfl (le_trans hn' (by decide))) .b)) (J.pop ?_))
 refine J.ift (EvB.cmp (.loc rfl) .non .isN) rfl ?_
 refine J.while (X:=Nat×Nat) (fun p=>p.2-p.1) (BisI j S.length) (fun p=>yD8 S z p.1 p.2) (fun _=>[.lst (pints S)]) (0,(pints S).length) ⟨zero_le _,pil S▸hj,pil S▸le_refl _⟩ ⟨rfl,rfl,rfl,rfl,rfl⟩ ?_
 rintro ⟨lo,hi⟩ h
 refine .mk (EvB.cmp (.loc rfl) (.loc rfl) .ltI) (fun hb Q₁ q=>?_) fun hb=>?_
 ·have hl:=zLm (c:=true) hb
  have hm:=lt_of_lt_of_le (zFl hl).2 h.c
  refine J.seq (Ex.assign (Ev.bin (Ev.bin (.loc rfl) (.loc rfl) .addI) .int (BinS.half ?_))) ?_
  ·have:=h.c;dsimp only at *;lia
  refine J.ite (EvB.cmp (Ev.sub (.loc rfl) (.loc rfl) (SubS.item rfl (le_trans hn' (by decide)) (zLu hm))) (.loc rfl) .ltI) (fun hb=>?_) fun hb=>?_
  ·obtain ⟨h1,h2⟩:=h.up hl ((hc _ _ (zF1 hm)).mp (of_decide_eq_true hb))
   exact J.seq (Ex.assign (Ev.bin (.loc rfl) .int .succ)) (J.pop (J.pop (J.next q (_,hi) ⟨h1,h2⟩ ⟨rfl,rfl,rfl,rfl,rfl⟩)))
  ·obtain ⟨h1,h2⟩:=h.dn hl (fun k=>of_decide_eq_false hb ((hc _ _ (zF1 hm)).mpr k))
   exact J.seq (Ex.assign (.loc rfl)) (J.pop (J.pop (J.next q (lo,_) ⟨h1,h2⟩ ⟨rfl,rfl,rfl,rfl,rfl⟩)))
 ·have e:=h.fin (zI0 hb)
  subst e
  exact J.pop (J.ret (.loc rfl) fun z s x O r=>ret _ _ _ _ O r)
theorem zU5{S:List Int}{z:Int}{j:Nat}(hn:S.length≤1000)(hj:j≤S.length)(hc:∀i v,S[i]? = some v→(v<z↔i<j)):Con 0 105 [.r 0,.d (.int z)] [] [.lst (pints S)] (.d (.int j)) [.lst (pints S)]:=
 Con.enterN (fn:=zJ2) (fun _=>rfl) [(.ofString "lo",.int 0 417),(.ofString "hi",.none),(.ofString "key",.none)] [(.ofString "lo",.d (.int 0)),(.ofString "hi",.d .none),(.ofString "key",.d .none)] (zIo hn hj hc) (fun _=>.cons .int (.cons .none (.cons .none .nil))) (fun P s a1 a2 X=>zAd X (fun _=>by kernel_rfl))
structure Sel(n₀:Nat)(κ:List Nat)(ps:List (zA0×SV))(nx:List SO)(ps':List (zA0×SV))(nx':List SO):Prop where
 ok:okS κ nx.length=true
 names:ps'.map (fun p=>ps.lookup p.1)=ps'.map fun p=>some (p.2.ren (rho κ nx.length))
 objs:nx'.map (SO.ren (rho κ nx.length))=κ.map (nth nx)
 pre:κ.take n₀=List.range n₀
section
variable {fn:Fn}{d n₀:Nat}{c:Cx fn d n₀}{ps ps':List (zA0×SV)}{nx nx' nx₁:List SO}{z:Wd}{s:Shared}{l:List PyData}{Q:Flow→Shared→Prop}{bs:List (List Stmt)}{rest:List Stmt}{e:Expr}{pos:Pos}
theorem On.sel(κ:List Nat)(O:On c ps nx z s)(h:Sel n₀ κ ps nx ps' nx'):∃z',z'.Z=z.Z∧On c ps' nx' z' s:=by
 induction O with
 |@mk hh tk gs m as os Z F K N O D G a0 Z0=>
  obtain ⟨hσ,hnm,hl,hp⟩:=h
  obtain ⟨nd,hb⟩:=zQ2 hσ
  obtain ⟨la,lo⟩:=O.len
  have hbs:∀k∈κ,k<as.length:=fun k hk=>la▸hb k hk
  have aat:∀(j k:Nat),κ[j]? = some k→as[k]? = (κ.map fun k=>as.getD k 0)[j]? := fun j k e=>by
   have hk:=hbs k (mem_of_getElem? e)
   rw [getElem?_map,e,getElem?_eq_getElem hk]
   show _=some (as.getD k 0)
   rw [getD_eq_getElem?_getD,getElem?_eq_getElem hk]
   rfl
  have ren₀:∀j,(κ.map fun k=>as.getD k 0)[j]? = as[rho κ nx.length j]? := fun j=>by
   rw [zQo]
   cases e:κ[j]? with
   |some k=>exact (aat j k e).symm
   |none=>rw [getElem?_eq_none (by rw [length_map];exact List.getElem?_eq_none_iff.mp e),getElem?_eq_none (by rw [la];exact Nat.le_add_right _ _)]
  have O₀:∀(τ:List Nat) (ny:List SO),(∀k∈τ,k<as.length)→ny.map (SO.ren (rho κ nx.length))=τ.map (nth nx)→OReps c.w.params ⟨κ.map fun k=>as.getD k 0,Z⟩ ny (τ.map fun k=>as.getD k 0) (τ.map fun k=>os.getD k default)∧∀p∈(τ.map fun k=>as.getD k 0).zip (τ.map fun k=>os.getD k default),p∈as.zip os:=by
   intro τ
   induction τ with
   |nil=>intro ny _ e;induction ny with|nil=>exact ⟨.nil,fun p hp=>nomatch hp⟩|cons a b=>simp at e
   |cons k τ ih=>
    intro ny hk e
    induction ny with
    |nil=>simp at e
    |cons a b=>
     simp only [map_cons,List.cons.injEq] at e
     have hka:=hk k (.head _)
     obtain ⟨o,eo,ro,hm⟩:=O.at (getElem?_eq_getElem hka)
     obtain ⟨h1,h2⟩:=ih b (fun j hj=>hk j (.tail _ hj)) e.2
     have ea:as.getD k 0=as[k]:=by rw [getD_eq_getElem?_getD,getElem?_eq_getElem hka];rfl
     have eo':os.getD k default=o:=by rw [getD_eq_getElem?_getD,eo];rfl
     refine ⟨.cons ((ORep.ren ren₀).mpr ?_) h1,fun p hp=>?_⟩
     ·show ORep _ _ _ (as.getD k 0) (os.getD k default)
      rw [e.1,ea,eo']
      exact ro
     ·rcases mem_cons.mp hp with rfl|hp
      ·show (as.getD k 0,os.getD k default)∈_
       rw [ea,eo']
       exact hm
      ·exact h2 p hp
  obtain ⟨O₁,sub⟩:=O₀ κ nx' hbs hl
  have ain:∀a∈κ.map fun k=>as.getD k 0,a∈as:=fun a ha=>by
   obtain ⟨j,hj⟩:=getElem?_of_mem ha
   rw [ren₀] at hj
   exact mem_of_getElem? hj
  refine ⟨⟨κ.map fun k=>as.getD k 0,Z⟩,rfl,.mk F (fun y sv e=>?_) (fun p hp=>?_) O₁ ⟨yA6 fun i j a e1 e2=>?_,fun a ha=>D.az a (ain a ha),fun a ha=>D.ar a (ain a ha),D.zr⟩ G ?_ Z0⟩
  ·obtain ⟨v,p,q⟩:=K y _ (zPp hnm (zBx e))
   exact ⟨v,p,(SRep.ren ren₀).mpr q⟩
  ·rcases mem_append.mp hp with hp|hp
   ·exact N p (mem_append_left _ (sub p hp))
   ·exact N p (mem_append_right _ hp)
  ·have hi:i<κ.length:=by have:=(List.getElem?_eq_some_iff.mp e1).1;rwa [length_map] at this
   have hj:j<κ.length:=by have:=(List.getElem?_eq_some_iff.mp e2).1;rwa [length_map] at this
   rw [←aat i _ (getElem?_eq_getElem hi)] at e1
   rw [←aat j _ (getElem?_eq_getElem hj)] at e2
   exact zGv nd (getElem?_eq_getElem hi) ((zGv D.nd e1 e2)▸getElem?_eq_getElem hj)
  ·show (κ.map fun k=>as.getD k 0).take n₀=c.as₀
   rw [←map_take,hp,←a0]
   refine ext_getElem? fun i=>?_
   have hn:n₀≤as.length:=by rw [←c.hn,←a0,length_take];exact Nat.min_le_right _ _
   rw [getElem?_map]
   by_cases hi:i<n₀
   ·rw [getElem?_range hi,getElem?_take_of_lt hi,getElem?_eq_getElem (lt_of_lt_of_le hi hn),Option.map_some,getD_eq_getElem?_getD,getElem?_eq_getElem (lt_of_lt_of_le hi hn)]
    rfl
   ·rw [getElem?_eq_none (by simpa using le_of_not_lt hi),getElem?_eq_none (by rw [length_take];lia)]
    rfl
theorem J.sel(κ:List Nat)(h:Sel n₀ κ ps nx ps' nx')(k:J c Q ps' nx' bs):J c Q ps nx bs:=fun z s O=>let ⟨z',_,O'⟩:=O.sel κ h;k z' s O'
end
section
variable {fn:Fn}{d n₀:Nat}{c:Cx fn d n₀}{ps:List (zA0×SV)}{nx:List SO}
theorem CmpS.isnN:CmpS c ps nx .IsNot (.d .none) (.d .none) false:=fun z s a b O h1 h2 Q k=>by
 cases DRep.none_ h1
 cases DRep.none_ h2
 exact PyProof.Rows.isnot_none_gen (k _ O)
theorem CmpS.isnX{sv:SV}(hs:autoParam (notNone sv=true) T0R):CmpS c ps nx .IsNot sv (.d .none) true:=fun z s a b O h1 h2 Q k=>by
 cases DRep.none_ h2
 refine PyProof.Rows.isnot_none_gen ?_
 rw [h1.notNone hs]
 exact k _ O
end
theorem zA3{l:List Nat}:∀{n:Nat},l.Nodup→(∀x∈l,x<n)→l.length≤n:=by
 intro n hn hl
 induction n generalizing l with
 |zero=>
  induction l with
  |nil=>exact le_refl _
  |cons a r=>exact absurd (hl a (.head _)) (not_lt_zero _)
 |succ n ih=>
  have h1:=ih (l:=l.erase n) (hn.erase n) fun x hx=>by
   have hm:x∈l:=List.mem_of_mem_erase hx
   have hne:x≠n:=fun e=>by subst e;exact (List.Nodup.not_mem_erase hn) hx
   have:=hl x hm
   lia
  have h2:=List.length_erase (a:=n) (l:=l)
  split at h2<;>lia
def Path(f:Nat→Nat):List Nat→Prop
 |[]=>True
 |[_]=>True
 |a::b::r=>b=f a∧Path f (b::r)
noncomputable abbrev lst(l:List Nat):Nat:=l.getLastD 0
theorem Path.snoc{f:Nat→Nat}:∀{l:List Nat},Path f l→l≠[]→Path f (l++[f (lst l)])
 |[a],_,_=>⟨rfl,trivial⟩
 |a::b::r,h,_=>by
  have:=Path.snoc (l:=b::r) h.2 (by simp)
  exact ⟨h.1,this⟩
theorem Path.next{f:Nat→Nat}:∀{l:List Nat},Path f l→∀i x y,l[i]? = some x→l[i+1]? = some y→y=f x
 |a::b::r,h,0,x,y,hx,hy=>by
  simp at hx hy
  subst hx;subst hy
  exact h.1
 |a::b::r,h,i+1,x,y,hx,hy=>Path.next (l:=b::r) h.2 i x y (by simpa using hx) (by simpa using hy)
 |[a],_,0,x,y,hx,hy=>by simp at hy
 |[a],_,i+1,x,y,hx,hy=>by simp at hx
theorem Path.app_left{f:Nat→Nat}:∀{l r:List Nat},Path f (l++r)→Path f l
 |[],_,_=>trivial
 |[_],_,_=>trivial
 |a::b::l,r,h=>⟨h.1,Path.app_left (l:=b::l) h.2⟩
theorem Path.app_right{f:Nat→Nat}:∀{l r:List Nat},Path f (l++r)→Path f r
 |[],_,h=>h
 |[a],[],_=>trivial
 |[a],[b],_=>trivial
 |[a],b::c::r,h=>h.2
 |a::b::l,r,h=>Path.app_right (l:=b::l) h.2
noncomputable def zI2(f:Nat→Nat):Nat→List Nat→List Nat
 |0,r=>r
 |n+1,r=>if f (lst r)∈r then r else zI2 f n (r++[f (lst r)])
noncomputable def orb(f:Nat→Nat)(k:Nat):List Nat:=zI2 f 7 [k]
structure Orb(f:Nat→Nat)(k:Nat)(r:List Nat):Prop where
 nodup:r.Nodup
 head:∃t,r=k::t
 path:Path f r
 lt:∀x∈r,x<7
theorem Orb.ne{f:Nat→Nat}{k:Nat}{r:List Nat}(h:Orb f k r):r≠[]:=by obtain ⟨t,rfl⟩:=h.head;simp
theorem zAs{r:List Nat}(h:r≠[]):lst r∈r:=by
 unfold lst
 rw [getLastD_eq_getLast?,getLast?_eq_some_getLast h]
 exact List.getLast_mem h
theorem Orb.start{f:Nat→Nat}{k:Nat}(h:k<7):Orb f k [k]:=⟨by simp,⟨[],rfl⟩,trivial,by simp [h]⟩
theorem Orb.step{f:Nat→Nat}(hf:∀x,x<7→f x<7){k:Nat}{r:List Nat}(h:Orb f k r)(hn:f (lst r)∉r):Orb f k (r++[f (lst r)]):=by
 refine ⟨?_,?_,h.path.snoc h.ne,?_⟩
 ·rw [nodup_append]
  exact ⟨h.nodup,by simp,fun a ha b hb=>by
   rw [mem_singleton.mp hb]
   exact fun e=>hn (e▸ha)⟩
 ·obtain ⟨t,rfl⟩:=h.head
  exact ⟨t++_,rfl⟩
 ·intro x hx
  rcases mem_append.mp hx with hx|hx
  ·exact h.lt x hx
  ·rw [mem_singleton.mp hx]
   exact hf _ (h.lt _ (zAs h.ne))
theorem zJi{f:Nat→Nat}(hf:∀x,x<7→f x<7){k:Nat}:∀(n:Nat) {r:List Nat},Orb f k r→r.length+n=8→Orb f k (zI2 f n r)∧f (lst (zI2 f n r))∈zI2 f n r
 |0,r,h,hl=>by
  have:=zA3 h.nodup h.lt
  lia
 |n+1,r,h,hl=>by
  unfold zI2
  split
  ·exact ⟨h,by assumption⟩
  ·rename_i hn
   exact zJi hf n (h.step hf hn) (by rw [length_append,length_singleton];lia)
theorem zEi{f:Nat→Nat}(hf:∀x,x<7→f x<7){k:Nat}(hk:k<7):Orb f k (orb f k)∧f (lst (orb f k))∈orb f k:=zJi hf 7 (Orb.start hk) rfl
structure Ring(f:Nat→Nat)(k:Nat)(r:List Nat):Prop extends Orb f k r where
 back:f (lst r)=k
 max:∀x∈r,x≤k
noncomputable def zBn(f:Nat→Nat)(k:Nat):Bool:=f (lst (orb f k))==k&&(orb f k).all (·≤k)
noncomputable def rings(f:Nat→Nat):List (List Nat):=((List.range 7).filter (zBn f)).map (orb f)
noncomputable def word(f:Nat→Nat):List Nat:=(rings f).flatten
theorem isRing_iff{f:Nat→Nat}{k:Nat}:zBn f k=true↔f (lst (orb f k))=k∧∀x∈orb f k,x≤k:=by
 unfold zBn
 simp [all_eq_true]
theorem zFu{f:Nat→Nat}(hf:∀x,x<7→f x<7){k:Nat}(hk:k<7)(h:zBn f k=true):Ring f k (orb f k):=
 ⟨(zEi hf hk).1,(isRing_iff.mp h).1,(isRing_iff.mp h).2⟩
theorem zA8{f:Nat→Nat}(hf:∀x,x<7→f x<7){r:List Nat}(h:r∈rings f):∃k,k<7∧Ring f k r:=by
 unfold rings at h
 obtain ⟨k,hk,rfl⟩:=mem_map.mp h
 obtain ⟨h1,h2⟩:=mem_filter.mp hk
 have:=mem_range.mp h1
 exact ⟨k,this,zFu hf this h2⟩
theorem path_closed{f:Nat→Nat}:∀{r:List Nat},Path f r→∀x∈r,x=lst r∨f x∈r
 |[a],_,x,hx=>.inl (mem_singleton.mp hx)
 |a::b::r,h,x,hx=>by
  rcases mem_cons.mp hx with rfl|hx
  ·exact .inr (h.1▸.tail _ (.head _))
  ·rcases path_closed h.2 x hx with e|e
   ·exact .inl (by rw [e];simp [lst,getLastD_eq_getLast?])
   ·exact .inr (.tail _ e)
theorem Ring.closed{f:Nat→Nat}{k:Nat}{r:List Nat}(h:Ring f k r):∀x∈r,f x∈r:=by
 intro x hx
 rcases path_closed h.path x hx with e|e
 ·rw [e,h.back]
  obtain ⟨t,rfl⟩:=h.head
  exact .head _
 ·exact e
theorem zCb{f:Nat→Nat}{C:Nat→Prop}(hC:∀x,C x→C (f x)):∀{r:List Nat} {a:Nat},Path f (a::r)→C a→∀x∈a::r,C x
 |[],a,_,ha,x,hx=>by rw [mem_singleton.mp hx];exact ha
 |b::r,a,h,ha,x,hx=>by
  rcases mem_cons.mp hx with rfl|hx
  ·exact ha
  ·exact zCb hC h.2 (h.1▸hC _ ha) x hx
theorem zHy{a b:Nat}{r:List Nat}:lst (a::b::r)=lst (b::r):=by simp [lst,getLastD_eq_getLast?]
theorem Ring.all{f:Nat→Nat}{k:Nat}{r:List Nat}(h:Ring f k r){C:Nat→Prop}(hC:∀x,C x→C (f x)){x:Nat}(hx:x∈r)(hc:C x):∀y∈r,C y:=by
 obtain ⟨t,rfl⟩:=h.head
 have hk:C k:=by
  obtain ⟨u,v,e⟩:=List.append_of_mem hx
  have hp:=h.path
  have hb:=h.back
  rw [e] at hp hb
  have h1:=zCb hC (Path.app_right hp) hc
  have h2:lst (u++x::v)=lst (x::v):=by
   have:(x::v)≠[]:=by simp
   simp [lst,getLastD_eq_getLast?,getLast?_eq_some_getLast this]
  rw [h2] at hb
  have h3:=hC _ (h1 (lst (x::v)) (zAs (by simp)))
  rw [hb] at h3
  exact h3
 exact zCb hC h.path hk
theorem zB1{f:Nat→Nat}{k k':Nat}{r r':List Nat}(h:Ring f k r)(h':Ring f k' r'){x:Nat}(hx:x∈r)(hx':x∈r'):k=k':=by
 have a:=h.all (C:=fun y=>y∈r') (fun y hy=>h'.closed y hy) hx hx'
 have b:=h'.all (C:=fun y=>y∈r) (fun y hy=>h.closed y hy) hx' hx
 have c:=h'.max k (a k (by obtain ⟨t,rfl⟩:=h.head;exact .head _))
 have d:=h.max k' (b k' (by obtain ⟨t,rfl⟩:=h'.head;exact .head _))
 lia
theorem zDx(p:Nat→Bool)(n:Nat):((List.range n).filter p).Pairwise (· < ·):=(List.pairwise_lt_range (n:=n)).filter p
theorem zA5{f:Nat→Nat}(hf:∀x,x<7→f x<7):(word f).Nodup:=by
 unfold word rings
 have hs:=zDx (zBn f) 7
 have hm:∀k∈(List.range 7).filter (zBn f),k<7∧zBn f k=true:=fun k hk=>⟨mem_range.mp (mem_filter.mp hk).1,(mem_filter.mp hk).2⟩
 generalize (List.range 7).filter (zBn f)=l at hs hm
 induction l with
 |nil=>simp
 |cons k l ih=>
  rw [map_cons,flatten_cons,nodup_append]
  have ik:=hm k (.head _)
  refine ⟨(zEi hf ik.1).1.nodup,ih (pairwise_cons.mp hs).2 fun j hj=>hm j (.tail _ hj),fun a ha b hb e=>?_⟩
  subst e
  obtain ⟨r,hr,hb⟩:=mem_flatten.mp hb
  obtain ⟨j,hj,rfl⟩:=mem_map.mp hr
  have ij:=hm j (.tail _ hj)
  have:=zB1 (zFu hf ik.1 ik.2) (zFu hf ij.1 ij.2) ha hb
  have h2:=(pairwise_cons.mp hs).1 j hj
  lia
theorem zA9{f:Nat→Nat}(hf:∀x,x<7→f x<7):∀x∈word f,x<7:=by
 intro x hx
 obtain ⟨r,hr,hx⟩:=mem_flatten.mp hx
 obtain ⟨k,_,R⟩:=zA8 hf hr
 exact R.lt x hx
theorem zG8{f:Nat→Nat}(hf:∀x,x<7→f x<7):∀x∈word f,f x∈word f:=by
 intro x hx
 obtain ⟨r,hr,hx⟩:=mem_flatten.mp hx
 obtain ⟨k,_,R⟩:=zA8 hf hr
 exact mem_flatten.mpr ⟨r,hr,R.closed x hx⟩
noncomputable def it(f:Nat→Nat):Nat→Nat→Nat
 |0,k=>k
 |n+1,k=>it f n (f k)
theorem zFm(f:Nat→Nat):∀n k,it f (n+1) k=f (it f n k)
 |0,_=>rfl
 |n+1,k=>zFm f n (f k)
theorem zHu{f:Nat→Nat}:∀{r:List Nat} {a:Nat},Path f (a::r)→∀j x,(a::r)[j]? = some x→x=it f j a
 |r,a,_,0,x,hx=>by simp at hx;exact hx.symm
 |[],a,_,j+1,x,hx=>by simp at hx
 |b::r,a,h,j+1,x,hx=>by
  have:=zHu h.2 j x (by simpa using hx)
  rw [this,h.1]
  rfl
theorem zB9{l:List Nat}(h:l.Nodup){i j:Nat}{x:Nat}(hi:l[i]? = some x)(hj:l[j]? = some x):i=j:=by
 obtain ⟨h1,e1⟩:=List.getElem?_eq_some_iff.mp hi
 obtain ⟨h2,e2⟩:=List.getElem?_eq_some_iff.mp hj
 have hp:=List.pairwise_iff_getElem.mp h
 rcases Nat.lt_trichotomy i j with a|a|a
 ·exact absurd (e1.trans e2.symm) (hp i j h1 h2 a)
 ·exact a
 ·exact absurd (e2.trans e1.symm) (hp j i h2 h1 a)
theorem zCv{l:List Nat}(h:l≠[]):l[l.length-1]? = some (lst l):=by
 rw [←List.getLast?_eq_getElem?,getLast?_eq_some_getLast h]
 simp [lst,getLastD_eq_getLast?,getLast?_eq_some_getLast h]
theorem cyc_next{f:Nat→Nat}{c:List Nat}(hp:Path f c)(hb:∃t,c=f (lst c)::t){i x:Nat}(hx:c[i]? = some x):(i+1<c.length∧c[i+1]? = some (f x))∨(i+1=c.length∧c[0]? = some (f x)):=by
 have hi:=(List.getElem?_eq_some_iff.mp hx).1
 by_cases h:i+1<c.length
 ·have:=hp.next i x _ hx (getElem?_eq_getElem h)
  exact .inl ⟨h,by rw [getElem?_eq_getElem h,this]⟩
 ·have e:i+1=c.length:=by lia
  have hne:c≠[]:=by intro e0;subst e0;simp at hx
  have h1:=zCv hne
  rw [show c.length-1=i from by omega,hx] at h1
  have h2:=Option.some.inj h1
  refine .inr ⟨e,?_⟩
  rw [h2]
  generalize hq:f (lst c)=q at hb
  obtain ⟨t,ht⟩:=hb
  rw [ht]
  rfl
theorem zVh{f:Nat→Nat}{c:List Nat}(hn:c.Nodup)(hp:Path f c)(hb:∃t,c=f (lst c)::t){x y:Nat}(hx:x∈c)(hy:y∈c)(e:f x=f y):x=y:=by
 obtain ⟨i,hi⟩:=mem_iff_getElem?.mp hx
 obtain ⟨j,hj⟩:=mem_iff_getElem?.mp hy
 have key:i=j:=by
  rcases cyc_next hp hb hi with ⟨a,b⟩|⟨a,b⟩<;>rcases cyc_next hp hb hj with ⟨a',b'⟩|⟨a',b'⟩<;>rw [e] at b<;>have:=zB9 hn b b'<;>lia
 subst key
 exact Option.some.inj (hi.symm.trans hj)
theorem zUo:∀(c:List Nat),c≠[]→∃m∈c,∀x∈c,x≤m
 |[a],_=>⟨a,.head _,fun x hx=>by rw [mem_singleton.mp hx];exact le_refl _⟩
 |a::b::r,_=>by
  obtain ⟨m,hm,hx⟩:=zUo (b::r) (by simp)
  by_cases h:a≤m
  ·exact ⟨m,.tail _ hm,fun x h'=>(mem_cons.mp h').elim (fun e=>e▸h) (hx x)⟩
  ·exact ⟨a,.head _,fun x h'=>(mem_cons.mp h').elim (fun e=>Nat.le_of_eq e) fun h'=>by have:=hx x h';lia⟩
theorem zMq{f:Nat→Nat}(hf:∀x,x<7→f x<7){c:List Nat}(hn:c.Nodup)(hp:Path f c)(hl:∀x∈c,x<7)(hne:c≠[])(hb:∃t,c=f (lst c)::t):
  ∃m,m∈c∧zBn f m=true:=by
 have hcl:∀x∈c,f x∈c:=fun x hx=>by
  obtain ⟨i,hi⟩:=mem_iff_getElem?.mp hx
  rcases cyc_next hp hb hi with ⟨_,b⟩|⟨_,b⟩<;>exact mem_of_getElem? b
 obtain ⟨m,hm,hmax⟩:=zUo c hne
 have hm7:=hl m hm
 obtain ⟨O,hO⟩:=zEi hf hm7
 have hsub:∀x∈orb f m,x∈c:=by
  obtain ⟨t,ht⟩:=O.head
  have hpath:=O.path
  rw [ht] at hpath ⊢
  exact zCb (C:=fun x=>x∈c) hcl hpath hm
 refine ⟨m,hm,isRing_iff.mpr ⟨?_,fun x hx=>hmax x (hsub x hx)⟩⟩
 obtain ⟨j,hj⟩:=mem_iff_getElem?.mp hO
 induction j with
 |zero=>
  obtain ⟨t,ht⟩:=O.head
  generalize f (lst (orb f m))=q at hj
  rw [ht] at hj
  simp at hj
  exact hj.symm
 |succ j=>
  exfalso
  have hjl:=(List.getElem?_eq_some_iff.mp hj).1
  have hj':j<(orb f m).length:=by (exact le_of_lt (by assumption))
  have h1:=O.path.next j _ _ (getElem?_eq_getElem hj') hj
  have h2:=zVh hn hp hb (hsub _ (zAs O.ne)) (hsub _ (getElem_mem hj')) h1
  have h3:=zCv O.ne
  rw [h2,←getElem?_eq_getElem hj'] at h3
  have h4:=zB9 O.nodup (h3.trans (getElem?_eq_getElem hj')) (getElem?_eq_getElem hj')
  omega
theorem zRi{f:Nat→Nat}(hf:∀x,x<7→f x<7):∀n x,x∈word f→it f n x∈word f
 |0,_,h=>h
 |n+1,x,h=>zRi hf n (f x) (zG8 hf x h)
theorem zUi(f:Nat→Nat):∀a b k,it f (a+b) k=it f b (it f a k)
 |0,b,k=>by rw [zero_add];rfl
 |a+1,b,k=>by rw [show a+1+b=(a+b)+1 from by lia];exact zUi f a b (f k)
theorem zC1{f:Nat→Nat}(hf:∀x,x<7→f x<7){k:Nat}(hk:k<7):∃j,j<7∧it f j k∈word f:=by
 obtain ⟨O,hO⟩:=zEi hf hk
 obtain ⟨u,v,e⟩:=List.append_of_mem hO
 generalize hq:f (lst (orb f k))=q at e
 have hlast:lst (orb f k)=lst (q::v):=by
  have:(q::v)≠[]:=by simp
  rw [e]
  simp [lst,getLastD_eq_getLast?,getLast?_eq_some_getLast this]
 have hnd:=O.nodup
 have hpa:=O.path
 rw [e] at hnd hpa
 obtain ⟨m,hm,hr⟩:=zMq hf (c:=q::v) (nodup_append.mp hnd).2.1 (Path.app_right hpa) (fun x hx=>O.lt x (by rw [e];exact mem_append_right _ hx)) (by simp) ⟨v,by rw [←hlast,hq]⟩
 have hmo:m∈orb f k:=by rw [e];exact mem_append_right _ hm
 have hm7:=O.lt m hmo
 obtain ⟨j,hj⟩:=mem_iff_getElem?.mp hmo
 have hjl:=(List.getElem?_eq_some_iff.mp hj).1
 have hlen:=zA3 O.nodup O.lt
 refine ⟨j,by (exact lt_of_lt_of_le (by assumption) (by assumption)),?_⟩
 have:m=it f j k:=by
  obtain ⟨t,ht⟩:=O.head
  have hpath:=O.path
  rw [ht] at hj hpath
  exact zHu hpath j m hj
 rw [←this]
 refine mem_flatten.mpr ⟨orb f m,mem_map.mpr ⟨m,mem_filter.mpr ⟨mem_range.mpr hm7,hr⟩,rfl⟩,?_⟩
 obtain ⟨t,ht⟩:=(zEi hf hm7).1.head
 rw [ht]
 exact .head _
theorem zHt{f:Nat→Nat}(hf:∀x,x<7→f x<7){k:Nat}(hk:k<7):it f 7 k∈word f:=by
 obtain ⟨j,hj,h⟩:=zC1 hf hk
 have e:7=j+(7-j):=by lia
 rw [e,zUi]
 exact zRi hf _ _ h
theorem zRh{f:Nat→Nat}(hf:∀x,x<7→f x<7){x:Nat}(hx:x∈word f):∃y∈word f,f y=x:=by
 obtain ⟨r,hr,hx⟩:=mem_flatten.mp hx
 obtain ⟨k,_,R⟩:=zA8 hf hr
 obtain ⟨i,hi⟩:=mem_iff_getElem?.mp hx
 induction i with
 |zero=>
  obtain ⟨t,rfl⟩:=R.head
  simp at hi
  subst hi
  exact ⟨lst (k::t),mem_flatten.mpr ⟨_,hr,zAs (by simp)⟩,R.back⟩
 |succ i=>
  have hl:=(List.getElem?_eq_some_iff.mp hi).1
  have hl':i<r.length:=by (exact le_of_lt (by assumption))
  exact ⟨r[i],mem_flatten.mpr ⟨_,hr,getElem_mem hl'⟩,(R.path.next i _ _ (getElem?_eq_getElem hl') hi).symm⟩
theorem zGa{f:Nat→Nat}(hf:∀x,x<7→f x<7):∀(n:Nat) {x:Nat},x∈word f→∃y∈word f,it f n y=x
 |0,x,hx=>⟨x,hx,rfl⟩
 |n+1,x,hx=>by
  obtain ⟨y,hy,e⟩:=zGa hf n hx
  obtain ⟨z,hz,e2⟩:=zRh hf hy
  exact ⟨z,hz,by show it f n (f z)=x;rw [e2,e]⟩
theorem zW3{f:Nat→Nat}(hf:∀x,x<7→f x<7)(x:Nat):x∈word f↔∃k,k<7∧it f 7 k=x:=by
 constructor
 ·intro h
  obtain ⟨y,hy,e⟩:=zGa hf 7 h
  exact ⟨y,zA9 hf y hy,e⟩
 ·rintro ⟨k,hk,rfl⟩
  exact zHt hf hk
noncomputable def zAt(f:Nat→Nat)(wd:List Nat):Nat→Nat→List Nat
 |0,k=>wd.drop (wd.idxOf k)
 |n+1,k=>if k∈wd then wd.drop (wd.idxOf k) else k::zAt f wd n (f k)
noncomputable def trail(f:Nat→Nat)(wd:List Nat)(k:Nat):List Nat:=zAt f wd 7 k
theorem zEn{f:Nat→Nat}{wd:List Nat}{n k:Nat}(h:k∈wd):zAt f wd n k=wd.drop (wd.idxOf k):=by
 induction n with
 |zero=>rfl
 |succ n=>unfold zAt;rw [if_pos h]
theorem zEu{f:Nat→Nat}{wd:List Nat}:∀(n n' j k:Nat),it f j k∈wd→j≤n→j≤n'→zAt f wd n k=zAt f wd n' k
 |n,n',0,k,h,_,_=>by
  have h':k∈wd:=h
  rw [zEn h',zEn h']
 |n+1,n'+1,j+1,k,h,h1,h2=>by
  unfold zAt
  split
  ·rfl
  ·rw [zEu n n' j (f k) h (by lia) (by lia)]
theorem zCi{f:Nat→Nat}{wd:List Nat}{k:Nat}(h:k∈wd):trail f wd k=wd.drop (wd.idxOf k):=zEn h
theorem zCx{f:Nat→Nat}(hf:∀x,x<7→f x<7){k:Nat}(hk:k<7)(h:k∉word f):trail f (word f) k=k::trail f (word f) (f k):=by
 obtain ⟨j,hj,hw⟩:=zC1 hf (hf k hk)
 have e:trail f (word f) k=k::zAt f (word f) 6 (f k):=by
  show zAt f (word f) 7 k=_
  rw [zAt,if_neg h]
 rw [e,zEu 6 7 j (f k) hw (by lia) (by (exact le_of_lt (by assumption)))]
 rfl
theorem zSg{l:List Nat}{k:Nat}(h:k∈l):l.drop (l.idxOf k)=k::l.drop (l.idxOf k+1):=by
 have hl:=List.idxOf_lt_length_of_mem h
 rw [drop_eq_getElem_cons hl,List.getElem_idxOf hl]
theorem zD7{f:Nat→Nat}(hf:∀x,x<7→f x<7){k:Nat}(hk:k<7):∃t,trail f (word f) k=k::t:=by
 by_cases h:k∈word f
 ·exact ⟨_,(zCi h).trans (zSg h)⟩
 ·exact ⟨_,zCx hf hk h⟩
structure RingsOk(f:Nat→Nat)(R:List (List Nat)):Prop where
 ring:∀r∈R,∃k,k<7∧Ring f k r
 sorted:R.Pairwise fun a b=>a.headD 0<b.headD 0
theorem zAn{f:Nat→Nat}{k:Nat}{r:List Nat}(h:Ring f k r):r.headD 0=k:=by obtain ⟨t,rfl⟩:=h.head;rfl
theorem zCd{f:Nat→Nat}(hf:∀x,x<7→f x<7):RingsOk f (rings f):=by
 refine ⟨fun r hr=>zA8 hf hr,?_⟩
 unfold rings
 rw [pairwise_map]
 refine (zDx (zBn f) 7).imp_of_mem fun {a b} ha hb hab=>?_
 have ia:=mem_filter.mp ha
 have ib:=mem_filter.mp hb
 rw [zAn (zFu hf (mem_range.mp ia.1) ia.2),zAn (zFu hf (mem_range.mp ib.1) ib.2)]
 exact hab
theorem RingsOk.mem_eq{f:Nat→Nat}{k:Nat}{r r':List Nat}(h:Ring f k r)(h':Ring f k r'):r=r':=by
 have key:∀{a b:List Nat},Ring f k a→Ring f k b→a.length≤b.length→∀j,j<a.length→a[j]? = b[j]? := by
  intro a b ha hb hle j hj
  obtain ⟨t,rfl⟩:=ha.head
  obtain ⟨u,rfl⟩:=hb.head
  rw [getElem?_eq_getElem hj,getElem?_eq_getElem (lt_of_lt_of_le hj hle),zHu ha.path j _ (getElem?_eq_getElem hj),zHu hb.path j _ (getElem?_eq_getElem (lt_of_lt_of_le hj hle))]
 have len:∀{a b:List Nat},Ring f k a→Ring f k b→a.length≤b.length→a.length=b.length:=by
  intro a b ha hb hle
  rcases lt_or_eq_of_le hle with hlt|e
  ·exfalso
   have hpos:0<a.length:=length_pos_iff.mpr ha.ne
   have h1:=zCv ha.ne
   have h2:=key ha hb hle (a.length-1) (by omega)
   rw [h1] at h2
   have h3:=hb.path.next (a.length-1) (lst a) _ h2.symm (by rw [show a.length-1+1=a.length by lia];exact getElem?_eq_getElem hlt)
   rw [ha.back] at h3
   obtain ⟨u,hu⟩:=hb.head
   have h4:b[0]? = some k:=by rw [hu];rfl
   have h5:=zB9 hb.nodup h4 ((getElem?_eq_getElem hlt).trans (by rw [h3]))
   lia
  ·exact e
 have hl:r.length=r'.length:=by
  rcases Nat.le_total r.length r'.length with a|a
  ·exact len h h' a
  ·exact (len h' h a).symm
 apply ext_getElem?
 intro j
 by_cases hj:j<r.length
 ·exact key h h' (by lia) j hj
 ·rw [getElem?_eq_none (by (exact le_of_not_lt (by assumption))),getElem?_eq_none (by lia)]
theorem zNe{R R':List (List Nat)}(h:R.Pairwise fun a b=>a.headD 0<b.headD 0)(h':R'.Pairwise fun a b=>a.headD 0<b.headD 0)(e:∀r,r∈R↔r∈R'):R=R':=by
 induction R generalizing R' with
 |nil=>
  induction R' with
  |nil=>rfl
  |cons a t=>exact absurd ((e a).mpr (.head _)) (by simp)
 |cons a t ih=>
  induction R' with
  |nil=>exact absurd ((e a).mp (.head _)) (by simp)
  |cons b u=>
   have p:=pairwise_cons.mp h
   have q:=pairwise_cons.mp h'
   have hab:a=b:=by
    rcases mem_cons.mp ((e a).mp (.head _)) with x|x
    ·exact x
    ·rcases mem_cons.mp ((e b).mpr (.head _)) with y|y
     ·exact y.symm
     ·have:=p.1 b y
      have:=q.1 a x
      lia
   subst hab
   congr 1
   refine ih p.2 q.2 fun r=>⟨fun hr=>?_,fun hr=>?_⟩
   ·rcases mem_cons.mp ((e r).mp (.tail _ hr)) with x|x
    ·subst x
     exact absurd (p.1 r hr) (lt_irrefl _)
    ·exact x
   ·rcases mem_cons.mp ((e r).mpr (.tail _ hr)) with x|x
    ·subst x
     exact absurd (q.1 r hr) (lt_irrefl _)
    ·exact x
theorem zQp{f:Nat→Nat}(hf:∀x,x<7→f x<7){R:List (List Nat)}(h:RingsOk f R)(hm:∀r∈R,r∈rings f)(hw:∀x∈word f,∃r∈R,x∈r):R=rings f:=by
 refine zNe h.sorted (zCd hf).sorted fun r=>⟨hm r,fun hr=>?_⟩
 obtain ⟨k,_,K⟩:=zA8 hf hr
 have hk:k∈r:=by obtain ⟨t,rfl⟩:=K.head;exact .head _
 obtain ⟨r',hr',hk'⟩:=hw k (mem_flatten.mpr ⟨r,hr,hk⟩)
 obtain ⟨k',_,K'⟩:=h.ring r' hr'
 have e:=zB1 K K' hk hk'
 subst e
 rw [RingsOk.mem_eq K K']
 exact hr'
noncomputable def off(R:List (List Nat))(t:Nat):Nat:=(R.take t).flatten.length
noncomputable def zAe(R:List (List Nat)):List Nat:=(List.range R.length).map (off R)
theorem zI1(R:List (List Nat)):off R 0=0:=rfl
theorem zD4{R:List (List Nat)}{t:Nat}{r:List Nat}(h:R[t]? = some r):off R (t+1)=off R t+r.length:=by
 unfold off
 rw [take_add_one,h,List.flatten_append,length_append]
 simp
theorem zKi(R:List (List Nat)):off R R.length=R.flatten.length:=by unfold off;rw [take_length]
theorem zC4(R:List (List Nat)):(zAe R).length=R.length:=by unfold zAe;simp
theorem zC3{R:List (List Nat)}{t:Nat}(h:t<R.length):(zAe R)[t]? = some (off R t):=by unfold zAe;simp [h]
theorem zLq(a:List Nat)(R:List (List Nat))(t:Nat):off (a::R) (t+1)=a.length+off R t:=by unfold off;simp
theorem zCw:∀{R:List (List Nat)} {t i:Nat} {r:List Nat},R[t]? = some r→i<r.length→R.flatten[off R t+i]? = r[i]?
 |[],t,i,r,h,_=>by simp at h
 |a::R,0,i,r,h,hi=>by
  have:a=r:=by simpa using h
  subst this
  rw [zI1,zero_add,flatten_cons,getElem?_append_left hi]
 |a::R,t+1,i,r,h,hi=>by
  have:=zCw (R:=R) (t:=t) (i:=i) (r:=r) (by simpa using h) hi
  rw [zLq,flatten_cons,getElem?_append_right (by lia),←this]
  congr 1
  lia
theorem yA7{f:Nat→Nat}{R:List (List Nat)}(h:RingsOk f R):∀{t u:Nat},t<u→u≤R.length→off R t<off R u:=by
 intro t u htu hu
 induction u with
 |zero=>contradiction
 |succ u ih=>
  have hul:u<R.length:=hu
  have e:=getElem?_eq_getElem hul
  have hr:0<(R[u]).length:=by
   obtain ⟨k,_,K⟩:=h.ring _ (getElem_mem hul)
   exact length_pos_iff.mpr K.ne
  rw [zD4 e]
  rcases lt_or_eq_of_le (le_of_lt_succ htu) with h1|h1
  ·have:=ih h1 (by (exact le_of_lt (by assumption)))
   lia
  ·subst h1;lia
theorem zRg{R:List (List Nat)}:∀{k:Nat},k<R.flatten.length→∃t i r,R[t]? = some r∧i<r.length∧k=off R t+i:=by
 induction R with
 |nil=>intro k h;simp at h
 |cons a R ih=>
  intro k h
  by_cases hk:k<a.length
  ·exact ⟨0,k,a,rfl,hk,by rw [zI1,zero_add]⟩
  ·rw [flatten_cons,length_append] at h
   obtain ⟨t,i,r,h1,h2,h3⟩:=ih (k:=k-a.length) (by omega)
   refine ⟨t+1,i,r,by simpa using h1,h2,?_⟩
   have:=zLq a R t
   omega
noncomputable def zA4(wd:List Nat):Nat→List Nat
 |0=>[]
 |k+1=>if zA4 wd k=[]∨wd.getD (lst (zA4 wd k)) 0<wd.getD k 0 then zA4 wd k++[k] else zA4 wd k
theorem zBd{R:List (List Nat)}{t:Nat}(h:t<R.length):(zAe R).take (t+1)=(zAe R).take t++[off R t]:=by
 rw [take_add_one,zC3 h]
 rfl
theorem zH3{R:List (List Nat)}{t:Nat}(h:t<R.length):lst ((zAe R).take (t+1))=off R t:=by
 rw [zBd h]
 simp [lst,getLastD_eq_getLast?]
theorem zA7{l:List Nat}{i x:Nat}(h:l[i]? = some x):l.getD i 0=x:=by rw [getD_eq_getElem?_getD,h];rfl
theorem zGn{f:Nat→Nat}{R:List (List Nat)}(h:RingsOk f R):∀(t:Nat),t≤R.length→zA4 R.flatten (off R t)=(zAe R).take t
 |0,_=>by rw [zI1];rfl
 |t+1,ht=>by
  have ih:=zGn h t (by (exact le_of_lt (by assumption)))
  have hl:t<R.length:=ht
  have hr:=getElem?_eq_getElem hl
  obtain ⟨m,_,K⟩:=h.ring _ (getElem_mem hl)
  rw [zD4 hr]
  have hpos:0<(R[t]).length:=length_pos_iff.mpr K.ne
  obtain ⟨u,hu⟩:=K.head
  have hm:R.flatten[off R t]? = some m:=by
   have:=zCw hr (i:=0) hpos
   rw [add_zero] at this
   rw [this,hu]
   rfl
  have inner:∀i,i<(R[t]).length→zA4 R.flatten (off R t+(i+1))=(zAe R).take (t+1):=by
   intro i
   induction i with
   |zero=>
    intro _
    show (if _ then _ else _)=_
    rw [add_zero,ih,zBd hl,if_pos]
    induction t with
    |zero=>exact .inl rfl
    |succ t=>
     refine .inr ?_
     have hl':t<R.length:=by (exact le_of_lt (by assumption))
     rw [zH3 hl',zA7 hm]
     have hr':=getElem?_eq_getElem hl'
     obtain ⟨m',_,K'⟩:=h.ring _ (getElem_mem hl')
     obtain ⟨u',hu'⟩:=K'.head
     have hm':R.flatten[off R t]? = some m':=by
      have:=zCw hr' (i:=0) (length_pos_iff.mpr K'.ne)
      rw [add_zero] at this
      rw [this,hu']
      rfl
     rw [zA7 hm']
     have:=List.pairwise_iff_getElem.mp h.sorted t (t+1) hl' hl (by lia)
     rw [zAn K,zAn K'] at this
     exact this
   |succ i ih'=>
    intro hi
    have e:=ih' (by (exact le_of_lt (by assumption)))
    have hdef:zA4 R.flatten (off R t+(i+1)+1)=if zA4 R.flatten (off R t+(i+1))=[]∨R.flatten.getD (lst (zA4 R.flatten (off R t+(i+1)))) 0<R.flatten.getD (off R t+(i+1)) 0 then zA4 R.flatten (off R t+(i+1))++[off R t+(i+1)] else zA4 R.flatten (off R t+(i+1)):=rfl
    rw [show off R t+(i+1+1)=off R t+(i+1)+1 from rfl,hdef,e,if_neg]
    rintro (c|c)
    ·rw [zBd hl] at c
     simp at c
    ·have hx:=zCw hr hi
     rw [getElem?_eq_getElem hi] at hx
     rw [zH3 hl,zA7 hm,zA7 hx] at c
     have:=K.max _ (getElem_mem hi)
     (exact absurd (by assumption) (Nat.not_lt.mpr (by assumption)))
  have:=inner ((R[t]).length-1) (by omega)
  rw [show (R[t]).length-1+1=(R[t]).length by lia] at this
  exact this
theorem zC7{f:Nat→Nat}{R:List (List Nat)}(h:RingsOk f R):zA4 R.flatten R.flatten.length=zAe R:=by
 have:=zGn h R.length (le_refl _)
 rw [zKi] at this
 rw [this,←zC4 R,take_length]
theorem zO6{f:Nat→Nat}{R:List (List Nat)}(h:RingsOk f R){k j:Nat}(hk:k<R.flatten.length)(hj:∀i x,(zAe R)[i]? = some x→(x≤k↔i<j))(hjl:j≤R.length):
  ∃t,j=t+1∧t<R.length∧(zAe R)[t]? = some (off R t)∧((zAe R).tail++[R.flatten.length])[t]? = some (off R (t+1))∧
   R.flatten[if k+1=off R (t+1) then off R t else k+1]? = some (f (R.flatten.getD k 0)):=by
 obtain ⟨t,i,r,hr,hi,hki⟩:=zRg hk
 have hl:=(List.getElem?_eq_some_iff.mp hr).1
 have h1:t<j:=(hj t _ (zC3 hl)).mp (by lia)
 have h2:¬(t+1<j):=fun c=>by
  have hl2:t+1<R.length:=by (exact lt_of_lt_of_le (by assumption) (by assumption))
  have:=(hj (t+1) _ (zC3 hl2)).mpr c
  rw [zD4 hr] at this
  lia
 obtain ⟨m,_,K⟩:=h.ring _ (mem_of_getElem? hr)
 have hx:R.flatten[k]? = r[i]? := by rw [hki];exact zCw hr hi
 rw [getElem?_eq_getElem hi] at hx
 refine ⟨t,by lia,hl,zC3 hl,?_,?_⟩
 ·by_cases hl2:t+1<R.length
  ·rw [getElem?_append_left (by rw [List.length_tail,zC4];omega),List.getElem?_tail,zC3 hl2]
  ·rw [getElem?_append_right (by rw [List.length_tail,zC4];omega),List.length_tail,zC4,show t-(R.length-1)=0 by omega,show t+1=R.length by lia,zKi]
   rfl
 ·rw [zA7 hx,zD4 hr]
  by_cases hlast:i+1=r.length
  ·rw [if_pos (by lia)]
   have h3:=zCv K.ne
   rw [show r.length-1=i by lia,getElem?_eq_getElem hi] at h3
   rw [Option.some.inj h3,K.back]
   obtain ⟨u,hu⟩:=K.head
   have:=zCw hr (i:=0) (by lia)
   rw [add_zero] at this
   rw [this,hu]
   rfl
  ·rw [if_neg (by lia)]
   have hi2:i+1<r.length:=by lia
   have:=zCw hr hi2
   rw [show k+1=off R t+(i+1) by lia,this,getElem?_eq_getElem hi2,K.path.next i _ _ (getElem?_eq_getElem hi) (getElem?_eq_getElem hi2)]
theorem zG9{f:Nat→Nat}{R:List (List Nat)}(h:RingsOk f R){k x:Nat}(hk:R.flatten[k]? = some x):
  ∃t i r,R[t]? = some r∧r[i]? = some x∧k=off R t+i∧((i+1<r.length∧R.flatten[k+1]? = some (f x))∨(i+1=r.length∧x=lst r∧R.flatten[off R t]? = some (f x)∧x≤f x∧∀y,R.flatten[k+1]? = some y→x<y)):=by
 have hkl:=(List.getElem?_eq_some_iff.mp hk).1
 obtain ⟨t,i,r,hr,hi,hki⟩:=zRg hkl
 obtain ⟨m,_,K⟩:=h.ring _ (mem_of_getElem? hr)
 have hx:=zCw hr hi
 rw [←hki,hk] at hx
 refine ⟨t,i,r,hr,hx.symm,hki,?_⟩
 by_cases hlast:i+1=r.length
 ·refine .inr ⟨hlast,?_⟩
  have h3:=zCv K.ne
  rw [show r.length-1=i by lia,←hx] at h3
  have e:=Option.some.inj h3
  obtain ⟨u,hu⟩:=K.head
  have h0:=zCw hr (i:=0) (by lia)
  rw [add_zero,hu] at h0
  have hxm:x≤m:=K.max x (by rw [e];exact zAs K.ne)
  refine ⟨e,?_,?_,fun y hy=>?_⟩
  ·rw [h0,e,K.back];rfl
  ·rw [e,K.back,←e];exact hxm
  ·have hl:=(List.getElem?_eq_some_iff.mp hr).1
   have hyl:=(List.getElem?_eq_some_iff.mp hy).1
   have hl2:t+1<R.length:=by
    apply lt_of_not_le
    intro c
    have:off R (t+1)=R.flatten.length:=by rw [show t+1=R.length by lia,zKi]
    rw [zD4 hr] at this
    lia
   have hr2:=getElem?_eq_getElem hl2
   obtain ⟨m2,_,K2⟩:=h.ring _ (getElem_mem hl2)
   obtain ⟨u2,hu2⟩:=K2.head
   have h2:=zCw hr2 (i:=0) (length_pos_iff.mpr K2.ne)
   rw [add_zero,zD4 hr,show off R t+r.length=k+1 by lia,hy,hu2] at h2
   have e2:y=m2:=by simpa using h2
   have:=List.pairwise_iff_getElem.mp h.sorted t (t+1) hl hl2 (by lia)
   rw [(List.getElem?_eq_some_iff.mp hr).2,zAn K,zAn K2] at this
   lia
 ·refine .inl ⟨by lia,?_⟩
  have hi2:i+1<r.length:=by omega
  have:=zCw hr hi2
  rw [show k+1=off R t+(i+1) by lia,this,getElem?_eq_getElem hi2,K.path.next i x _ hx.symm (getElem?_eq_getElem hi2)]
theorem zR1{f:Nat→Nat}{R:List (List Nat)}(h:RingsOk f R){k x y:Nat}(hk:R.flatten[k]? = some x)(hy:R.flatten[k+1]? = some y):y<x↔f x<x:=by
 obtain ⟨t,i,r,hr,hi,hki,c⟩:=zG9 h hk
 rcases c with ⟨_,e⟩|⟨_,_,_,a,b⟩
 ·rw [hy] at e
  rw [Option.some.inj e]
 ·have:=b y hy
  lia
theorem zR2{f:Nat→Nat}{R:List (List Nat)}(h:RingsOk f R){k x:Nat}(hk:R.flatten[k]? = some x)(hl:k+1=R.flatten.length):¬f x<x:=by
 obtain ⟨t,i,r,hr,hi,hki,c⟩:=zG9 h hk
 rcases c with ⟨_,e⟩|⟨_,_,_,a,b⟩
 ·have:=(List.getElem?_eq_some_iff.mp e).1
  lia
 ·lia
theorem zIx:∀(l:List Nat) (p:Nat→Bool),((List.range l.length).filter fun k=>p (l.getD k 0)).length=(l.filter p).length:=by
 intro l p
 induction l with
 |nil=>rfl
 |cons a l ih=>
  rw [length_cons,List.range_succ_eq_map,filter_cons,filter_cons,List.filter_map]
  have e:((fun k=>p ((a::l).getD k 0))∘Nat.succ)=fun k=>p (l.getD k 0):=by funext k;simp
  rw [e]
  rw [List.getD_cons_zero]
  split
  ·rw [length_cons,length_map,ih,length_cons]
  ·rw [length_map,ih]
theorem zKq{f:Nat→Nat}{R:List (List Nat)}(h:RingsOk f R):((List.range (R.flatten.length-1)).filter fun k=>decide (R.flatten.getD (k+1) 0<R.flatten.getD k 0)).length=(R.flatten.filter fun x=>decide (f x<x)).length:=by
 rw [←zIx R.flatten fun x=>decide (f x<x)]
 cases hn:R.flatten.length with
 |zero=>rfl
 |succ n=>
  rw [Nat.add_sub_cancel,range_succ,List.filter_append,length_append]
  have e1:(List.range n).filter (fun k=>decide (R.flatten.getD (k+1) 0<R.flatten.getD k 0))=(List.range n).filter fun k=>decide (f (R.flatten.getD k 0)<R.flatten.getD k 0):=by
   apply List.filter_congr
   intro k hk
   have hk:=mem_range.mp hk
   have h1:=getElem?_eq_getElem (l:=R.flatten) (i:=k) (by lia)
   have h2:=getElem?_eq_getElem (l:=R.flatten) (i:=k+1) (by lia)
   rw [zA7 h1,zA7 h2]
   have:=zR1 h h1 h2
   simp only [this]
  have h1:=getElem?_eq_getElem (l:=R.flatten) (i:=n) (by lia)
  have h2:=zR2 h h1 (by lia)
  have e2:([n].filter fun k=>decide (f (R.flatten.getD k 0)<R.flatten.getD k 0))=[]:=by
   rw [filter_cons,zA7 h1,decide_eq_false h2]
   rfl
  rw [e1,e2]
  rfl
theorem zLc{l:List Nat}(hn:l.Nodup){i x:Nat}(h:l[i]? = some x):l.idxOf x=i:=by
 have hm:=mem_of_getElem? h
 have hl:=List.idxOf_lt_length_of_mem hm
 exact zB9 hn ((getElem?_eq_getElem hl).trans (by rw [List.getElem_idxOf hl])) h
theorem zH8{f:Nat→Nat}(hf:∀x,x<7→f x<7){k:Nat}(hk:k<7):(trail f (word f) k).tail=trail f (word f) (f k)↔¬∃r∈rings f,lst r=k:=by
 have hn:=zA5 hf
 by_cases hw:k∈word f
 ·obtain ⟨i,hi⟩:=mem_iff_getElem?.mp hw
  have hfw:=zG8 hf k hw
  rw [zCi hw,zCi hfw,zLc hn hi,List.tail_drop]
  obtain ⟨t,j,r,hr,hj,hij,c⟩:=zG9 (zCd hf) hi
  have hil:=(List.getElem?_eq_some_iff.mp hi).1
  rcases c with ⟨c1,e⟩|⟨c1,e1,e2,_,_⟩
  ·rw [zLc hn e]
   refine iff_of_true rfl ?_
   rintro ⟨r',hr',e'⟩
   obtain ⟨m,_,K⟩:=zA8 hf (mem_of_getElem? hr)
   obtain ⟨m',_,K'⟩:=zA8 hf hr'
   have hkr':k∈r':=e'▸zAs K'.ne
   have e3:=zB1 K K' (mem_of_getElem? hj) hkr'
   subst e3
   have e4:=RingsOk.mem_eq K K'
   subst e4
   have h5:=zCv K.ne
   rw [e'] at h5
   have:=zB9 K.nodup hj h5
   lia
  ·rw [zLc hn e2]
   refine iff_of_false (fun c=>?_) (fun c=>c ⟨r,mem_of_getElem? hr,e1.symm⟩)
   have:=congrArg List.length c
   rw [length_drop,length_drop] at this
   have:off (rings f) t≤i:=by lia
   have h9:(word f).length=(rings f).flatten.length:=rfl
   lia
 ·rw [zCx hf hk hw]
  refine iff_of_true rfl ?_
  rintro ⟨r,hr,e⟩
  obtain ⟨m,_,K⟩:=zA8 hf hr
  exact hw (mem_flatten.mpr ⟨r,hr,e▸zAs K.ne⟩)
theorem zUm{a b:List Nat}(ha:a.Pairwise (· < ·))(hb:b.Pairwise (· < ·))(h:∀x,x∈a↔x∈b):a=b:=by
 induction a generalizing b with
 |nil=>
  induction b with
  |nil=>rfl
  |cons y t=>exact absurd ((h y).mpr (.head _)) (by simp)
 |cons x a ih=>
  induction b with
  |nil=>exact absurd ((h x).mp (.head _)) (by simp)
  |cons y b=>
   have p:=pairwise_cons.mp ha
   have q:=pairwise_cons.mp hb
   have e:x=y:=by
    rcases mem_cons.mp ((h x).mp (.head _)) with e|e
    ·exact e
    ·rcases mem_cons.mp ((h y).mpr (.head _)) with e'|e'
     ·exact e'.symm
     ·have:=p.1 y e'
      have:=q.1 x e
      lia
   subst e
   congr 1
   refine ih p.2 q.2 fun z=>⟨fun hz=>?_,fun hz=>?_⟩
   ·rcases mem_cons.mp ((h z).mp (.tail _ hz)) with e|e
    ·subst e;exact absurd (p.1 z hz) (lt_irrefl _)
    ·exact e
   ·rcases mem_cons.mp ((h z).mpr (.tail _ hz)) with e|e
    ·subst e;exact absurd (q.1 z hz) (lt_irrefl _)
    ·exact e
theorem zHc{f:Nat→Nat}(hf:∀x,x<7→f x<7){l:List Nat}(hl:l.Pairwise (·≤·))(hp:l.Perm ((rings f).map lst)):
  (List.range 7).filter (fun k=>decide ((trail f (word f) k).tail≠trail f (word f) (f k)))=l:=by
 have hnd:((rings f).map lst).Nodup:=by
  show List.Pairwise _ _
  rw [pairwise_map]
  refine (zCd hf).sorted.imp_of_mem fun {a b} ha hb hab e=>?_
  obtain ⟨m,_,K⟩:=zA8 hf ha
  obtain ⟨m',_,K'⟩:=zA8 hf hb
  have:=zB1 K K' (zAs K.ne) (e▸zAs K'.ne)
  rw [zAn K,zAn K'] at hab
  lia
 have hln:l.Nodup:=hp.symm.nodup hnd
 have hlt:l.Pairwise (· < ·):=(List.Pairwise.and hl hln).imp fun h=>Nat.lt_of_le_of_ne h.1 h.2
 refine zUm (List.Pairwise.filter _ List.pairwise_lt_range) hlt fun x=>?_
 rw [mem_filter,mem_range,hp.mem_iff,mem_map]
 constructor
 ·rintro ⟨h1,h2⟩
  have h3:=of_decide_eq_true h2
  rw [ne_eq,zH8 hf h1,Decidable.not_not] at h3
  obtain ⟨r,hr,e⟩:=h3
  exact ⟨r,hr,e⟩
 ·rintro ⟨r,hr,e⟩
  obtain ⟨m,_,K⟩:=zA8 hf hr
  have h1:x<7:=e▸K.lt _ (zAs K.ne)
  exact ⟨h1,decide_eq_true (fun c=>(zH8 hf h1).mp c ⟨r,hr,e⟩)⟩
noncomputable def cut(z:Nat)(S:List Nat):Nat:=(S.filter fun x=>decide (x<z)).length
noncomputable def cutr(z:Nat)(S:List Nat):Nat:=(S.filter fun x=>decide (x≤z)).length
theorem zL4(z:Nat)(S:List Nat):cut z S≤S.length:=List.length_filter_le ..
theorem zHj(z:Nat)(S:List Nat):cutr z S≤S.length:=List.length_filter_le ..
theorem zHf(z a:Nat)(S:List Nat):cut z (a::S)=(if a<z then 1 else 0)+cut z S:=by
 unfold cut
 rw [filter_cons]
 by_cases h:a<z<;>simp [h,add_comm]
theorem zIt(z a:Nat)(S:List Nat):cutr z (a::S)=(if a≤z then 1 else 0)+cutr z S:=by
 unfold cutr
 rw [filter_cons]
 by_cases h:a≤z<;>simp [h,add_comm]
theorem zHh{z:Nat}{S:List Nat}(h:∀x∈S,z≤x):cut z S=0:=by
 unfold cut
 rw [List.filter_eq_nil_iff.mpr fun x hx=>by have:=h x hx;simp;omega]
 rfl
theorem zIu{z:Nat}{S:List Nat}(h:∀x∈S,z<x):cutr z S=0:=by
 unfold cutr
 rw [List.filter_eq_nil_iff.mpr fun x hx=>by have:=h x hx;simp;omega]
 rfl
theorem zDl{z:Nat}:∀{S:List Nat},S.Pairwise (· < ·)→∀i v,S[i]? = some v→(v<z↔i<cut z S)
 |[],_,i,v,h=>by simp at h
 |a::S,hs,i,v,h=>by
  have p:=pairwise_cons.mp hs
  rw [zHf]
  induction i with
  |zero=>
   have:a=v:=by simpa using h
   subst this
   by_cases ha:a<z
   ·simp [ha]
    lia
   ·rw [zHh fun x hx=>by have:=p.1 x hx;lia]
    simp [ha]
  |succ i=>
   have hv:S[i]? = some v:=by simpa using h
   have ih:=zDl (z:=z) p.2 i v hv
   by_cases ha:a<z
   ·simp only [ha,if_true]
    rw [ih]
    lia
   ·have h2:=p.1 v (mem_of_getElem? hv)
    have h3:=zHh (z:=z) (S:=S) fun x hx=>by have:=p.1 x hx;lia
    simp only [ha,if_false]
    rw [h3]
    lia
theorem zHi{z:Nat}:∀{S:List Nat},S.Pairwise (· < ·)→∀i v,S[i]? = some v→(z<v↔¬i<cutr z S)
 |[],_,i,v,h=>by simp at h
 |a::S,hs,i,v,h=>by
  have p:=pairwise_cons.mp hs
  rw [zIt]
  induction i with
  |zero=>
   have:a=v:=by simpa using h
   subst this
   by_cases ha:a≤z
   ·simp [ha]
   ·rw [zIu fun x hx=>by have:=p.1 x hx;lia]
    simp [ha]
    (exact lt_of_not_le (by assumption))
  |succ i=>
   have hv:S[i]? = some v:=by simpa using h
   have ih:=zHi (z:=z) p.2 i v hv
   by_cases ha:a≤z
   ·simp only [ha,if_true]
    rw [ih]
    lia
   ·have h2:=p.1 v (mem_of_getElem? hv)
    have h3:=zIu (z:=z) (S:=S) fun x hx=>by have:=p.1 x hx;lia
    simp only [ha,if_false]
    rw [h3]
    lia
theorem zHg{z:Nat}:∀{S:List Nat},S.Pairwise (· < ·)→cutr z S=cut z S+if z∈S then 1 else 0
 |[],_=>rfl
 |a::S,hs=>by
  have p:=pairwise_cons.mp hs
  have ih:=zHg (z:=z) p.2
  rw [zHf,zIt,ih]
  by_cases h:z=a
  ·subst h
   have hn:z∉S:=fun hm=>absurd (p.1 z hm) (lt_irrefl _)
   simp [hn]
   lia
  ·by_cases h1:a<z
   ·have h2:a≤z:=by (exact le_of_lt (by assumption))
    simp [h,h1,h2]
    lia
   ·have h2:¬a≤z:=by lia
    simp [h,h1,h2]
theorem zFf{z:Nat}{S:List Nat}(hs:S.Pairwise (· < ·)):cut z S<cutr z S↔z∈S:=by
 rw [zHg hs]
 by_cases h:z∈S<;>simp [h]
theorem zFe{z:Nat}{S:List Nat}(hs:S.Pairwise (· < ·)):cut z S=cutr z S↔z∉S:=by
 rw [zHg hs]
 by_cases h:z∈S<;>simp [h]
noncomputable def zJ8(z:Nat)(S:List Nat):List Nat:=S.take (cut z S)++z::S.drop (cut z S)
theorem zLd(z:Nat)(S:List Nat)(x:Nat):x∈zJ8 z S↔x=z∨x∈S:=by
 unfold zJ8
 conv=>rhs;rw [←take_append_drop (cut z S) S]
 simp only [mem_append,mem_cons]
 constructor
 ·rintro (h|h|h)
  ·exact .inr (.inl h)
  ·exact .inl h
  ·exact .inr (.inr h)
 ·rintro (h|h|h)
  ·exact .inr (.inl h)
  ·exact .inl h
  ·exact .inr (.inr h)
theorem zJa{z a:Nat}{S:List Nat}(h:a<z):zJ8 z (a::S)=a::zJ8 z S:=by
 unfold zJ8
 rw [zHf,if_pos h,add_comm]
 rfl
theorem zJ9{z a:Nat}{S:List Nat}(hs:(a::S).Pairwise (· < ·))(h:¬a<z):zJ8 z (a::S)=z::a::S:=by
 unfold zJ8
 have p:=pairwise_cons.mp hs
 rw [zHh fun x hx=>by
  rcases mem_cons.mp hx with rfl|hx
  ·(exact le_of_not_lt (by assumption))
  ·have:=p.1 x hx;lia]
 rfl
theorem zCa{z:Nat}:∀{S:List Nat},S.Pairwise (· < ·)→z∉S→(zJ8 z S).Pairwise (· < ·)
 |[],_,_=>by simp [zJ8,cut]
 |a::S,hs,hz=>by
  have p:=pairwise_cons.mp hs
  by_cases h:a<z
  ·rw [zJa h]
   refine pairwise_cons.mpr ⟨fun x hx=>?_,zCa p.2 fun hm=>hz (.tail _ hm)⟩
   rcases (zLd z S x).mp hx with rfl|hx
   ·exact h
   ·exact p.1 x hx
  ·rw [zJ9 hs h]
   have hne:z≠a:=fun e=>hz (e▸.head _)
   refine pairwise_cons.mpr ⟨fun x hx=>?_,hs⟩
   rcases mem_cons.mp hx with rfl|hx
   ·lia
   ·have:=p.1 x hx;lia
theorem zK8{z:Nat}{S:List Nat}(hs:S.Pairwise (· < ·))(hz:z∈S):S[cut z S]? = some z:=by
 obtain ⟨i,hi⟩:=mem_iff_getElem?.mp hz
 have h1:=zDl (z:=z) hs i z hi
 have h2:¬i<cut z S:=fun h=>absurd (h1.mpr h) (lt_irrefl _)
 have hil:=(List.getElem?_eq_some_iff.mp hi).1
 have h3:i≤cut z S:=by
  have h4:=getElem?_eq_getElem (l:=S) (i:=cut z S) (by lia)
  have h5:=(zDl (z:=z) hs _ _ h4)
  apply le_of_not_lt
  intro hlt
  have h6:=List.pairwise_iff_getElem.mp hs (cut z S) i (by (exact lt_trans (by assumption) (by assumption))) hil hlt
  rw [(List.getElem?_eq_some_iff.mp hi).2] at h6
  exact absurd (h5.mp h6) (lt_irrefl _)
 rw [show cut z S=i by lia]
 exact hi
noncomputable def zNo(z:Nat)(S:List Nat):List Nat:=S.take (cut z S)++S.drop (cut z S+1)
theorem zVi{z:Nat}{S:List Nat}(hs:S.Pairwise (· < ·))(hz:z∈S):S=S.take (cut z S)++z::S.drop (cut z S+1):=by
 have h:=zK8 hs hz
 have hl:=(List.getElem?_eq_some_iff.mp h).1
 conv=>lhs;rw [←take_append_drop (cut z S) S,drop_eq_getElem_cons hl,(List.getElem?_eq_some_iff.mp h).2]
theorem zK9{z:Nat}{S:List Nat}(hs:S.Pairwise (· < ·)):(zNo z S).Pairwise (· < ·):=by
 refine List.Pairwise.sublist ?_ hs
 unfold zNo
 conv=>rhs;rw [←take_append_drop (cut z S) S]
 exact List.Sublist.append_left (List.drop_sublist_drop_left _ (by lia)) _
theorem zSc{z:Nat}{S:List Nat}(hs:S.Pairwise (· < ·))(hz:z∈S)(x:Nat):x∈zNo z S↔x∈S∧x≠z:=by
 have e:=zVi hs hz
 have hn:S.Nodup:=hs.imp fun h=>ne_of_lt h
 rw [e] at hn
 have h1:=nodup_append.mp hn
 have h2:=nodup_cons.mp h1.2.1
 conv=>rhs;rw [e]
 unfold zNo
 simp only [mem_append,mem_cons]
 constructor
 ·rintro (h|h)
  ·exact ⟨.inl h,fun c=>h1.2.2 x h z (.head _) c⟩
  ·exact ⟨.inr (.inr h),fun c=>h2.1 (c▸h)⟩
 ·rintro ⟨h|h|h,c⟩
  ·exact .inl h
  ·exact absurd h c
  ·exact .inr h
theorem zSb{z:Nat}{S:List Nat}(hs:S.Pairwise (· < ·))(hz:z∈S):(zNo z S).length+1=S.length:=by
 have h:=zK8 hs hz
 have hl:=(List.getElem?_eq_some_iff.mp h).1
 unfold zNo
 rw [length_append,length_take,length_drop]
 lia
structure Rot(f:Nat→Nat)(c:List Nat):Prop where
 nodup:c.Nodup
 path:Path f c
 back:∃t,c=f (lst c)::t
theorem Rot.ne{f:Nat→Nat}{c:List Nat}(h:Rot f c):c≠[]:=by
 intro e
 subst e
 obtain ⟨t,ht⟩:=h.back
 cases ht
theorem zFt{f:Nat→Nat}:∀{a b:List Nat},Path f a→Path f b→a≠[]→(∃t,b=f (lst a)::t)→Path f (a++b)
 |[x],b,_,hb,_,⟨t,ht⟩=>by
  subst ht
  exact ⟨rfl,hb⟩
 |x::y::r,b,ha,hb,_,h=>by
  rw [zHy] at h
  exact ⟨ha.1,zFt (a:=y::r) ha.2 hb (by simp) h⟩
theorem zPk{a b:List Nat}(h:b≠[]):lst (a++b)=lst b:=by
 simp [lst,getLastD_eq_getLast?,getLast?_eq_some_getLast h]
theorem Ring.rot{f:Nat→Nat}{k:Nat}{r u v:List Nat}{x:Nat}(h:Ring f k r)(e:r=u++x::v):Rot f ((x::v)++u):=by
 have hn:=h.nodup
 have hp:=h.path
 have hb:=h.back
 rw [e] at hn hp hb
 rw [zPk (by simp)] at hb
 have p1:=Path.app_right hp
 have p2:=Path.app_left hp
 have n1:=nodup_append.mp hn
 have hnd:((x::v)++u).Nodup:=nodup_append.mpr ⟨n1.2.1,n1.1,fun a ha b hb e=>n1.2.2 b hb a ha e.symm⟩
 induction u with
 |nil=>
  obtain ⟨t,ht⟩:=h.head
  rw [e] at ht
  rw [append_nil] at hnd ⊢
  refine ⟨hnd,p1,v,?_⟩
  rw [hb]
  have:x=k:=by simpa using congrArg List.head? ht
  rw [this]
 |cons a u=>
  obtain ⟨t,ht⟩:=h.head
  rw [e] at ht
  have ha:a=k:=by simpa using congrArg List.head? ht
  refine ⟨hnd,zFt p1 p2 (by simp) ⟨u,by rw [hb,ha]⟩,?_⟩
  rw [zPk (by simp)]
  have:f (lst (a::u))=x:=by
   have h1:(a::u++x::v)[(a::u).length-1]? = some (lst (a::u)):=by
    rw [getElem?_append_left (by simp)]
    exact zCv (by simp)
   have h2:(a::u++x::v)[(a::u).length-1+1]? = some x:=by
    rw [getElem?_append_right (by simp)]
    simp
   exact (hp.next _ _ _ h1 h2).symm
  exact ⟨v++(a::u),by rw [this];rfl⟩
noncomputable def atI(c:List Nat)(i:Nat):Nat:=if i<c.length then c.getD i 0 else c.getD 0 0
theorem zIm{c:List Nat}{i x:Nat}(h:c[i]? = some x):atI c i=x:=by
 unfold atI
 rw [if_pos (List.getElem?_eq_some_iff.mp h).1,zA7 h]
theorem Rot.step{f:Nat→Nat}{c:List Nat}(h:Rot f c){i:Nat}(hi:i<c.length):f (atI c i)=atI c (i+1):=by
 have hx:=getElem?_eq_getElem hi
 rw [zIm hx]
 rcases cyc_next h.path h.back hx with ⟨a,b⟩|⟨a,b⟩
 ·exact (zIm b).symm
 ·unfold atI
  rw [if_neg (by lia),zA7 b]
structure TakeAt(S0 c:List Nat)(i:Nat)(S:List Nat):Prop where
 sorted:S.Pairwise (· < ·)
 le:i≤c.length
 mem:∀y,y∈S↔y∈S0∧y∉c.take i
theorem TakeAt.zero{S0 c:List Nat}(h:S0.Pairwise (· < ·)):TakeAt S0 c 0 S0:=⟨h,zero_le _,fun y=>by simp⟩
theorem TakeAt.here{f:Nat→Nat}{S0 c S:List Nat}{i:Nat}(h:TakeAt S0 c i S)(R:Rot f c)(hc:∀y∈c,y∈S0):atI c i∈S↔i<c.length:=by
 rw [h.mem]
 constructor
 ·rintro ⟨a,b⟩
  apply lt_of_not_le
  intro hle
  have e:i=c.length:=Nat.le_antisymm h.le hle
  refine b ?_
  rw [e,take_length]
  have:0<c.length:=length_pos_iff.mpr R.ne
  unfold atI
  rw [if_neg (by lia),zA7 (getElem?_eq_getElem this)]
  exact getElem_mem this
 ·intro hi
  have hx:=getElem?_eq_getElem hi
  rw [zIm hx]
  refine ⟨hc _ (getElem_mem hi),fun hm=>?_⟩
  obtain ⟨j,hj⟩:=mem_iff_getElem?.mp hm
  rw [List.getElem?_take] at hj
  split at hj
  ·have:=zB9 R.nodup hj hx
   lia
  ·cases hj
theorem TakeAt.next{f:Nat→Nat}{S0 c S:List Nat}{i:Nat}(h:TakeAt S0 c i S)(R:Rot f c)(hc:∀y∈c,y∈S0)(hi:i<c.length):TakeAt S0 c (i+1) (zNo (atI c i) S):=by
 have hm:=(h.here R hc).mpr hi
 have hx:=getElem?_eq_getElem hi
 refine ⟨zK9 h.sorted,hi,fun y=>?_⟩
 rw [zSc h.sorted hm,h.mem,take_add_one,hx,zIm hx,mem_append]
 rw [Option.toList_some,mem_singleton]
 constructor
 ·rintro ⟨⟨a,b⟩,c⟩
  exact ⟨a,fun d=>d.elim b c⟩
 ·rintro ⟨a,b⟩
  exact ⟨⟨a,fun d=>b (.inl d)⟩,fun d=>b (.inr d)⟩
theorem zT8{f:Nat→Nat}{k:Nat}{r u v:List Nat}{x j:Nat}(h:Ring f k r)(e:r=u++x::v)(hj:j<((x::v)++u).length)(hmax:∀y∈(x::v)++u,y≤((x::v)++u).getD j 0):
  ((x::v)++u).drop j++((x::v)++u).take j=r:=by
 have R:=h.rot e
 have hx:=getElem?_eq_getElem hj
 have hkr:k∈r:=by obtain ⟨t,rfl⟩:=h.head;exact .head _
 have hmem:∀y,y∈(x::v)++u↔y∈r:=fun y=>by
  rw [e,mem_append,mem_append]
  exact Or.comm
 rw [zA7 hx] at hmax
 have h1:((x::v)++u)[j]=k:=Nat.le_antisymm (h.max _ ((hmem _).mp (getElem_mem hj))) (hmax k ((hmem k).mpr hkr))
 rw [h1] at hx
 induction u with
 |nil=>
  rw [append_nil] at hx ⊢
  have e2:r=x::v:=e
  obtain ⟨t,ht⟩:=h.head
  have hx0:(x::v)[0]? = some k:=by rw [←e2,ht];rfl
  have hn:=h.nodup
  rw [e2] at hn
  rw [zB9 hn hx hx0,e2]
  simp
 |cons a u=>
  obtain ⟨t,ht⟩:=h.head
  rw [e] at ht
  have ha:a=k:=by simpa using congrArg List.head? ht
  have hx2:((x::v)++(a::u))[(x::v).length]? = some k:=by
   rw [getElem?_append_right (le_refl _),sub_self,ha]
   rfl
  rw [zB9 R.nodup hx hx2,List.drop_left,List.take_left]
  exact e.symm
structure TwoSt(f:Nat→Nat)(Rs:List (List Nat))(S:List Nat):Prop where
 ok:RingsOk f Rs
 sub:∀r∈Rs,r∈rings f
 sorted:S.Pairwise (· < ·)
 mem:∀x,x∈S↔x∈word f∧∀r∈Rs,x∉r
noncomputable def zDn(Rs:List (List Nat)):List Nat:=Rs.map (·.headD 0)
theorem TwoSt.zero{f:Nat→Nat}{S:List Nat}(h:S.Pairwise (· < ·))(hm:∀x,x∈S↔x∈word f):TwoSt f [] S:=⟨⟨fun r hr=>(by cases hr),.nil⟩,fun r hr=>(by cases hr),h,fun x=>by rw [hm];simp⟩
theorem TwoSt.pick{f:Nat→Nat}(hf:∀x,x<7→f x<7){Rs:List (List Nat)}{S:List Nat}(h:TwoSt f Rs S){x:Nat}(hx:x∈S):
  ∃k r u v,k<7∧Ring f k r∧r∈rings f∧r=u++x::v∧(∀y∈(x::v)++u,y∈S)∧∀r'∈Rs,k∉r':=by
 obtain ⟨hw,hn⟩:=(h.mem x).mp hx
 obtain ⟨r,hr,hxr⟩:=mem_flatten.mp hw
 obtain ⟨k,hk,K⟩:=zA8 hf hr
 obtain ⟨u,v,e⟩:=List.append_of_mem hxr
 have key:∀y∈r,∀r'∈Rs,y∉r':=fun y hy r' hr' hy'=>by
  obtain ⟨k',_,K'⟩:=h.ok.ring r' hr'
  have e2:=zB1 K K' hy hy'
  subst e2
  have e3:=RingsOk.mem_eq K K'
  subst e3
  exact hn _ hr' hxr
 refine ⟨k,r,u,v,hk,K,hr,e,fun y hy=>?_,key k (by obtain ⟨t,rfl⟩:=K.head;exact .head _)⟩
 have hy':y∈r:=by rw [e];exact mem_append.mpr (mem_append.mp hy).symm
 exact (h.mem y).mpr ⟨mem_flatten.mpr ⟨r,hr,hy'⟩,key y hy'⟩
theorem zCu{f:Nat→Nat}{Rs:List (List Nat)}(h:RingsOk f Rs):(zDn Rs).Pairwise (· < ·):=by
 unfold zDn
 rw [pairwise_map]
 exact h.sorted
noncomputable def zW2(k:Nat)(r:List Nat)(Rs:List (List Nat)):List (List Nat):=Rs.take (cut k (zDn Rs))++r::Rs.drop (cut k (zDn Rs))
theorem zP5{f:Nat→Nat}{k:Nat}{r:List Nat}{Rs:List (List Nat)}(K:Ring f k r):zDn (zW2 k r Rs)=zJ8 k (zDn Rs):=by
 unfold zDn zW2 zJ8
 rw [map_append,map_cons,map_take,map_drop,zAn K]
 rfl
theorem zDz{k:Nat}{r:List Nat}{Rs:List (List Nat)}(x:List Nat):x∈zW2 k r Rs↔x=r∨x∈Rs:=by
 unfold zW2
 conv=>rhs;rw [←take_append_drop (cut k (zDn Rs)) Rs]
 simp only [mem_append,mem_cons]
 constructor
 ·rintro (h|h|h)
  ·exact .inr (.inl h)
  ·exact .inl h
  ·exact .inr (.inr h)
 ·rintro (h|h|h)
  ·exact .inr (.inl h)
  ·exact .inl h
  ·exact .inr (.inr h)
theorem zSm{f:Nat→Nat}{Rs:List (List Nat)}(h:RingsOk f Rs){k:Nat}(hk:k∈zDn Rs):∃r∈Rs,k∈r:=by
 obtain ⟨r,hr,rfl⟩:=mem_map.mp hk
 obtain ⟨k',_,K⟩:=h.ring r hr
 exact ⟨r,hr,by rw [zAn K];obtain ⟨t,rfl⟩:=K.head;exact .head _⟩
theorem TwoSt.next{f:Nat→Nat}{Rs:List (List Nat)}{S S' c r:List Nat}{k:Nat}(h:TwoSt f Rs S)(hk:k<7)(K:Ring f k r)(hr:r∈rings f)(hc:∀y,y∈c↔y∈r)(hnew:∀r'∈Rs,k∉r')(hT:TakeAt S c c.length S'):TwoSt f (zW2 k r Rs) S':=by
 refine ⟨⟨fun q hq=>?_,?_⟩,fun q hq=>?_,hT.sorted,fun x=>?_⟩
 ·rcases (zDz q).mp hq with rfl|hq
  ·exact ⟨k,hk,K⟩
  ·exact h.ok.ring q hq
 ·have h1:=zCa (zCu h.ok) (z:=k) fun c=>by
   obtain ⟨q,hq,hkq⟩:=zSm h.ok c
   exact hnew q hq hkq
  rw [←zP5 K] at h1
  unfold zDn at h1
  rw [pairwise_map] at h1
  exact h1
 ·rcases (zDz q).mp hq with rfl|hq
  ·exact hr
  ·exact h.sub q hq
 ·rw [hT.mem,h.mem,take_length,hc]
  constructor
  ·rintro ⟨⟨a,b⟩,d⟩
   refine ⟨a,fun q hq=>?_⟩
   rcases (zDz q).mp hq with rfl|hq
   ·exact d
   ·exact b q hq
  ·rintro ⟨a,b⟩
   exact ⟨⟨a,fun q hq=>b q ((zDz q).mpr (.inr hq))⟩,b r ((zDz r).mpr (.inl rfl))⟩
theorem TwoSt.done{f:Nat→Nat}(hf:∀x,x<7→f x<7){Rs:List (List Nat)}(h:TwoSt f Rs []):Rs=rings f:=
 zQp hf h.ok h.sub fun x hx=>Classical.byContradiction fun c=>by
  have:=(h.mem x).mpr ⟨hx,fun r hr hxr=>c ⟨r,hr,hxr⟩⟩
  cases this
theorem TwoSt.lt{f:Nat→Nat}(hf:∀x,x<7→f x<7){Rs:List (List Nat)}{S:List Nat}(h:TwoSt f Rs S):∀x∈S,x<7:=fun x hx=>zA9 hf x ((h.mem x).mp hx).1
theorem TwoSt.len{f:Nat→Nat}{Rs:List (List Nat)}{S:List Nat}(h:TwoSt f Rs S):Rs.length≤7:=by
 have:=zA3 (n:=7) ((zCu h.ok).imp fun h=>ne_of_lt h) fun x hx=>by
  obtain ⟨r,hr,rfl⟩:=mem_map.mp hx
  obtain ⟨k,hk,K⟩:=h.ok.ring r hr
  rw [zAn K]
  exact hk
 unfold zDn at this
 rwa [length_map] at this
noncomputable abbrev accO(d:Addr)(vs:List Value)(n:Nat):Obj:=⟨.ref 262,some d,.seq vs.toArray n,#[]⟩
noncomputable abbrev szK(P:Params):Int:=PyData.keyHash P (.ofString "_initial_size")
noncomputable abbrev zGb(P:Params)(k:Value)(tk:Tok):Obj:=dictOf [⟨szK P,.str (.ofString "_initial_size") tk,k⟩] 1
section
variable {prog:Program}{w:World}{A:Around}{E:Value→Shared→Prop}{s:Shared}{h₀:Heap}{L a d:Addr}{m:Str→Option Value}{news:List (Addr×Obj)}{g:Obj→List (Addr×Obj)}{vs:List Value}{n:Nat}{od:Obj}
theorem zAh(N:News h₀ L s.heap news)(ha:(a,accO d vs n)∈news)(hd:(d,od)∈news):InstAt s.heap a (accO d vs n) 262 (some od):=⟨(N _ ha).1,rfl,rfl,(N _ hd).1⟩
theorem yBl(P:Params):findIn (kW P) (.ref 262) "__getattribute__" = some (some (.builtin "list.__getattribute__")):=by kernel_rfl
theorem yBn(P:Params):findIn (kW P) (.ref 262) "__getattr__" = some none:=by kernel_rfl
theorem zRs{pl:Sem Bool}{Q:Value×List Value→Shared→Prop}{name:Str}{v:Value}{ox:Obj}(X:(kW w.params).In s.heap)(I:InstAt s.heap a ox 262 (some od))(hf:findIn (kW w.params) (.ref 262) name=some (some v))(ht:typeIn (kW w.params) v=some (.type "function")∨typeIn (kW w.params) v=some (.type "method_descriptor"))(hs:shadowIn (some od) name=some false)(h:Q (v,[.ref a]) s):wpAny (model prog w) A (getMethod (.ref a) name pl) Q E s:=by
 have hcan:(Manifest.canonical "list.__getattribute__" != "object.__getattribute__")=false:=by decide +kernel
 unfold getMethod specialOf
 refine wpAny_bind (wpAny_bind (I.type.here ((looks_findIn X (yBl _)).here ?_)))
 dsimp only
 rw [hcan,if_neg (by decide)]
 refine wpAny_bind (wpAny_bind (I.type.here ((looks_findIn X (yBn _)).here ?_)))
 refine wpAny_bind (wpAny_bind (I.type.here ((looks_findIn X hf).here ?_)))
 have rest:wpAny (model prog w) A (do
   if let .ref a:=Value.ref a then
    if let some d:=(←loadPart a (some headPart)).dict then
     if (←nsGet d name).isSome then return ←(do return (←getAttr (.ref a) name,[]))
   rule "call.method-form"
   return (v,[Value.ref a])) Q E s:=by
  refine wpAny_bind (wpAny_loadPart I.at_ ?_)
  have hd:=I.dict
  cases e:ox.dict with
  |none=>exact wpAny_bind (wpAny_rule (wpAny_pure h))
  |some dx=>
   rw [e] at hd
   obtain ⟨r,a,b⟩:=Option.map_eq_some_iff.mp hs
   refine wpAny_bind (wpAny_bind (wpAny_loadPart hd ?_))
   rw [nsLook_of a]
   refine wpAny_pure ?_
   rw [b]
   exact wpAny_bind (wpAny_rule (wpAny_pure h))
 rcases ht with ht|ht
 ·refine wpAny_bind ((looks_typeIn X ht).here ?_)
  rw [if_neg (by decide +kernel)]
  exact rest
 ·refine wpAny_bind ((looks_typeIn X ht).here ?_)
  rw [if_neg (by decide +kernel)]
  exact rest
theorem zP1:builtinKind "list.__getattribute__" = some .slot:=by decide +kernel
theorem zLa:splitId "list.__getattribute__" = some ("list","__getattribute__"):=by decide +kernel
theorem zSz(P:Params):mroIn (kW P) 262 (.type "list")=some true:=by kernel_rfl
theorem zWd(P:Params):mroIn (kW P) 262 (.type "object")=some true:=by kernel_rfl
theorem zB2{M:Model}{h:Heap}{P:Params}{ox:Obj}{od:Option Obj}(X:(kW P).In h)(I:InstAt h a ox 262 od):Looks M h (isInstance (.ref a) (.type "list")) true:=I.type.andThen (looks_mroIn X (zSz P))
theorem zVx{name:Str}{tk:Tok}{v:Value}{Q:Value→Shared→Prop}{ox:Obj}(X:(kW w.params).In s.heap)(I:InstAt s.heap a ox 262 (some od))(hf:findObj (kW w.params) 262 (some od) name=some (.value v))(h:Q v s):
  wpAny (model prog w) A (call (.builtin "list.__getattribute__") [.ref a,.str name tk]) Q E s:=by
 refine wpAny_call (codeAny_call_builtin PySem.F.slot_list_getattribute.plain PySem.F.entry_list_ga (@check_slot (model prog w) _ _ s "list.__getattribute__" "list" "__getattribute__" (.ref a) [.str name tk] [] _ zP1 zLa (zB2 X I) (PySem.F.args_list_getattribute_2 (.ref a) (.str name tk)) ?_))
 unfold Builtin.«object.__getattribute__»
 have e1:slotArgs "__getattribute__" 1 ⟨[.ref a,.str name tk],[]⟩=pure (.ref a,[.str name tk]):=by rfl
 rw [e1]
 refine wpAny_bind (wpAny_pure ?_)
 dsimp only
 have e2:Builtin.ObjectAttr.attrName (.str name tk)=pure name:=by rfl
 rw [e2]
 refine wpAny_bind (wpAny_pure (wpAny_bind (I.type.here (wpAny_bind ((looks_find X I hf).here ?_)))))
 exact wpAny_pure h
theorem zV2{name:Str}{expr:Bool}{v:Value}{Q:Value→Shared→Prop}{ox:Obj}(X:(kW w.params).In s.heap)(I:InstAt s.heap a ox 262 (some od))(hf:findObj (kW w.params) 262 (some od) name=some (.value v))(hh:handedIn v=true)(h:Q v {s with toks:=s.toks+1}):
  wpAny (model prog w) A (getAttr (.ref a) name expr) Q E s:=by
 obtain ⟨hp,gg,dd,t,os⟩:=s
 unfold getAttr getAttrBy
 refine wpAny_bind (wpAny_mkText (wpAny_holding (wpAny_bind (I.type.at (wpAny_bind ((looks_findIn X (yBl _)).at ?_))))))
 dsimp only
 rw [if_neg (by decide)]
 unfold getAttrByItsOwn hookBefore
 rw [if_pos (by decide)]
 refine wpAny_bind ((looks_findIn X (yBn _)).at ?_)
 refine wpAny_bind (wpAny_attempt (wpAny_holding ?_))
 unfold callGetattribute
 have hfalse:(expr&&onTheHeap (.builtin "list.__getattribute__"))=false:=by induction expr<;>rfl
 rw [hfalse,if_neg (by decide)]
 unfold boundAndCalled
 rw [PySem.F.slot_list_getattribute.bind (.ref a)]
 refine wpAny_bind (wpAny_pure ?_)
 refine zVx (s:=⟨hp,gg,dd,t+1,os⟩) X I hf ?_
 show wpAny _ _ (handedOut v) _ _ _
 rw [handedOut_of hh];exact wpAny_pure h
theorem zN8(self:Value):Builtin.ObjectAttr.refuseIfOverridden self "__setattr__" = typeOf self >>= fun tp=>mroOf tp >>= fun l=>refuseLoop self "__setattr__" l:=rfl
theorem zKl(self:Value):refuseLoop self "__setattr__" [.ref 262,.type "list",.type "object"]=pure ():=by
 rw [refuseLoop_ref]
 kernel_rfl
theorem zNx{M:Model}{h:Heap}{P:Params}(X:(kW P).In h):Looks M h (mroOf (.ref 262)) [.ref 262,.type "list",.type "object"]:=by
 obtain ⟨cd,hc,e⟩:∃cd,clsIn (kW P) 262=some cd∧cd.mro=[.ref 262,.type "list",.type "object"]:=⟨_,rfl,rfl⟩
 rw [←e]
 exact (looks_clsIn X hc).andThen .now
theorem yDo(P:Params):findIn (kW P) (.ref 262) "__setattr__" = some (some (.builtin "object.__setattr__")):=by kernel_rfl
theorem zUc(P:Params):findIn (kW P) (.ref 262) "_initial_size" = some none:=by kernel_rfl
theorem zY2{name:Str}{tk:Tok}{v:Value}{ox od':Obj}{dx:Addr}{pre post:List (Addr×Obj)}{es:List DictEntry}{n:Nat}{R:Result→Shared→Prop}(F:Fr h₀ L s.heap m)(N:News h₀ L s.heap (pre++(dx,od)::post))(X:(kW w.params).In s.heap)(I:InstAt s.heap a ox 262 (some od))(hd:ox.dict=some dx)(ha:findIn (kW w.params) (.ref 262) name=some none)(hl:(lookIn name od).isSome=true)(h1:∀p∈pre,p.1≠dx)(h2:∀p∈post,p.1≠dx)(e:Obj.putName name (PyData.keyHash w.params name) (.str name s.toks) v od=od')(e':od'.data = .dict es.toArray n)(hz:es.length≤1000)(h:∀h',Fr h₀ L h' m→News h₀ L h' (pre++(dx,od')::post)→R (.ok (.ret .none)) {s with heap:=h',toks:=s.toks+1}):
  codeAny (model prog w) A (.call (.builtin "object.__setattr__") ⟨[.ref a,.str name tk,v],[]⟩) R s:=by
 have SF:=PySem.F.store_object
 have sub:Looks (model prog w) s.heap (isInstance (.ref a) (.type "object")) true:=I.type.andThen (looks_mroIn X (zWd _))
 refine codeAny_call_builtin SF.slot.plain SF.entry (@check_slot (model prog w) _ _ s "object.__setattr__" "object" "__setattr__" (.ref a) [.str name tk,v] [] _ SF.kind SF.split sub (SF.args (.ref a) (.str name tk) v) ?_)
 rw [osa_eq,zN8]
 refine wpAny_bind (wpAny_bind (I.type.here (wpAny_bind ((zNx X).here ?_))))
 rw [zKl]
 refine wpAny_pure (wpAny_bind (I.type.here (wpAny_bind ((looks_findIn X ha).here (wpAny_bind (wpAny_pure ?_))))))
 dsimp only
 obtain ⟨cd,hc,hd'⟩:∃cd,clsIn (kW w.params) 262=some cd∧cd.hasDict=true:=⟨_,rfl,rfl⟩
 obtain ⟨U1,U2⟩:=news_upd (f:=Obj.putName name (PyData.keyHash w.params name) (.str name s.toks) v) F N h1 h2 e (by obtain ⟨_,_,dd,_⟩:=od';subst e';rfl)
 have D:=(N (dx,od) (by simp)).1
 have D':=(U2 (dx,od') (by simp)).1
 obtain ⟨hx,hcl,hn,-⟩:=I
 obtain ⟨oc,odi,oda,osl⟩:=ox
 dsimp only at hcl hd
 subst hcl hd
 refine wpAny_bind (wpAny_pure (wpAny_bind (wpAny_bind (wpAny_loadPart hx (wpAny_bind ((looks_clsIn X hc).here ?_))))))
 rw [hd']
 refine wpAny_pure (a:=some dx) (wpAny_bind (wpAny_pure (wpAny_bind ?_)))
 unfold nsSet
 refine wpAny_bind (wpAny_bind (wpAny_askSetting (wpAny_pure (wpAny_bind (wpAny_mkText (wpAny_bind (wpAny_loadPart D ?_)))))))
 unfold lookIn at hl
 split at hl
 ·rename_i es₀ n₀ q
  rw [q]
  dsimp only
  have c:(!es₀.any (·.key.isStr name)&&es₀.any (·.refKey))=false:=by
   rw [←Array.any_toList,←Array.any_toList]
   split at hl
   ·rename_i en he
    rw [List.any_eq_true.mpr ⟨en,List.mem_of_find?_eq_some he,List.find?_some he⟩];rfl
   ·split at hl
    ·cases hl
    ·rename_i z;rw [Bool.not_eq_true] at z;rw [z,Bool.and_false]
  rw [aRefKeyMayBeTheName_at,c]
  refine wpAny_updatePart D ?_
  refine wpAny_bind (wpAny_lookBehind D' (by rw [e'];exact pastItsLine_dict (by rw [size_toArray,sizeLine_eq];(exact le_trans (by assumption) (le_of_ble_eq_true rfl)))) ?_)
  exact wpAny_pure (h _ U1 U2)
 ·cases hl
theorem zNz{v:Value}{es es':List DictEntry}{k k':Nat}{Q:Unit→Shared→Prop}{ox:Obj}{g:Obj→List (Addr×Obj)}(F:Fr h₀ L s.heap m)(X:(kW w.params).In h₀)(N:News h₀ L s.heap news)(I:InstAt s.heap a ox 262 (some (dictOf es k)))(hd:ox.dict=some d)(U:UpdF d (dictOf es k) news g)(hl:(getL (.ofString "_initial_size") es).isSome=true)(hz:es'.length≤1000)(e:(putL (.ofString "_initial_size") (PyData.keyHash w.params (.ofString "_initial_size")) (.str (.ofString "_initial_size") (s.toks+1)) v es,putN (.ofString "_initial_size") es k)=(es',k'))(h:∀h',Fr h₀ L h' m→News h₀ L h' (g (dictOf es' k'))→Q () {s with heap:=h',toks:=s.toks+2}):wpAny (model prog w) A (setAttr (.ref a) "_initial_size" v) Q E s:=by
 obtain ⟨pre,post,rfl,hg,p1,p2⟩:=U.split
 obtain ⟨e1,e2⟩:=Prod.mk.inj e
 exact set_plain (X.keeps F.keep) I (yDo _) (zY2 (s:={s with toks:=s.toks+1}) F N (X.keeps F.keep) I hd (zUc _) hl p1 p2 (by rw [putName_dict,e1,e2]) rfl hz fun h' F' N'=>h h' F' (hg _▸N'))
theorem zQh(P:Params)(S:Setting):peek (kW P) S (isType (.ref 262))=some true:=by kernel_rfl
theorem zLv(P:Params)(S:Setting):peek (kW P) S (isSubtype (.ref 262) (.type "list"))=some true:=by kernel_rfl
section
variable {h:Heap}{gg:Array GenState}{dd:Drawn}{t:Nat}{os:OsState}{R:Result→Shared→Prop}
theorem zQi(P:Params)(S:Setting):peek (kW P) S (Bind.madeBy (.ref 262))=some (some "list.__new__"):=by kernel_rfl
theorem zWr(P:Params)(S:Setting):peek (kW P) S (specialOf (.ref 262) "__call__")=some (some (.builtin "type.__call__")):=by kernel_rfl
theorem yAe(P:Params)(S:Setting):peek (kW P) S (isInstance (.ref 262) (.type "type"))=some true:=by kernel_rfl
theorem zWt(P:Params)(S:Setting):peek (kW P) S (isSubtype (.ref 262) (.ref 262))=some true:=by kernel_rfl
theorem zZ9(P:Params):∃oc od cd sl,(kW P).lookup 262=some ⟨oc,od,.cls cd,sl⟩∧cd.abstract=false∧cd.hasDel=false∧cd.mro=[.ref 262,.type "list",.type "object"]:=⟨_,_,_,_,rfl,rfl,rfl,rfl⟩
end
end
namespace F
theorem slot_md_get:Slot "method_descriptor" "__get__" "method_descriptor.__get__" := .of (owner:="method_descriptor") (n:="__get__") (by rw [typeLookup_type,builtinLookup_eq_fast];kernel_rfl) (by decide +kernel) (by decide +kernel) (by decide +kernel)
 (by first|exact .inl (by decide +kernel)|exact .inr (by decide +kernel)) (by rw [isSubtype_type];kernel_rfl)
theorem entry_md_get:entryFor table "method_descriptor.__get__" = some Builtin.«method_descriptor.__get__» := entryFor_of_tree (by kernel_rfl)
theorem args_md_get(a b c:Value):argsOk "method_descriptor.__get__" ⟨[a,b,c],[]⟩:=by unfold argsOk;kernel_rfl
theorem slot_wd_get:Slot "wrapper_descriptor" "__get__" "wrapper_descriptor.__get__" := .of (owner:="wrapper_descriptor") (n:="__get__") (by rw [typeLookup_type,builtinLookup_eq_fast];kernel_rfl) (by decide +kernel) (by decide +kernel) (by decide +kernel)
 (by first|exact .inl (by decide +kernel)|exact .inr (by decide +kernel)) (by rw [isSubtype_type];kernel_rfl)
theorem entry_wd_get:entryFor table "wrapper_descriptor.__get__" = some Builtin.«wrapper_descriptor.__get__» := entryFor_of_tree (by kernel_rfl)
theorem args_wd_get(a b c:Value):argsOk "wrapper_descriptor.__get__" ⟨[a,b,c],[]⟩:=by unfold argsOk;kernel_rfl
end F
section
variable {prog:Program}{w:World}{A:Around}{E:Value→Shared→Prop}{s:Shared}{h₀ h:Heap}{gg:Array GenState}{dd:Drawn}{t:Nat}{os:OsState}{x:Addr}{ox:Obj}{od:Obj}
theorem zWw{Q:Value→Shared→Prop}(X:(kW w.params).In h)(I:InstAt h x ox 262 (some od))(h9:Q (.ref h.objs.size) ⟨h.push {cls:=.type "builtin_function_or_method",data:=.fields #[.builtin "list.pop",.ref x]},gg,dd,t,os⟩):
  wpAny (model prog w) A (call (.builtin "method_descriptor.__get__") [.builtin "list.pop",.ref x,.ref 262]) Q E ⟨h,gg,dd,t,os⟩:=by
 have hT:(⟨h,gg,dd,t,os⟩:Shared).TypeIs (.builtin "list.pop") "method_descriptor" := by show builtinType _=_;rw [builtinType_eq_fast];kernel_rfl
 have hli:Looks (model prog w) h (isSubtype (.ref 262) (.type "list")) true:=Looks.of_peek X (zLv _ _)
 refine wpAny_call_entry F.slot_md_get hT F.entry_md_get ?_ (F.args_md_get _ _ _)
 unfold Builtin.«method_descriptor.__get__»
 have hc:Manifest.toldItsClass.contains "list.pop" = false:=by decide +kernel
 have hs:(".".intercalate ("list.pop".cutAt '.').dropLast)="list" := by decide +kernel
 have hx:=I.at_
 have hxc:=I.cls
 repeat (first|(with_reducible refine Looks.at hli ?_)|simp -iota only [hc,hs,false_eq_true,if_false,Bool.not_true]|(with_reducible refine wpAny_loadPart_at hx ?_;rw [hxc])|wp_step)
 exact ⟨_,rfl,h9⟩
theorem zW7{Q:Value→Shared→Prop}(X:(kW w.params).In h)(I:InstAt h x ox 262 (some od))(h9:Q (.ref h.objs.size) ⟨h.push {cls:=.type "method-wrapper",data:=.fields #[.builtin "list.__len__",.ref x]},gg,dd,t,os⟩):
  wpAny (model prog w) A (call (.builtin "wrapper_descriptor.__get__") [.builtin "list.__len__",.ref x,.ref 262]) Q E ⟨h,gg,dd,t,os⟩:=by
 have hT:(⟨h,gg,dd,t,os⟩:Shared).TypeIs (.builtin "list.__len__") "wrapper_descriptor" := by show builtinType _=_;rw [builtinType_eq_fast];kernel_rfl
 have hli:Looks (model prog w) h (isSubtype (.ref 262) (.type "list")) true:=Looks.of_peek X (zLv _ _)
 refine wpAny_call_entry F.slot_wd_get hT F.entry_wd_get ?_ (F.args_wd_get _ _ _)
 unfold Builtin.«wrapper_descriptor.__get__»
 have hc:Manifest.toldItsClass.contains "list.__len__" = false:=by decide +kernel
 have hs:(".".intercalate ("list.__len__".cutAt '.').dropLast)="list" := by decide +kernel
 have hx:=I.at_
 have hxc:=I.cls
 repeat (first|(with_reducible refine Looks.at hli ?_)|simp -iota only [hc,hs,false_eq_true,if_false,Bool.not_true]|(with_reducible refine wpAny_loadPart_at hx ?_;rw [hxc])|wp_step)
 exact ⟨_,rfl,h9⟩
theorem zSn{Q:Value→Shared→Prop}(X:(kW w.params).In h)(I:InstAt h x ox 262 (some od))(h9:Q (.ref h.objs.size) ⟨h.push {cls:=.type "method-wrapper",data:=.fields #[.builtin "list.__init__",.ref x]},gg,dd,t,os⟩):
  wpAny (model prog w) A (call (.builtin "wrapper_descriptor.__get__") [.builtin "list.__init__",.ref x,.ref 262]) Q E ⟨h,gg,dd,t,os⟩:=by
 have hT:(⟨h,gg,dd,t,os⟩:Shared).TypeIs (.builtin "list.__init__") "wrapper_descriptor" := by show builtinType _=_;rw [builtinType_eq_fast];kernel_rfl
 have hli:Looks (model prog w) h (isSubtype (.ref 262) (.type "list")) true:=Looks.of_peek X (zLv _ _)
 refine wpAny_call_entry F.slot_wd_get hT F.entry_wd_get ?_ (F.args_wd_get _ _ _)
 unfold Builtin.«wrapper_descriptor.__get__»
 have hc:Manifest.toldItsClass.contains "list.__init__" = false:=by decide +kernel
 have hs:(".".intercalate ("list.__init__".cutAt '.').dropLast)="list" := by decide +kernel
 have hx:=I.at_
 have hxc:=I.cls
 repeat (first|(with_reducible refine Looks.at hli ?_)|simp -iota only [hc,hs,false_eq_true,if_false,Bool.not_true]|(with_reducible refine wpAny_loadPart_at hx ?_;rw [hxc])|wp_step)
 exact ⟨_,rfl,h9⟩
noncomputable abbrev zX7(x:Addr):Obj:=ks_superObj 262 x 262
theorem zO2(P:Params):alongIn (kW P) "pop" [.type "list",.type "object"]=some (some (.builtin "list.pop")):=by kernel_rfl
theorem zO1(P:Params):alongIn (kW P) "__len__" [.type "list",.type "object"]=some (some (.builtin "list.__len__")):=by kernel_rfl
theorem zMe(P:Params):alongIn (kW P) "__init__" [.type "list",.type "object"]=some (some (.builtin "list.__init__")):=by kernel_rfl
theorem yAv{so x:Addr}{name:Str}{tk:Tok}{id gid T:String}{Q:Fin→Shared→Prop}(hso:h.get? so=some (zX7 x))(X:(kW w.params).In h)(hno:Looks (model prog w) h (opaqueClassAbove (.ref 262)) none)(hf:alongIn (kW w.params) name [.type "list",.type "object"]=some (some (.builtin id)))(hn:(name==("__class__" : Str))=false)(hx:x≠262)(ht:typeOf (.builtin id)=pure (.type T))(hlk:typeLookup (.type T) "__get__" = pure (some (.builtin gid)))(hq:wpAny (model prog w) A (call (.builtin gid) [.builtin id,.ref x,.ref 262]) (fun v s'=>Q (.done (.ret v)) s') E ⟨h,gg,dd,t,os⟩):
  wpAny (model prog w) A (Builtin.«super.__getattribute__» ⟨[.ref so,.str name tk],[]⟩) Q E ⟨h,gg,dd,t,os⟩:=by
 have hne:(Value.ref x==Value.ref 262)=false:=by simp [hx]
 have hdt:(zX7 x).data = .fields #[.ref 262,.ref x,.ref 262]:=rfl
 have f0:(#[.ref 262,.ref x,.ref 262]:Array Value)[0]? = some (.ref 262):=rfl
 have f1:(#[.ref 262,.ref x,.ref 262]:Array Value)[1]? = some (.ref x):=rfl
 have f2:(#[.ref 262,.ref x,.ref 262]:Array Value)[2]? = some (.ref 262):=rfl
 have hC:Looks (model prog w) h (mroOf (.ref 262)) [.ref 262,.type "list",.type "object"]:=zNx X
 have hl:(([.ref 262,.type "list",.type "object"]:List Value).dropWhile (· != .ref 262)).drop 1=[.type "list",.type "object"]:=by decide
 have hT:(⟨h,gg,dd,t,os⟩:Shared).TypeIs (.builtin id) T:=ht
 unfold Builtin.«super.__getattribute__»
 repeat (first
  |(with_reducible refine wpAny_field hso hdt f0 ?_)|(with_reducible refine wpAny_field hso hdt f1 ?_)|(with_reducible refine wpAny_field hso hdt f2 ?_)
  |(with_reducible refine ks_wpAny_notOpaque hno ?_)
  |(with_reducible refine Looks.at hC ?_;rw [hl])
  |(refine ks_forIn_along X (fun _ _=>rfl) rfl ?_ hf)
  |(with_reducible refine wpAny_typeOf hT ?_)
  |(with_reducible refine wpAny_mono hq (fun _ _ z=>?_) fun _ _ z=>z)
  |(rw [hn,hne,if_neg Bool.false_ne_true])
  |wp_step
  |dsimp only)
 all_goals exact z
theorem zIb{so x:Addr}{name:Str}{id gid T:String}{pl:Sem Bool}{Q:Value×List Value→Shared→Prop}(hso:h.get? so=some (zX7 x))(X:(kW w.params).In h)(hno:Looks (model prog w) h (opaqueClassAbove (.ref 262)) none)(hf:alongIn (kW w.params) name [.type "list",.type "object"]=some (some (.builtin id)))(hn:(name==("__class__" : Str))=false)(hx:x≠262)(ht:typeOf (.builtin id)=pure (.type T))(hlk:typeLookup (.type T) "__get__" = pure (some (.builtin gid))){q:Addr}{h':Heap}(hg:∀{A:Around} {E:Value→Shared→Prop} {Q':Value→Shared→Prop},Q' (.ref q) ⟨h',gg,dd,t+1,os⟩→wpAny (model prog w) A (call (.builtin gid) [.builtin id,.ref x,.ref 262]) Q' E ⟨h,gg,dd,t+1,os⟩)(hq:Q (.ref q,[]) ⟨h',gg,dd,t+1,os⟩):
  wpAny (model prog w) A (getMethod (.ref so) name pl) Q E ⟨h,gg,dd,t,os⟩:=by
 have hlk2:=PySem.F.ks_slot_super_ga.lookup
 have hcan:=PySem.F.ks_canon_super_ga
 have hT:∀t',(⟨h,gg,dd,t',os⟩:Shared).TypeIs (.ref so) "super" := fun _=>⟨_,hso,rfl⟩
 unfold getMethod
 refine wpAny_bind (wpAny_specialOf (hT _) hlk2 ?_)
 show wpAny _ _ (if (Manifest.canonical "super.__getattribute__" != "object.__getattribute__")=true then _ else _) _ _ _
 rw [if_pos hcan]
 unfold getAttr getAttrBy
 refine wpAny_bind (wpAny_bind (wpAny_mkText (wpAny_holding (wpAny_bind (wpAny_typeOf (hT _) (wpAny_bind (wpAny_of_eq hlk2 ?_)))))))
 show wpAny _ _ (getAttrByItsOwn (.ref so) (.str name t) (.type "super") (.builtin "super.__getattribute__") true false) _ _ _
 unfold getAttrByItsOwn hookBefore callGetattribute boundAndCalled
 refine wpAny_bind (wpAny_of_eq (show (if onTheHeap (.type "super") then typeLookup (.type "super") "__getattr__" else pure none)=pure none from rfl) ?_)
 refine wpAny_bind (wpAny_attempt (wpAny_holding ?_))
 show wpAny _ _ (bindSpecial (.builtin "super.__getattribute__") (.ref so) >>= _) _ _ _
 refine wpAny_bind (wpAny_of_eq (PySem.F.ks_slot_super_ga.bind _) ?_)
 refine wpAny_mono (Q:=fun v s'=>v = .ref q∧s'=⟨h',gg,dd,t+1,os⟩) (E:=fun _ _=>False)
  (wpAny_call_entry PySem.F.ks_slot_super_ga (hT _) PySem.F.ks_entry_super_ga (yAv hso X hno hf hn hx ht hlk (hg ⟨_,rfl,rfl,rfl⟩)) (PySem.F.ks_gaArgs_super _ _)) (fun v s' hv=>?_) fun _ _ z=>z.elim
 obtain ⟨rfl,rfl⟩:=hv
 refine wpAny_pure ?_
 exact wpAny_pure hq
end
section
variable {prog:Program}{w:World}{A:Around}{E:Value→Shared→Prop}{s:Shared}{h₀ h:Heap}{L a d:Addr}{m:Str→Option Value}{news:List (Addr×Obj)}{g:Obj→List (Addr×Obj)}{vs vs':List Value}{n:Nat}
noncomputable abbrev zU3(vs vs':List Value)(n:Nat):Nat:=if vs'.toArray.size==vs.toArray.size then n else n+1
theorem zHa{f:Array Value→Array Value}(F:Fr h₀ L h m)(N:News h₀ L h news)(U:UpdF a (accO d vs n) news g)(hf:f vs.toArray=vs'.toArray):
  Fr h₀ L (h.update a (Obj.mapSeq f)) m∧News h₀ L (h.update a (Obj.mapSeq f)) (g (accO d vs' (zU3 vs vs' n))):=by
 obtain ⟨pre,post,rfl,hg,p1,p2⟩:=U.split
 have z:=N (a,accO d vs n) (mem_append.mpr (.inr (.head _)))
 have e:(h.update a (Obj.mapSeq f)).get? a=some (accO d vs' (zU3 vs vs' n)):=by
  have q:(h.update a (Obj.mapSeq f)).get? a=some (Obj.mapSeq f (accO d vs n)):=Heap.get?_update_self _ z.1 rfl
  rw [q]
  show some (⟨.ref 262,some d,.seq (f vs.toArray) (if (f vs.toArray).size==vs.toArray.size then n else n+1),#[]⟩:Obj)=_
  rw [hf]
 exact ⟨F.change (Heap.SameBut.update ..) z.2.1 z.2.2,hg _▸news_set N p1 p2 (Heap.SameBut.update ..) e⟩
theorem zEd{M:Model}{A:Around}{E:Value→Shared→Prop}{s:Shared}{i owner nm:String}{self:Value}{rest:List Value}{Q:Unit→Shared→Prop}(hk:builtinKind i=some .method)(hs:splitId i=some (owner,nm))(hi:Looks M s.heap (isInstance self (.type owner)) true)(ha:argsOk i ⟨self::rest,[]⟩)(q:Q () s):
  wpAny M A (checkBuiltinCall i ⟨self::rest,[]⟩) Q E s:=by
 rw [checkBuiltinCall,hk,hs]
 refine wpAny_bind (hi.here ?_)
 rw [if_neg (by decide)]
 cases hsig:Manifest.signature? i with
 |none=>exact wpAny_pure q
 |some sig=>
  simp -iota only [argsOk,hsig] at ha
  have h2:Bind.checkArgs i sig ⟨self::rest,[]⟩=pure ():=ha
  show wpAny M A (Bind.checkArgs i sig ⟨self::rest,[]⟩) Q E s
  rw [h2];exact wpAny_pure q
theorem zSy(items:Array Value)(x:Value)(hsz:items.size≤sizeLine):
  Meets (Builtin.«list.append» ⟨[.ref a,x],[]⟩) (fun _ R s=>s.heap.get? a=some ⟨.ref 262,some d,.seq items n,#[]⟩∧R (.ok (.ret Value.none)) {s with heap:=s.heap.update a (Obj.mapSeq fun x_1=>x_1.push x),toks:=s.toks}):=
 .of_wp fun prog w A R s h=>by
  obtain ⟨hp,g,d,tk,os⟩:=s;obtain ⟨hl,h⟩:=h
  have hz':((fun xs:Array Value=>xs.push x) items).size≤sizeLine+1:=by simp;omega
  wp_walk using (wpAny_updateSeq hl rfl (hz:=hsz) (_hz':=hz')),PySem.AutoSeq1.wpAny_loadPart' hl
  exact ⟨_,rfl,h⟩
theorem yCf(items:Array Value)(y:Value)(hy:items[items.size-1]? = some y)(hs1:items.size≤sizeLine):
  Meets (Builtin.«list.pop» ⟨[.ref a],[]⟩)
   (fun _ R s=>s.heap.get? a=some ⟨.ref 262,some d,.seq items n,#[]⟩∧R (.ok (.ret y)) {s with heap:=s.heap.update a (Obj.mapSeq fun xs=>xs.eraseIdxIfInBounds (items.size-1))}):=
 .of_wp fun prog w A R s h=>by
  obtain ⟨hp,g,d,tk,os⟩:=s;obtain ⟨hl,h⟩:=h
  have hpos:0<items.size:=by
   rcases Nat.eq_zero_or_pos items.size with h0|h0
   ·simp [h0] at hy
   ·exact h0
  have hne:¬items.isEmpty=true:=by
   intro he;have:items.size=0:=by simpa using he
   lia
  have hk:seqIndex? (-1) items.size=some (items.size-1):=by
   rw [seqIndex_neg (by (exact natCast_nonneg _)) (by lia)];congr 1;lia
  wp_walk using PySem.AutoSeq1.wpAny_loadPart' hl
  simp -iota only [hk,hy,Option.bind_some,Option.map_some]
  have hz':(items.eraseIdxIfInBounds (items.size-1)).size≤sizeLine+1:=by
   have:(items.eraseIdxIfInBounds (items.size-1)).size≤items.size:=by
    simp [Array.eraseIdxIfInBounds];split<;>simp
   lia
  wp_walk using (wpAny_updateSeq hl rfl (hz:=hs1) (_hz':=hz')),PySem.AutoSeq1.wpAny_loadPart' hl
  exact ⟨_,rfl,h⟩
theorem yCe(items:Array Value)(hs1:items.size≤sizeLine):
  Meets (Builtin.«list.__len__» ⟨[.ref a],[]⟩)
   (fun _ R s=>s.heap.get? a=some ⟨.ref 262,some d,.seq items n,#[]⟩∧R (.ok (.ret (.int items.size s.toks))) {s with toks:=s.toks+1}):=
 .of_wp fun prog w A R s h=>by
  obtain ⟨hp,g,d,tk,os⟩:=s;obtain ⟨hl,h⟩:=h
  wp_walk using PySem.AutoSeq1.wpAny_loadPart' hl
  exact ⟨_,rfl,h⟩
theorem yA2:
  Meets (Builtin.«list.__init__» ⟨[.ref a],[]⟩)
   (fun _ R s=>s.heap.get? a=some ⟨.ref 262,some d,.seq #[] n,#[]⟩∧R (.ok (.ret .none)) {s with heap:=s.heap.update a (Obj.mapSeq fun _=>#[])}):=
 .of_wp fun prog w A R s h=>by
  obtain ⟨hp,g,d,tk,os⟩:=s;obtain ⟨hl,h⟩:=h
  wp_walk using (wpAny_updateSeq hl rfl (hz:=by simp) (_hz':=by simp)),PySem.AutoSeq1.wpAny_loadPart' hl
  exact ⟨_,rfl,h⟩
theorem zM8{x:Value}{Q:Value→Shared→Prop}(F:Fr h₀ L s.heap m)(X:(kW w.params).In h₀)(N:News h₀ L s.heap news)(U:UpdF a (accO d vs n) news g){od:Obj}(hd:(d,od)∈news)(hz:vs.length≤100000)(h:∀h' n',Fr h₀ L h' m→News h₀ L h' (g (accO d (vs++[x]) n'))→Q .none {s with heap:=h'}):wpAny (model prog w) A (call (.builtin "list.append") [.ref a,x]) Q E s:=by
 have I:=zAh N (zA2 U) hd
 have e:(fun x_1:Array Value=>x_1.push x) vs.toArray=(vs++[x]).toArray:=by simp
 obtain ⟨F',N'⟩:=zHa (f:=fun x_1=>x_1.push x) (vs':=vs++[x]) F N U e
 exact wpAny_call (codeAny_call_builtin PySem.F.slot_list_append.plain PySem.F.entry_list_append (@zEd (model prog w) _ _ s "list.append" "list" "append" (.ref a) [x] _ (by decide +kernel) (by decide +kernel) (zB2 (X.keeps F.keep) I) (PySem.F.args_list_append_2 (.ref a) x)
  (zSy vs.toArray x (by rw [size_toArray,sizeLine_eq];(exact le_trans (by assumption) (le_of_ble_eq_true rfl))) prog w A (wants Q E) s ⟨(N _ (zA2 U)).1,h _ _ F' N'⟩)))
noncomputable abbrev zKy(cls id:String)(x:Addr):Obj:={cls:=.type cls,data:=.fields #[.builtin id,.ref x]}
theorem zEc{cls id:String}{x b:Addr}{B:Builtin}{args:List Value}{S:PySem.Spec}{Q:Value→Shared→Prop}(hb:s.heap.get? b=some (zKy cls id x))(hcls:cls="builtin_function_or_method"∨cls="method-wrapper")(hq:plainId id=true)(he:entryFor table id=some B)(hc:Looks (model prog w) s.heap (checkBoundCall id ⟨.ref x::args,[]⟩) ())(M:Meets (B ⟨.ref x::args,[]⟩) S)(h:S A (wants Q E) s):
  wpAny (model prog w) A (call (.ref b) args) Q E s:=by
 refine wpAny_call (codeAny_of_tree ?_)
 show wpAny _ A.in1 (callAny (.ref b) ⟨args,[]⟩) _ _ _
 unfold callAny
 refine wpAny_bind (wpAny_load hb ?_)
 have e1:(((Value.type cls==Value.type "method") || (Value.type cls==Value.type "builtin_function_or_method") || (Value.type cls==Value.type "method-wrapper"))=true):=by rcases hcls with rfl|rfl<;>decide
 have e2:((Value.type cls != Value.type "method")=true):=by rcases hcls with rfl|rfl<;>decide
 simp -iota only [e1,e2,if_true]
 refine wpAny_bind (hc.here ?_)
 exact wpAny_bind (wpAny_pure (wpAny_pure ⟨plainId_quiet hq _,codeAny_builtin he (by rw [Around.under_plainId hq _];exact M prog w A (wants Q E) s h)⟩))
theorem zVc(x:Addr):checkBoundCall "list.__len__" ⟨[.ref x],[]⟩=pure ():=by kernel_rfl
theorem zS6(x:Addr):checkBoundCall "list.__init__" ⟨[.ref x],[]⟩=pure ():=by kernel_rfl
theorem zPe(P:Params):∃cd,clsIn (kW P) 262=some cd∧cd.qualname = .ofString "_Accumulator" := ⟨_,rfl,rfl⟩
theorem yCk(P:Params)(S:Setting):peek (kW P) S (typeOf (.ref 262))=some (.type "type"):=by kernel_rfl
theorem yAb(P:Params)(S:Setting):peek (kW P) S (isSubtype (.ref 262) (.type "module"))=some false:=by kernel_rfl
theorem zVd{M:Model}{P:Params}{h:Heap}{x:Addr}{ox:Obj}{od:Option Obj}(X:(kW P).In h)(I:InstAt h x ox 262 od):Looks M h (checkBoundCall "list.pop" ⟨[.ref x],[]⟩) ():=by
 intro A Q E s k hq
 obtain ⟨cd,hc,hn⟩:=zPe P
 have hsig:Manifest.signature? "list.pop" = some ⟨.positional,"list.pop","pop",.self,[⟨"index",.posOnly,false⟩]⟩:=by kernel_rfl
 have hargs:Bind.checkArgs "list.pop" ⟨.positional,"_Accumulator.pop","pop",.self,[⟨"index",.posOnly,false⟩]⟩ ⟨[.ref x],[]⟩=pure ():=by kernel_rfl
 have hk:builtinKind "list.pop" = some .method:=by decide +kernel
 have hv:Manifest.varargsMethods.contains "list.pop" = false:=by decide +kernel
 have X':(kW P).In s.heap:=X.keeps k
 have I':InstAt s.heap x ox 262 od:=⟨k _ _ I.at_,I.cls,I.no,by
  have:=I.dict
  cases e1:ox.dict<;>cases e2:od<;>rw [e1,e2] at this<;>first|exact this|exact k _ _ this⟩
 have hmod:Looks M s.heap (isInstance (.ref x) (.type "module")) false:=I'.type.andThen (Looks.of_peek X' (yAb _ _))
 have hty:Looks M s.heap (typeOf (.ref 262)) (.type "type"):=Looks.of_peek X' (yCk _ _)
 have hnc:∀c,ox.data≠.cls c:=fun c e=>by
  have:=I'.no
  unfold notCls at this
  rw [e] at this
  exact Bool.noConfusion this
 have hlast:Bind.lastOf "list.pop" = "pop" := by decide +kernel
 obtain ⟨hp,gg,dd,t,os⟩:=s
 have h1:Looks M hp (isInstance (.ref x) (.type "module")) false:=hmod
 have h2:=hty
 have h3:=I'.type (M:=M)
 have h4:Looks M hp (classData 262) cd:=looks_clsIn X' hc
 have hx:=I'.at_
 unfold checkBoundCall
 rw [hsig,hk]
 dsimp only
 rw [if_neg (by decide)]
 refine wpAny_bind (h1.at ?_)
 rw [hv,if_neg (by decide)]
 refine wpAny_bind (ks_wpAny_isType_inst hx hnc ?_)
 rw [if_neg Bool.false_ne_true]
 refine wpAny_bind (h3.at ?_)
 refine wpAny_bind (h4.at ?_)
 refine wpAny_bind (h2.at ?_)
 have hstr:toString (Str.ofString "_Accumulator").toString++toString "." ++ toString "pop" = "_Accumulator.pop" := by decide +kernel
 rw [if_pos (by decide),hn,hlast,hstr]
 exact wpAny_of_eq hargs hq
theorem yAc(P:Params):nsIn (kW P) cStatics "thirdparty.any" = some none:=by kernel_rfl
end
section
variable {prog:Program}{w:World}{A:Around}{E:Value→Shared→Prop}{s:Shared}{h₀ h:Heap}{L a d so q:Addr}{m:Str→Option Value}{news:List (Addr×Obj)}{g:Obj→List (Addr×Obj)}{vs vs':List Value}{n:Nat}{od:Obj}{k v:Value}{tk:Tok}
theorem zVp(P:Params):findIn (kW P) (.ref 262) "push" = some (some (.ref 206)):=by kernel_rfl
theorem zKc(P:Params):findIn (kW P) (.ref 262) "pop_from" = some (some (.ref 214)):=by kernel_rfl
theorem zYn(P:Params):findIn (kW P) (.ref 262) "pop" = some (some (.ref 222)):=by kernel_rfl
theorem zSh(P:Params):findIn (kW P) (.ref 262) "reset" = some (some (.ref 244)):=by kernel_rfl
theorem zJ0(P:Params):findIn (kW P) (.ref 262) "is_onlyws" = some (some (.ref 251)):=by kernel_rfl
theorem zHo(P:Params):findIn (kW P) (.ref 262) "part_count" = some (some (.ref 259)):=by kernel_rfl
theorem zOt(P:Params):findIn (kW P) (.ref 262) "append" = some (some (.builtin "list.append")):=by kernel_rfl
theorem zMa{pl:Sem Bool}{Q:Value×List Value→Shared→Prop}{name:Str}(F:Fr h₀ L s.heap m)(X:(kW w.params).In h₀)(N:News h₀ L s.heap news)(ha:(a,accO d vs n)∈news)(hd:(d,zGb w.params k tk)∈news)(hf:findIn (kW w.params) (.ref 262) name=some (some v))(ht:typeIn (kW w.params) v=some (.type "function")∨typeIn (kW w.params) v=some (.type "method_descriptor"))(hs:shadowIn (some (zGb w.params k tk)) name=some false)(h:Q (v,[.ref a]) s):
  wpAny (model prog w) A (getMethod (.ref a) name pl) Q E s:=zRs (X.keeps F.keep) (zAh N ha hd) hf ht hs h
theorem zIj{expr:Bool}{Q:Value→Shared→Prop}(F:Fr h₀ L s.heap m)(X:(kW w.params).In h₀)(N:News h₀ L s.heap news)(ha:(a,accO d vs n)∈news)(hd:(d,zGb w.params k tk)∈news)(hk:handedIn k=true)(h:Q k {s with toks:=s.toks+1}):wpAny (model prog w) A (getAttr (.ref a) "_initial_size" expr) Q E s:=
 zV2 (X.keeps F.keep) (zAh N ha hd) (findObj_own (by kernel_rfl) (zUc _) rfl rfl) hk h
theorem zMc{Q:Unit→Shared→Prop}(F:Fr h₀ L s.heap m)(X:(kW w.params).In h₀)(N:News h₀ L s.heap news)(ha:(a,accO d vs n)∈news)(U:UpdF d emptyDict news g)(h:∀h' tk,Fr h₀ L h' m→News h₀ L h' (g (zGb w.params k tk))→Q () {s with heap:=h',toks:=s.toks+2}):wpAny (model prog w) A (setAttr (.ref a) "_initial_size" k) Q E s:=
 zNz (es:=[]) (k:=0) F X N (zAh N ha (zA2 U)) rfl U rfl (le_of_ble_eq_true rfl) rfl fun h' F' N'=>h h' _ F' N'
theorem zO0{k':Value}{Q:Unit→Shared→Prop}(F:Fr h₀ L s.heap m)(X:(kW w.params).In h₀)(N:News h₀ L s.heap news)(ha:(a,accO d vs n)∈news)(U:UpdF d (zGb w.params k tk) news g)(h:∀h',Fr h₀ L h' m→News h₀ L h' (g (zGb w.params k' tk))→Q () {s with heap:=h',toks:=s.toks+2}):wpAny (model prog w) A (setAttr (.ref a) "_initial_size" k') Q E s:=
 zNz F X N (zAh N ha (zA2 U)) rfl U rfl (le_of_ble_eq_true rfl) rfl fun h' F' N'=>h h' F' N'
theorem zIh{x:Value}{Q:Value→Shared→Prop}(F:Fr h₀ L s.heap m)(X:(kW w.params).In h₀)(N:News h₀ L s.heap news)(U:UpdF a (accO d vs n) news g)(hd:(d,zGb w.params k tk)∈news)(hz:vs.length≤100000)(h:∀h' n',Fr h₀ L h' m→News h₀ L h' (g (accO d (vs++[x]) n'))→Q .none {s with heap:=h'}):wpAny (model prog w) A (call (.builtin "list.append") [.ref a,x]) Q E s:=zM8 F X N U hd hz h
theorem opq{M:Model}{P:Params}{h:Heap}(X:(kW P).In h):Looks M h (opaqueClassAbove (.ref 262)) none:=looks_opaque X (yAc P)
theorem zNy(X:(kW w.params).In s.heap)(I:InstAt s.heap a (accO d vs n) 262 (some od)):a≠262:=by
 obtain ⟨cd,hc,_⟩:=zPe w.params
 exact ks_ne X I hc
theorem zR9{pl:Sem Bool}{Q:Value×List Value→Shared→Prop}(F:Fr h₀ L s.heap m)(X:(kW w.params).In h₀)(N:News h₀ L s.heap news)(hso:(so,zX7 a)∈news)(ha:(a,accO d vs n)∈news)(hd:(d,zGb w.params k tk)∈news)(h:∀q h',Fr h₀ L h' m→News h₀ L h' ((q,zKy "builtin_function_or_method" "list.pop" a)::news)→(∀p∈news,p.1<q)→Q (.ref q,[]) {s with heap:=h',toks:=s.toks+1}):wpAny (model prog w) A (getMethod (.ref so) "pop" pl) Q E s:=by
 have X':=X.keeps F.keep
 have I:=zAh N ha hd
 have e:=zNy X' I
 have hs:=(N _ hso).1
 have z:=h s.heap.objs.size _ (F.push (zKy "builtin_function_or_method" "list.pop" a)) (N.push F (zKy "builtin_function_or_method" "list.pop" a)) (fun p hp=>Heap.lt_size (N p hp).1)
 obtain ⟨hp,gg,dd,t,os⟩:=s
 exact zIb hs X' (opq X') (zO2 _) (by decide) e (by show builtinType _=_;rw [builtinType_eq_fast];kernel_rfl) Mine.F.slot_md_get.lookup (fun hq=>zWw X' I hq) z
theorem zR8{pl:Sem Bool}{Q:Value×List Value→Shared→Prop}(F:Fr h₀ L s.heap m)(X:(kW w.params).In h₀)(N:News h₀ L s.heap news)(hso:(so,zX7 a)∈news)(ha:(a,accO d vs n)∈news)(hd:(d,zGb w.params k tk)∈news)(h:∀q h',Fr h₀ L h' m→News h₀ L h' ((q,zKy "method-wrapper" "list.__len__" a)::news)→(∀p∈news,p.1<q)→Q (.ref q,[]) {s with heap:=h',toks:=s.toks+1}):wpAny (model prog w) A (getMethod (.ref so) "__len__" pl) Q E s:=by
 have X':=X.keeps F.keep
 have I:=zAh N ha hd
 have e:=zNy X' I
 have hs:=(N _ hso).1
 have z:=h s.heap.objs.size _ (F.push (zKy "method-wrapper" "list.__len__" a)) (N.push F (zKy "method-wrapper" "list.__len__" a)) (fun p hp=>Heap.lt_size (N p hp).1)
 obtain ⟨hp,gg,dd,t,os⟩:=s
 exact zIb hs X' (opq X') (zO1 _) (by decide) e (by show builtinType _=_;rw [builtinType_eq_fast];kernel_rfl) Mine.F.slot_wd_get.lookup (fun hq=>zW7 X' I hq) z
theorem zNj{pl:Sem Bool}{Q:Value×List Value→Shared→Prop}(F:Fr h₀ L s.heap m)(X:(kW w.params).In h₀)(N:News h₀ L s.heap news)(hso:(so,zX7 a)∈news)(ha:(a,accO d vs n)∈news)(hd:(d,zGb w.params k tk)∈news)(h:∀q h',Fr h₀ L h' m→News h₀ L h' ((q,zKy "method-wrapper" "list.__init__" a)::news)→(∀p∈news,p.1<q)→Q (.ref q,[]) {s with heap:=h',toks:=s.toks+1}):wpAny (model prog w) A (getMethod (.ref so) "__init__" pl) Q E s:=by
 have X':=X.keeps F.keep
 have I:=zAh N ha hd
 have e:=zNy X' I
 have hs:=(N _ hso).1
 have z:=h s.heap.objs.size _ (F.push (zKy "method-wrapper" "list.__init__" a)) (N.push F (zKy "method-wrapper" "list.__init__" a)) (fun p hp=>Heap.lt_size (N p hp).1)
 obtain ⟨hp,gg,dd,t,os⟩:=s
 exact zIb hs X' (opq X') (zMe _) (by decide) e (by show builtinType _=_;rw [builtinType_eq_fast];kernel_rfl) Mine.F.slot_wd_get.lookup (fun hq=>zSn X' I hq) z
theorem zOb{x:Value}{Q:Value→Shared→Prop}(F:Fr h₀ L s.heap m)(X:(kW w.params).In h₀)(N:News h₀ L s.heap news)(hb:(q,zKy "builtin_function_or_method" "list.pop" a)∈news)(U:UpdF a (accO d (vs++[x]) n) news g)(hd:(d,zGb w.params k tk)∈news)(hz:vs.length≤100000)(h:∀h' n',Fr h₀ L h' m→News h₀ L h' (g (accO d vs n'))→Q x {s with heap:=h'}):wpAny (model prog w) A (call (.ref q) []) Q E s:=by
 have X':=X.keeps F.keep
 have I:=zAh N (zA2 U) hd
 have e:(fun xs:Array Value=>xs.eraseIdxIfInBounds ((vs++[x]).toArray.size-1)) (vs++[x]).toArray=vs.toArray:=by
  have e2:∀l:List Value,(l++[x]).eraseIdx l.length=l:=fun l=>by induction l with|nil=>rfl|cons _ _ ih=>exact congrArg (_ :: ·) ih
  simp [Array.eraseIdxIfInBounds,e2]
 obtain ⟨F',N'⟩:=zHa (f:=fun xs:Array Value=>xs.eraseIdxIfInBounds ((vs++[x]).toArray.size-1)) F N U e
 exact zEc (N _ hb).1 (.inl rfl) (by decide +kernel) PySem.F.entry_list_pop (zVd X' I) (yCf (vs++[x]).toArray x (by simp) (by rw [size_toArray,sizeLine_eq];simp;(exact le_trans (by assumption) (le_of_ble_eq_true rfl)))) ⟨(N _ (zA2 U)).1,h _ _ F' N'⟩
theorem zOa{Q:Value→Shared→Prop}(F:Fr h₀ L s.heap m)(N:News h₀ L s.heap news)(hb:(q,zKy "method-wrapper" "list.__len__" a)∈news)(ha:(a,accO d vs n)∈news)(hz:vs.length≤100000)(h:∀t,Q (.int vs.length t) {s with toks:=s.toks+1}):wpAny (model prog w) A (call (.ref q) []) Q E s:=by
 exact zEc (N _ hb).1 (.inr rfl) (by decide +kernel) (entryFor_of_tree (by kernel_rfl)) (Looks.of_pure (zVc a)) (yCe vs.toArray (by rw [size_toArray,sizeLine_eq];(exact le_trans (by assumption) (le_of_ble_eq_true rfl)))) ⟨(N _ ha).1,by rw [size_toArray];exact h _⟩
theorem zMh{Q:Value→Shared→Prop}(F:Fr h₀ L s.heap m)(N:News h₀ L s.heap news)(hb:(q,zKy "method-wrapper" "list.__init__" a)∈news)(U:UpdF a (accO d [] n) news g)(h:∀h' n',Fr h₀ L h' m→News h₀ L h' (g (accO d [] n'))→Q .none {s with heap:=h'}):wpAny (model prog w) A (call (.ref q) []) Q E s:=by
 obtain ⟨F',N'⟩:=zHa (f:=fun _=>#[]) (vs':=[]) F N U rfl
 exact zEc (N _ hb).1 (.inr rfl) (by decide +kernel) (entryFor_of_tree (by kernel_rfl)) (Looks.of_pure (zS6 a)) yA2 ⟨(N _ (zA2 U)).1,h _ _ F' N'⟩
end
section
variable {w:World}{dp un:Nat}{cn:Str}{cs:Scope}{L a:Addr}{ccd:Value}{cl:List (Str×Addr)}{outer:List Env}{A₀:Around}{base h₀:Heap}{m mg mb:Str→Option Value}{news:List (Addr×Obj)}{s:Shared}{p:Program}{loose:List Str}{mean:ExcName→Option Value}{R:Result→Shared→Prop}{f:Addr}{st:Stmt}{name qual:Str}{dV kV pm cdv ct:Value}{params:Arguments}{body:List Stmt}{scope:Scope}{args:Args}{binds:List (Str×Value)}{cc:Addr}
theorem enterS(B:Below A₀ base outer h₀)(F:Fr h₀ L s.heap m)(X:(kW w.params).In h₀)(N:News h₀ L s.heap news)(T:Top p loose mean mg mb h₀)(hke:cs.kind = .function)(hdp:dp<500)(hK:(kW w.params).lookup f=some ⟨.type "function",none,.func (fnD st name qual [(.ofString "__class__",cc)] dV kV pm cdv ct),#[]⟩)(hpm:zGe st=params)(hbd:zAf st=body)(hsc:zAl st=scope)(hcd:codeIn (kW w.params) cdv qual=true)(hbind:BindsTo s (fnX name qual params body scope [(.ofString "__class__",cc)] dV kV .none pm none cdv ct) args binds)(hloc:(binds.all fun x=>decide (scope.names.lookup x.1=some .local))=true)(hcell:∀x∈scope.names,x.2≠.cell)(hco:scope.isCoroutine=false)(hgen:scope.isGenerator=false)(hk:scope.kind = .function)(h:∀g L' h₁,Fr h₀ L g m→Fr g L' h₁ (fun y=>binds.reverse.lookup y)→News g L' h₁ news→Below (zUu dp un cn cs L a ccd cl outer) base (envX cn cs L a ccd cl::outer) g→(kW w.params).In g→Top p loose mean mg mb g→(∀p∈news,p.1<L')→
   _root_.PySem.wpAt (model pw w) (zUu (dp+1) (un+3) qual scope L' f cdv [(.ofString "__class__",cc)] (envX cn cs L a ccd cl::outer)) (.func body (envX qual scope L' f cdv [(.ofString "__class__",cc)])) (execs body (envX qual scope L' f cdv [(.ofString "__class__",cc)]))
    (fun fl s'=>LeaveK h₀ L m g R (match fl with | .ret v=>v|_=>.none) s') (fun _ _=>False)
    {s with heap:=h₁,toks:=s.toks+binds.length}):codeAny (model pw w) (zUu dp un cn cs L a ccd cl outer) (.call (.ref f) args) R s:=by
 subst hpm hbd hsc
 exact ks_code_super (env:=envX cn cs L a ccd cl) B F X N T rfl rfl hke hK hcd (lt_trans hdp (by decide)) hbind (locs hloc) (fun g L' h₁ FG F' N' B' X' T' l=>PySem.ks_wpAt_mono (h g L' h₁ FG F' N' B' X' T' l) (fun _ _ q=>q) fun _ _ q=>q.elim) hcell hco hgen hk
end
section
variable {prog:Program}{w:World}{A:Around}{E:Value→Shared→Prop}{s:Shared}{h₀ h:Heap}{L a d sl l:Addr}{m:Str→Option Value}{news:List (Addr×Obj)}{g:Obj→List (Addr×Obj)}{vs us:List Value}{n n2:Nat}{od:Obj}{k v:Value}{tk:Tok}
theorem yAd(P:Params)(S:Setting):peek (kW P) S (seqItemTypes.anyM fun n=>isSubtype (.ref 262) (.type n))=some false:=by kernel_rfl
theorem zEb{M:Model}{P:Params}{ox:Obj}{od:Option Obj}{kv:Value}{name:Str}{Q:Value→Shared→Prop}(X:(kW P).In s.heap)(I:InstAt s.heap a ox 262 od)(h:Q kv s):wpAny M A (sequenceKey (.ref a) kv name) Q E s:=by
 unfold sequenceKey
 refine wpAny_bind (I.type.here ?_)
 dsimp only
 have L1:Looks M s.heap (seqItemTypes.anyM fun n=>isSubtype (.ref 262) (.type n)) false:=Looks.of_peek X (yAd _ _)
 refine wpAny_bind (L1.here ?_)
 rw [if_pos (by decide)]
 exact wpAny_pure h
theorem zDj{ox:Obj}{name:Str}{id:String}{args:List Value}{Q:Option Value→Shared→Prop}(X:(kW w.params).In s.heap)(I:InstAt s.heap a ox 262 (some od))(slot:Slot "list" name id)(hs:findIn (kW w.params) (.ref 262) name=some (some (.builtin id)))(h:wpAny (model prog w) A (call (.builtin id) (.ref a::args)) (fun v=>Q (some v)) E s):wpAny (model prog w) A (callSpecial? (.ref a) name args) Q E s:=by
 refine wpAny_bind (wpAny_bind (I.type.here ((looks_findIn X hs).here (wpAny_holding ?_))))
 rw [slot.bind (.ref a)]
 exact wpAny_bind (wpAny_pure (wpAny_bind (wpAny_mono h (fun _ _ z=>wpAny_pure z) fun _ _ z=>z)))
theorem yBm(P:Params):findIn (kW P) (.ref 262) "__getitem__" = some (some (.builtin "list.__getitem__")):=by kernel_rfl
theorem yDp(P:Params):findIn (kW P) (.ref 262) "__setitem__" = some (some (.builtin "list.__setitem__")):=by kernel_rfl
theorem zIi{vl vu:Value}{lo hi:Option Int}{Q:Value→Shared→Prop}(X:(kW w.params).In s.heap)(I:InstAt s.heap a (accO d vs n) 262 (some od))(hs:s.heap.IsSliceOf sl vl vu .none)(pl:IsPart vl lo)(pu:IsPart vu hi)(h:Q (.ref s.heap.objs.size) {s with heap:=s.heap.push {cls:=.type "list",data:=.seq (slicePick vs.toArray lo hi none)}})(hsz:vs.length≤100000):wpAny (model prog w) A (getItem (.ref a) (.ref sl)) Q E s:=by
 obtain ⟨os,hos,hcs,hds⟩:=id hs
 have hTs:s.TypeIs (.ref sl) "slice" := ⟨os,hos,hcs⟩
 have ho:=I.at_
 have hd:(accO d vs n).data = .seq vs.toArray n:=rfl
 unfold getItem
 try with_reducible refine wpAny_holding ?_
 first|refine wpAny_bind (wpAny_pure ?_)|skip
 refine wpAny_bind (zEb X I ?_)
 refine wpAny_bind (zDj X I slot_list_getitem (yBm _)
  (wpAny_call (codeAny_call_builtin slot_list_getitem.plain entry_list_getitem (@zEd (model prog w) _ _ s "list.__getitem__" "list" "__getitem__" (.ref a) [.ref sl] _ (by decide +kernel) (by decide +kernel) (zB2 X I) (args_list_getitem (.ref a) (.ref sl)) ?_))))
 show wpAny _ _ (Builtin.List.listSubscript? (.ref sl) >>= _) _ _ s
 refine wpAny_bind ?_
 ·unfold Builtin.List.listSubscript?
  refine wpAny_bind (wpAny_specialOf hTs slice_no_index ?_)
  rw [if_pos (by decide)]
  refine wpAny_pure ?_
  show wpAny _ _ (typeOf (.ref sl) >>= _) _ _ s
  refine wpAny_bind (wpAny_typeOf hTs ?_)
  rw [if_neg (by decide)]
  rw [listSliceParts_eq]
  have hstep:¬((rawPart none==rawInt 0)=true):=Bool.false_ne_true
  refine wpAny_bind (wpAny_bind (wpAny_field hos hds (x:=.none) rfl (wpAny_bind (wpAny_listPart .none ?_))))
  rw [if_neg hstep]
  refine wpAny_bind (wpAny_field hos hds (x:=vl) rfl (wpAny_bind (wpAny_listPart pl ?_)))
  refine wpAny_bind (wpAny_field hos hds (x:=vu) rfl (wpAny_bind (wpAny_listPart pu (wpAny_pure ?_))))
  refine wpAny_bind (m:=Builtin.List.listItems (.ref a)) ?_
  ·unfold Builtin.List.listItems
   refine wpAny_bind (wpAny_seqItems ho hd (wpAny_pure ?_))
   refine wpAny_bind (wpAny_of_eq (sliceIndices_raw lo hi none vs.toArray.size (by simp)) ?_)
   refine wpAny_bind (wpAny_newObj_type (wpAny_pure ?_) (le_trans (slicePick_size_le vs.toArray lo hi none) (by rw [size_toArray,sizeLine_eq];(exact le_trans (by assumption) (le_of_ble_eq_true rfl)))))
   exact wpAny_pure h
theorem zM9{i:Int}{u:Tok}{x:Value}{Q:Value→Shared→Prop}(X:(kW w.params).In s.heap)(I:InstAt s.heap a (accO d vs n) 262 (some od))(h0:0≤i)(hfit:i<2 ^ 63)(hx:vs[i.toNat]? = some x)(h:Q x s):wpAny (model prog w) A (getItem (.ref a) (.int i u)) Q E s:=by
 have ho:=I.at_
 have hd:(accO d vs n).data = .seq vs.toArray n:=rfl
 unfold getItem
 try with_reducible refine wpAny_holding ?_
 first|refine wpAny_bind (wpAny_pure ?_)|skip
 refine wpAny_bind (zEb X I ?_)
 refine wpAny_bind (zDj X I slot_list_getitem (yBm _)
  (wpAny_call (codeAny_call_builtin slot_list_getitem.plain entry_list_getitem (@zEd (model prog w) _ _ s "list.__getitem__" "list" "__getitem__" (.ref a) [.int i u] _ (by decide +kernel) (by decide +kernel) (zB2 X I) (args_list_getitem (.ref a) (.int i u)) ?_))))
 show wpAny _ _ (Builtin.List.listSubscript? (.int i u) >>= _) _ _ s
 refine wpAny_bind (wpAny_listSubscript_int (fitsIndex_of h0 hfit) ?_)
 clear hfit
 obtain ⟨j,rfl⟩:=Int.eq_ofNat_of_zero_le h0
 have hx':vs.toArray[j]? = some x:=by simpa using hx
 show wpAny _ _ ((seqItemAt a j >>= fun r=>pure (r.map (j,·))) >>= _) _ _ s
 refine wpAny_bind (wpAny_bind (wpAny_seqItemAt ho hd (wpAny_pure ?_)))
 rw [hx']
 first
  |exact wpAny_bind (wpAny_pure (wpAny_pure h))
  |exact wpAny_pure h
  |exact wpAny_pure (wpAny_pure h)
theorem zIl{vl:Value}{lo:Option Int}{Q:Unit→Shared→Prop}(F:Fr h₀ L s.heap m)(X:(kW w.params).In h₀)(N:News h₀ L s.heap news)(U:UpdF a (accO d vs n) news g)(hd:(d,zGb w.params k tk)∈news)(hs:s.heap.IsSliceOf sl vl .none .none)(pl:IsPart vl lo)(hl:(l,listOf us.toArray n2)∈news)(hne:a≠l)(hsz:vs.length≤50000)(hsu:us.length≤50000)(h:∀h' n',Fr h₀ L h' m→News h₀ L h' (g (accO d (vs.take (kms_lo lo vs.length)++us) n'))→Q () {s with heap:=h'}):wpAny (model prog w) A (setItem (.ref a) (.ref sl) (.ref l)) Q E s:=by
 have X':=X.keeps F.keep
 have I:=zAh N (zA2 U) hd
 obtain ⟨os,hos,hcs,hds⟩:=id hs
 have hTs:s.TypeIs (.ref sl) "slice" := ⟨os,hos,hcs⟩
 have ho:=I.at_
 have hd':(accO d vs n).data = .seq vs.toArray n:=rfl
 have hol:=(N _ hl).1
 have hTl:s.TypeIs (.ref l) "list" := ⟨_,hol,rfl⟩
 have hlo:kms_lo lo vs.length≤vs.length:=by unfold kms_lo;split<;>(try split)<;>lia
 have e:(fun xs:Array Value=>xs.extract 0 (kms_lo lo vs.length)++us.toArray++xs.extract vs.length xs.size) vs.toArray=(vs.take (kms_lo lo vs.length)++us).toArray:=by
  apply Array.toList_inj.mp
  simp
 obtain ⟨F',N'⟩:=zHa (f:=fun xs:Array Value=>xs.extract 0 (kms_lo lo vs.length)++us.toArray++xs.extract vs.length xs.size) (vs':=vs.take (kms_lo lo vs.length)++us) F N U e
 unfold setItem
 try with_reducible refine wpAny_holding ?_
 first|refine wpAny_bind (wpAny_pure ?_)|skip
 refine wpAny_bind (zEb X' I ?_)
 refine wpAny_bind (zDj X' I slot_list_setitem (yDp _)
  (wpAny_call (codeAny_call_builtin slot_list_setitem.plain entry_list_setitem (@check_slot (model prog w) _ _ s "list.__setitem__" "list" "__setitem__" (.ref a) [.ref sl,.ref l] [] _ (by decide +kernel) (by decide +kernel) (zB2 X' I) (args_list_setitem (.ref a) (.ref sl) (.ref l)) ?_))))
 show wpAny _ _ (Builtin.List.listSubscript? (.ref sl) >>= _) _ _ s
 refine wpAny_bind ?_
 unfold Builtin.List.listSubscript?
 refine wpAny_bind (wpAny_specialOf hTs slice_no_index ?_)
 rw [if_pos (by decide)]
 refine wpAny_pure ?_
 show wpAny _ _ (typeOf (.ref sl) >>= _) _ _ s
 refine wpAny_bind (wpAny_typeOf hTs ?_)
 rw [if_neg (by decide)]
 rw [listSliceParts_eq]
 have hstep:¬((rawPart none==rawInt 0)=true):=Bool.false_ne_true
 refine wpAny_bind (wpAny_bind (wpAny_field hos hds (x:=.none) rfl (wpAny_bind (wpAny_listPart .none ?_))))
 rw [if_neg hstep]
 refine wpAny_bind (wpAny_field hos hds (x:=vl) rfl (wpAny_bind (wpAny_listPart pl ?_)))
 refine wpAny_bind (wpAny_field hos hds (x:=.none) rfl (wpAny_bind (wpAny_listPart .none (wpAny_pure ?_))))
 have hsame:Builtin.List.listSameRef (.ref a) (.ref l)=false:=by simp [Builtin.List.listSameRef,hne]
 simp -iota only [hsame,false_eq_true,if_false]
 unfold Builtin.List.listAllItems Builtin.List.listItems
 refine wpAny_bind (wpAny_bind (wpAny_typeOf hTl ?_))
 rw [if_pos (by decide)]
 refine wpAny_bind (wpAny_seqItems hol rfl (wpAny_pure ?_))
 refine wpAny_bind (wpAny_bind (wpAny_seqItems ho hd' (wpAny_pure ?_)))
 refine wpAny_bind (wpAny_of_eq (sliceIndices_raw lo none none vs.toArray.size (by simp)) ?_)
 rw [kms_bounds]
 dsimp only
 rw [if_pos (by decide)]
 refine wpAny_bind (wpAny_rule ?_)
 have hs2:vs.toArray.size=vs.length:=size_toArray ..
 have hu2:us.toArray.size=us.length:=size_toArray ..
 have e1:((kms_lo lo vs.toArray.size:Nat):Int).toNat=kms_lo lo vs.length:=by rw [hs2];exact toNat_natCast _
 have e2:(max ((kms_lo lo vs.toArray.size:Nat):Int) ((kms_hi none vs.toArray.size:Nat):Int)).toNat=vs.length:=by
  have e3:kms_hi none vs.toArray.size=vs.length:=by rw [hs2];rfl
  rw [e3,hs2]
  lia
 have e4:¬(Builtin.List.listTooLong (vs.toArray.size+us.toArray.size)=true):=by
  rw [Builtin.List.listTooLong,decide_eq_true_eq,hs2,hu2,sizeLine_eq]
  lia
 rw [if_neg e4]
 rw [e1,e2]
 have hz':((fun xs:Array Value=>xs.extract 0 (kms_lo lo vs.length)++us.toArray++xs.extract vs.length xs.size) vs.toArray).size≤sizeLine+1:=by
  rw [e,size_toArray,length_append,length_take,sizeLine_eq]
  lia
 refine wpAny_bind (wpAny_updateSeq ho hd' ?_ (by rw [hs2,sizeLine_eq];(exact le_trans (by assumption) (le_of_ble_eq_true rfl))) hz')
 refine wpAny_bind (wpAny_letGo ?_)
 exact wpAny_pure (wpAny_pure (h _ _ F' N'))
theorem zEo{M:Model}{P:Params}{ox:Obj}{od:Option Obj}{Q:Bool→Shared→Prop}(X:(kW P).In s.heap)(I:InstAt s.heap a ox 262 od)(h:Q false s):wpAny M A (getitemInPython (.ref a)) Q E s:=by
 unfold getitemInPython
 refine wpAny_bind (wpAny_bind (I.type.here ((looks_findIn X (yBm _)).here ?_)))
 exact wpAny_pure h
theorem zH9{value slice:Expr}{vl vu:Value}{lo hi:Option Int}{Q:Value→Shared→Prop}(F:Fr h₀ L s.heap m)(X:(kW w.params).In h₀)(N:News h₀ L s.heap news)(ha:(a,accO d vs n)∈news)(hd:(d,zGb w.params k tk)∈news)(pl:IsPart vl lo)(pu:IsPart vu hi)(hsz:vs.length≤100000)(h:∀D h',Fr h₀ L h' m→News h₀ L h' ((D,listOf (kms_pick vs lo hi).toArray 0)::news)→(∀p∈news,p.1<D)→Q (.ref D) {s with heap:=h'})(hs:subscripted slice false (.ref a) (.ref s.heap.objs.size)=operate [.ref s.heap.objs.size,.ref a] (getItem (.ref a) (.ref s.heap.objs.size)))(ht:∀r,letTemporaryGo value (.ref a) r=pure ()):
  wpAny (model prog w) A (subscriptTail value slice (.ref a) (.ref s.heap.objs.size)) Q E {s with heap:=s.heap.push {cls:=.type "slice",data:=.fields #[vl,vu,.none]}}:=by
 have F1:=F.push {cls:=.type "slice",data:=.fields #[vl,vu,.none]}
 have N1:=N.push F {cls:=.type "slice",data:=.fields #[vl,vu,.none]}
 have I:=zAh (s:={s with heap:=s.heap.push {cls:=.type "slice",data:=.fields #[vl,vu,.none]}}) (N1) (List.mem_cons_of_mem _ ha) (List.mem_cons_of_mem _ hd)
 have X1:=X.keeps F1.keep
 unfold subscriptTail
 refine wpAny_bind (zEo (s:={s with heap:=s.heap.push {cls:=.type "slice",data:=.fields #[vl,vu,.none]}}) X1 I ?_)
 rw [hs]
 refine wpAny_bind (wpAny_operating (zIi X1 I (Heap.IsSliceOf.new ..) pl pu ?_ hsz))
 refine wpAny_bind (wpAny_of_eq (ht _) (wpAny_pure ?_))
 have e:slicePick vs.toArray lo hi none=(kms_pick vs lo hi).toArray:=kms_pick_eq _ _ _
 rw [e]
 exact h _ _ (F1.push _) (fun p hp=>(N1.push F1 {cls:=.type "list",data:=.seq (kms_pick vs lo hi).toArray}) p (by
  rcases mem_cons.mp hp with rfl|hp
  ·exact .head _
  ·exact .tail _ (.tail _ hp))) (fun p hp=>by have:=Heap.lt_size (N1 p (.tail _ hp)).1;exact this)
theorem zIk{value slice:Expr}{i:Int}{u:Tok}{Q:Value→Shared→Prop}(F:Fr h₀ L s.heap m)(X:(kW w.params).In h₀)(N:News h₀ L s.heap news)(ha:(a,accO d vs n)∈news)(hd:(d,zGb w.params k tk)∈news)(h0:0≤i)(h1:i<(vs.length:Int))(hsz:vs.length≤100000)(h:∀v,vs[i.toNat]? = some v→Q v s)(hs:autoParam (subscripted slice false (.ref a) (.int i u)=operate [.ref a,.int i u] (getItem (.ref a) (.int i u))) T0W)(ht:autoParam (∀r,letTemporaryGo value (.ref a) r=pure ()) zXz):
  wpAny (model prog w) A (subscriptTail value slice (.ref a) (.int i u)) Q E s:=by
 have I:=zAh N ha hd
 have X1:=X.keeps F.keep
 have hk:i.toNat<vs.length:=by lia
 unfold subscriptTail
 refine wpAny_bind (zEo X1 I ?_)
 rw [hs]
 refine wpAny_bind (wpAny_operating (zM9 X1 I h0 (by lia) (getElem?_eq_getElem hk) ?_))
 exact wpAny_bind (wpAny_of_eq (ht _) (wpAny_pure (h _ (getElem?_eq_getElem hk))))
theorem zK1{vl:Value}{lo:Option Int}{Q:Unit→Shared→Prop}(F:Fr h₀ L s.heap m)(X:(kW w.params).In h₀)(N:News h₀ L s.heap news)(U:UpdF a (accO d vs n) news g)(hd:(d,zGb w.params k tk)∈news)(pl:IsPart vl lo)(hl:(l,listOf us.toArray n2)∈news)(hne:a≠l)(hsz:vs.length≤50000)(hsu:us.length≤50000)(h:∀h' n',Fr h₀ L h' m→News h₀ L h' (g (accO d (vs.take (kms_lo lo vs.length)++us) n'))→Q () {s with heap:=h'}):
  wpAny (model prog w) A (setItem (.ref a) (.ref s.heap.objs.size) (.ref l)) Q E {s with heap:=s.heap.push {cls:=.type "slice",data:=.fields #[vl,.none,.none]}}:=by
 have F1:=F.push {cls:=.type "slice",data:=.fields #[vl,.none,.none]}
 have N1:News h₀ L (s.heap.push {cls:=.type "slice",data:=.fields #[vl,.none,.none]}) news:=fun p hp=>(N.push F {cls:=.type "slice",data:=.fields #[vl,.none,.none]}) p (.tail _ hp)
 exact zIl (s:={s with heap:=s.heap.push {cls:=.type "slice",data:=.fields #[vl,.none,.none]}}) F1 X N1 U hd (Heap.IsSliceOf.new ..) pl hl hne hsz hsu h
end
theorem zOo{M:Model}{A:Around}{E:Value→Shared→Prop}{s:Shared}{h₀:Heap}{L q a:Addr}{news:List (Addr×Obj)}{cls id:String}{env:Env}{pos:Pos}{first:List Value}{Q:Value→Shared→Prop}(N:News h₀ L s.heap news)(hb:(q,zKy cls id a)∈news)(hcls:cls="builtin_function_or_method"∨cls="method-wrapper")(h:wpAny M A (call (.ref q) (first++[])) Q E s):wpAny M A (callWith pos (.ref q) first (backTo pos (starEach [] env)) []) Q E s:=by
 have hk:Looks M s.heap (keeperOf (.ref q)) .machine:=by
  refine (Looks.ld (part:=none) (N _ hb).1).andThen ?_
  rcases hcls with rfl|rfl<;>exact .now
 exact callWith_of (P:=fun h=>h=s.heap) rfl (fun h e=>⟨_,.inr (.inl rfl),e▸hk⟩) (evalArgs_nil3 ⟨rfl,h⟩)
def SeqAt(h:Heap)(l:Addr)(items:Array Value):Prop:=∃o n,h.get? l=some o∧o.data = .seq items n
theorem SeqAt.at{h h':Heap}{l:Addr}{items:Array Value}(x:SeqAt h l items)(k:∀o,h.get? l=some o→h'.get? l=some o):SeqAt h' l items:=let ⟨o,n,a,b⟩:=x;⟨o,n,k _ a,b⟩
section
variable {prog:Program}{w:World}{A:Around}{E:Value→Shared→Prop}{s:Shared}{h₀:Heap}{L a d:Addr}{m:Str→Option Value}{news:List (Addr×Obj)}{vs:List Value}{n:Nat}{od:Obj}
theorem zTf{it l:Addr}{i:Nat}{items:Array Value}{x:Value}{Q:Option Value→Shared→Prop}(hit:s.heap.IsListIter it l i)(hl:SeqAt s.heap l items)(hx:items[i]? = some x)(hQ:∀h',h'.IsListIter it l (i+1)→Heap.SameBut it s.heap h'→Q (some x) {s with heap:=h'}):
  wpAny (model prog w) A (pyNext (.ref it)) Q E s:=by
 obtain ⟨o,ho,hc,hd⟩:=id hit
 obtain ⟨ol,nl,hol,hdl⟩:=hl
 unfold pyNext
 refine wpAny_bind (wpAny_attempt (wpAny_callSpecial?_slot (name:=Str.ofString "__next__") hit.typeIs slot_listiter_next
  (wpAny_call_entry slot_listiter_next hit.typeIs entry_listiter_next ?_ (args_listiter_next _))))
 show wpAny _ _ (field (.ref it) 0 >>= _) _ _ s
 refine wpAny_bind (wpAny_field ho hd (x:=.ref l) rfl ?_)
 show wpAny _ _ (if (Value.ref l==Value.none)=true then _ else _) _ _ s
 rw [if_neg (show ¬((Value.ref l==Value.none)=true) from Bool.false_ne_true)]
 show wpAny _ _ (field (.ref it) 1 >>= _) _ _ s
 refine wpAny_bind (wpAny_field ho hd (x:=.int i 0) rfl ?_)
 show wpAny _ _ (seqItems? (.ref l) >>= _) _ _ s
 refine wpAny_bind (wpAny_seqItems hol hdl ?_)
 simp only [toNat_natCast,hx]
 refine wpAny_bind (wpAny_setField ho hd (by simp) (wpAny_pure ⟨x,rfl,wpAny_pure (hQ _ ?_ (Heap.SameBut.update ..))⟩))
 exact ⟨_,Heap.get?_update_self _ ho (Obj.isFreed_of_fields (Obj.data_mapFields hd _)),(Obj.cls_mapFields ..).trans hc,by
  rw [Obj.data_mapFields hd];simp [rawInt]⟩
theorem zX1{it l:Addr}{i:Nat}{items:Array Value}{Q:Option Value→Shared→Prop}(hh:A.handled=none)(hit:s.heap.IsListIter it l i)(hl:SeqAt s.heap l items)(hx:items[i]? = none)(hQ:∀h',Heap.ExtBut it s.heap h'→Q none {s with heap:=h'}):wpAny (model prog w) A (pyNext (.ref it)) Q E s:=by
 obtain ⟨o,ho,hc,hd⟩:=id hit
 obtain ⟨ol,nl,hol,hdl⟩:=hl
 unfold pyNext
 refine wpAny_bind (wpAny_attempt (wpAny_callSpecial?_slot (name:=Str.ofString "__next__") hit.typeIs slot_listiter_next
  (wpAny_call_entry slot_listiter_next hit.typeIs entry_listiter_next ?_ (args_listiter_next _))))
 show wpAny _ _ (field (.ref it) 0 >>= _) _ _ s
 refine wpAny_bind (wpAny_field ho hd (x:=.ref l) rfl ?_)
 show wpAny _ _ (if (Value.ref l==Value.none)=true then _ else _) _ _ s
 rw [if_neg (show ¬((Value.ref l==Value.none)=true) from Bool.false_ne_true)]
 show wpAny _ _ (field (.ref it) 1 >>= _) _ _ s
 refine wpAny_bind (wpAny_field ho hd (x:=.int i 0) rfl ?_)
 show wpAny _ _ (seqItems? (.ref l) >>= _) _ _ s
 refine wpAny_bind (wpAny_seqItems hol hdl ?_)
 simp only [toNat_natCast,hx]
 refine wpAny_bind (wpAny_rule (wpAny_bind (wpAny_setField ho hd (by simp) ?_)))
 show wpAny _ _ (newExc (.type "StopIteration") [] >>= _) _ _ _
 refine wpAny_bind ?_
 rw [newExc,newTuple]
 refine wpAny_bind (wpAny_newObj_type ?_ (by size_fits))
 refine wpAny_bind (m:=firstArgMember _ _) (wpAny_of_eq (a:=Value.none) (by first|rfl|(rw [firstArgMember];rfl)) ?_)
 refine wpAny_newObj_type ?_ (by size_fits)
 rw [raiseNew]
 refine wpAny_bind (wpAny_handled ?_)
 rw [show A.in1.handled=none from hh]
 refine wpAny_bind (wpAny_pure (wpAny_throw ?_))
 refine wpAny_bind (wpAny_isInstance (T:="StopIteration") (b:=true) ⟨_,Heap.get?_push_size _ rfl,rfl⟩ isSubtype_stop ?_)
 exact wpAny_pure (hQ _ (((Heap.SameBut.update ..).extBut.push _).push _))
theorem zNs(hh:A.handled=none)(I ax:Addr)(hne:ax≠I)(items:Array Value)(Ts:Nat→Addr)(vals:Nat→Array Value)(hit:∀j,j<items.size→items[j]? = some (.ref (Ts j)))(hTI:∀j,j<items.size→Ts j≠I):
  WalksU prog w A I (I::ax::(List.range items.size).map Ts) [I] items.size (fun j v=>j<items.size∧v=vals j)
   (fun j h=>h.IsListIter I ax j∧SeqAt h ax items∧∀k,k<items.size→h.IsTuple (Ts k) (vals k))
   (fun j T h=>(j<items.size∧T=Ts j)∧h.IsListIter I ax (j+1)∧SeqAt h ax items∧∀k,k<items.size→h.IsTuple (Ts k) (vals k)) where
 sub:=fun b hb=>by simp at hb;simp [hb]
 frame:=fun _ _ _ st hk=>⟨st.1.at fun o e=>hk I (by simp) o e,st.2.1.at fun o e=>hk ax (by simp) o e,
  fun k hk'=>(st.2.2 k hk').at fun o e=>hk (Ts k) (List.mem_cons_of_mem _ (List.mem_cons_of_mem _ (mem_map.mpr ⟨k,mem_range.mpr hk',rfl⟩))) o e⟩
 item:=fun i s Q E hi st hQ=>by
  refine zTf st.1 st.2.1 (x:=.ref (Ts i)) (hit i hi) fun h' hit' hs'=>?_
  have tup:∀k,k<items.size→h'.IsTuple (Ts k) (vals k):=fun k hk'=>(st.2.2 k hk').extBut hs'.extBut (hTI k hk')
  exact hQ (Ts i) (vals i) h' s.toks ⟨hi,rfl⟩ (tup i hi) ⟨⟨hi,rfl⟩,hit',st.2.1.at (fun o e=>hs'.extBut _ o hne e),tup⟩ fun b o hb e=>hs'.extBut b o (fun h=>hb (by simp [h])) e
 go:=fun _ _ _ _ _ s Q _ hm hQ=>wpAny_letOwnedTupleGo_listiter hm.2.1 (hQ s.heap hm.2 fun _ _ _ e=>e)
 apart:=fun j T _ hm hmem=>by
  rcases mem_cons.mp hmem with e|e
  ·exact hTI j hm.1.1 (hm.1.2▸e)
  ·cases e
 done:=fun s Q E st hQ=>zX1 hh st.1 st.2.1 (by simp) fun h' he'=>hQ h' s.toks fun b o hb e=>he' b o (fun h=>hb (by simp [h])) e
 self:=fun _ _ _ _ st hQ=>wpAny_pyIter_listiter st.1 hQ
theorem yDa(P:Params):findIn (kW P) (.ref 262) "__iter__" = some (some (.builtin "list.__iter__")):=by kernel_rfl
theorem zNt{ox:Obj}{name:Str}{id:String}{refuse:Sem Value}{Q:Option Value→Shared→Prop}(X:(kW w.params).In s.heap)(I:InstAt s.heap a ox 262 (some od))(slot:Slot "list" name id)(hs:findIn (kW w.params) (.ref 262) name=some (some (.builtin id)))(hc:wpAny (model prog w) A (call (.builtin id) [.ref a]) (fun v=>Q (some v)) E s):wpAny (model prog w) A (callSpecialIfBoundUnlessNone? (.ref a) name refuse) Q E s:=by
 have sp:∀{R:Option Value→Shared→Prop},R (some (.builtin id)) s→wpAny (model prog w) A (specialOf (.ref a) name) R E s:=fun hr=>wpAny_bind (I.type.here ((looks_findIn X hs).here hr))
 simp -iota only [callSpecialIfBoundUnlessNone?,bindSpecialIfBound?]
 refine wpAny_holding (wpAny_bind (wpAny_bind (sp ?_)))
 simp only [slot.bind]
 refine wpAny_bind (wpAny_askSetting (wpAny_ite ?_))
 have fin:wpAny (model prog w) A (if (Value.builtin id==Value.none)=true then (refuse >>= fun v=>pure (some v)) else (call (.builtin id) [.ref a] >>= fun v=>pure (some v))) Q E s:=by
  rw [builtin_beq_none,if_neg Bool.false_ne_true]
  exact wpAny_bind (wpAny_mono hc (fun v s' h'=>wpAny_pure h') fun _ _ h'=>h')
 split
 ·exact wpAny_bind (wpAny_pure (wpAny_pure fin))
 ·exact wpAny_tryCatch (wpAny_bind (wpAny_pure (wpAny_pure fin)))
theorem zMb{Q:Value→Shared→Prop}(X:(kW w.params).In s.heap)(I:InstAt s.heap a (accO d vs n) 262 (some od))(hQ:Q (.ref s.heap.objs.size) {s with heap:=s.heap.push {cls:=.type "list_iterator",data:=.fields #[.ref a,.int 0 0]}}):wpAny (model prog w) A (pyIter (.ref a)) Q E s:=by
 have hcall:wpAny (model prog w) A (call (.builtin "list.__iter__") [.ref a]) (fun it s'=>∃T' r,s'.TypeIs it T'∧typeLookup (.type T') "__next__" = pure (some r)∧Q it s') E s:=by
  refine wpAny_call (codeAny_call_builtin slot_list_iter.plain entry_list_iter (@check_slot (model prog w) _ _ s "list.__iter__" "list" "__iter__" (.ref a) [] [] _ (by decide +kernel) (by decide +kernel) (zB2 X I) (args_list_iter (.ref a)) ?_))
  show wpAny _ _ (do ret (←newFields "list_iterator" [.ref a,rawInt 0])) _ _ s
  exact wpAny_bind (wpAny_newObj_type (wpAny_pure ⟨"list_iterator",_,⟨_,Heap.get?_push_size _ rfl,rfl⟩,slot_listiter_next.lookup,hQ⟩))
 have sp:∀{R:Option Value→Shared→Prop},R (some (.builtin "list.__iter__")) s→wpAny (model prog w) A (specialOf (.ref a) "__iter__") R E s:=fun hr=>wpAny_bind (I.type.here ((looks_findIn X (yDa _)).here hr))
 unfold pyIter
 refine wpAny_bind (sp ?_)
 show wpAny _ A (callSpecialIfBoundUnlessNone? (.ref a) "__iter__" _ >>= _) Q E s
 refine wpAny_bind (zNt X I slot_list_iter (yDa _) (wpAny_mono hcall (fun it s' h'=>?_) fun _ _ x=>x))
 obtain ⟨T',r,hT',hl,hQ'⟩:=h'
 exact wpAny_bind (wpAny_specialOf hT' hl (wpAny_pure hQ'))
def TabOk(pos:Pos)(ps:Array Value):Prop:=ps = #[]∨∃c',ps = #[rawInt pos.line,rawInt pos.col,.ref c']
theorem zMl{M:Model}{env:Env}{c P:Addr}{ps:Array Value}{pos:Pos}{qualname:Str}{scope:Scope}{v:Value}{Q:Value→Shared→Prop}(hc:env.code = .ref c)(hok:s.heap.IsCode c P ps)(hf:codeAmong pos ps.toList=some v)(h:Q v s):
  wpAny M A (genexprCode env pos qualname scope) Q E s:=by
 obtain ⟨o,vs,file,tf,flags,tg,inF,text,tt,op,ho,hd,h11,h2,h7,h9,h10,hop,hpd,htr,hne⟩:=id hok
 unfold genexprCode codeAt
 rw [hc,if_neg (show ¬((Value.ref c==Value.none)=true) from Bool.false_ne_true)]
 refine wpAny_bind (wpAny_fieldsOf ho hd ?_)
 rw [h11]
 refine wpAny_bind (wpAny_fieldsOf hop hpd ?_)
 rw [hf]
 exact wpAny_pure h
theorem tabOk_step{pos:Pos}{ps:Array Value}(h:TabOk pos ps):codeAmong pos ps.toList=none∧ps = #[]∨∃c',codeAmong pos ps.toList=some (.ref c'):=by
 rcases h with rfl|⟨c',rfl⟩
 ·exact .inl ⟨rfl,rfl⟩
 ·refine .inr ⟨c',?_⟩
  show (if ((pos.line:Int)==pos.line&&(pos.col:Int)==pos.col)=true then some (Value.ref c') else codeAmong pos [])=_
  rw [if_pos (by simp)]
theorem zIc{pos:Pos}{ps:Array Value}(h:TabOk pos ps):TriplesOk ps.toList:=by
 rcases h with rfl|⟨c',rfl⟩
 ·exact trivial
 ·exact trivial
theorem zOj{M:Model}{env:Env}{c P:Addr}{ps:Array Value}{pos:Pos}{qualname:Str}{scope:Scope}{g:Obj→List (Addr×Obj)}{Q:Value→Shared→Prop}(F:Fr h₀ L s.heap m)(N:News h₀ L s.heap news)(hc:env.code = .ref c)(hcd:CodeHd h₀ c P)(U:UpdF P (tabObj ps) news g)(hps:TabOk pos ps)(h:∀c' ps' h₃ tk,TabOk pos ps'→Fr h₀ L h₃ m→News h₀ L h₃ (g (tabObj ps'))→s.heap.objs.size≤h₃.objs.size→Heap.ExtBut P s.heap h₃→Q (.ref c') {s with heap:=h₃,toks:=tk}):
  wpAny M A (genexprCode env pos qualname scope) Q E s:=by
 have hP:=(N _ (zA2 U)).1
 have hcd':=hcd.keeps F.keep
 have hok:=hcd'.code hP (zIc hps)
 have htab:=hcd'.tab hP
 rcases tabOk_step hps with ⟨hn,rfl⟩|⟨c',hf⟩
 ·refine wpAny_genexprCodeX hc hok htab hn fun c' h' tk hx hge hlt hcode _ htab' _=>?_
  obtain ⟨pre,post,rfl,hg,p1,p2⟩:=U.split
  have zP:=N (P,tabObj #[]) (mem_append.mpr (.inr (.head _)))
  refine h c' (#[] ++ #[rawInt pos.line,rawInt pos.col,.ref c']) h' tk (.inr ⟨c',rfl⟩) ⟨F.ns.at' fun o e=>hx _ o (Ne.symm zP.2.1) e,fun b o e=>hx b o (fun q=>by rw [q,zP.2.2] at e;cases e) (F.keep b o e),F.above⟩ ?_ (le_trans hge (le_of_lt hlt)) hx
  rw [hg]
  intro p hp
  rcases mem_append.mp hp with hp|hp
  ·have z:=N p (mem_append.mpr (.inl hp))
   exact ⟨hx _ _ (p1 p hp) z.1,z.2⟩
  ·rcases mem_cons.mp hp with rfl|hp
   ·exact ⟨htab'.2,zP.2⟩
   ·have z:=N p (mem_append.mpr (.inr (.tail _ hp)))
    exact ⟨hx _ _ (p2 p hp) z.1,z.2⟩
 ·refine zMl hc hok hf ?_
  exact h c' ps s.heap s.toks hps F (by rw [zG7 U];exact N) (le_refl _) fun b o _ e=>e
end
section
variable {w:World}{A:Around}{E:Value→Shared→Prop}{t:Shared}{h₀:Heap}{C:Addr}{m mg mb:Str→Option Value}{p:Program}{loose:List Str}{mean:ExcName→Option Value}{env:Env}{x:Str}{pos:Pos}{v:Value}{Q:Value→Shared→Prop}{M:Model}
noncomputable abbrev zHr(scope:Scope)(C c':Addr)(q:Str):Env:={scope,locals:=C,globals:=mainGlobals,cells:=[],qual:=q,func:=none,code:=.ref c',frame:=some C,builtins:=builtinsNs}
theorem zHs{scope:Scope}{c':Addr}{q:Str}(F:Fr h₀ C t.heap m)(hv:m x=some v)(h:Q v t)(hk:scope.kind = .function)(hx:(zHr scope C c' q).kindOf x=some .local)(hd:(x==("__debug__" : Str))=false):wpAny M A (eval (.Name x pos) (zHr scope C c' q)) Q E t:=
 wpAny_Name (wpAny_loadName_local hk hx F.ns hv h) hd
theorem zP3{scope:Scope}{c':Addr}{q:Str}(F:Fr h₀ C t.heap m)(X:(kW w.params).In h₀)(T:Top p loose mean mg mb h₀)(e:nsIn (kW w.params) mainGlobals x=some none)(hv:bootBuiltins x=some v)(hn:x≠"__name__")(h:Q v t)(hk:scope.kind = .function)(hx:(zHr scope C c' q).kindOf x=some .globalImplicit)(hd:(x==("__debug__" : Str))=false):wpAny M A (eval (.Name x pos) (zHr scope C c' q)) Q E t:=
 Name_function_global hk hx (loadGlobal_builtin (env:=zHr scope C c' q) (T.g.keeps F.keep) (mg_none_of X T.g e) (T.b.keeps F.keep) ((T.builtins x hn).trans hv) h) hd
theorem zW1{scope:Scope}{c':Addr}{q:Str}(F:Fr h₀ C t.heap m)(X:(kW w.params).In h₀)(T:Top p loose mean mg mb h₀)(e:nsIn (kW w.params) mainGlobals x=some (some v))(h:Q v t)(hk:scope.kind = .function)(hx:(zHr scope C c' q).kindOf x=some .globalImplicit)(hd:(x==("__debug__" : Str))=false):wpAny M A (eval (.Name x pos) (zHr scope C c' q)) Q E t:=
 Name_function_global hk hx (loadGlobal_global (env:=zHr scope C c' q) (T.g.keeps F.keep) (mg_of X T.g e) h) hd
end
noncomputable def genOf:List Stmt→Option (Expr×Scope×Pos)
 |[.Return (some (.Call _ (.GeneratorExp elt _ sc ps::_) _ _)) _]=>some (elt,sc,ps)
 |_=>none
noncomputable def lenElt:Expr:=match genOf (zAf (zBw 17 4)) with|some (e,_,_)=>e|none=>default
noncomputable def lenSc:Scope:=match genOf (zAf (zBw 17 4)) with|some (_,s,_)=>s|none=>default
noncomputable def yAt:Expr:=match genOf (zAf (zBw 17 5)) with|some (e,_,_)=>e|none=>default
noncomputable def strSc:Scope:=match genOf (zAf (zBw 17 5)) with|some (_,s,_)=>s|none=>default
theorem zPi:∃p1 p2 p3 p4 p5 p6 p7,lenElt = .BinOp (.Call (.Name (.ofString "len") p1) [.Name (.ofString "fws") p2] [] p3) .Add (.Call (.Name (.ofString "len") p4) [.Name (.ofString "part") p5] [] p6) p7:=⟨_,_,_,_,_,_,_,rfl⟩
theorem zD1:lenSc.kind = .function:=rfl
theorem zEl:strSc.kind = .function:=rfl
theorem zPj(C c':Addr)(q:Str):(zHr lenSc C c' q).kindOf (.ofString "fws")=some .local:=by kernel_rfl
theorem zN3(C c':Addr)(q:Str):(zHr lenSc C c' q).kindOf (.ofString "part")=some .local:=by kernel_rfl
theorem zJe(C c':Addr)(q:Str):(zHr lenSc C c' q).kindOf (.ofString "len")=some .globalImplicit:=by kernel_rfl
theorem zR3(C c':Addr)(q:Str):(zHr strSc C c' q).kindOf (.ofString "fws")=some .local:=by kernel_rfl
theorem zNh(C c':Addr)(q:Str):(zHr strSc C c' q).kindOf (.ofString "part")=some .local:=by kernel_rfl
theorem zTj(C c':Addr)(q:Str):(zHr strSc C c' q).kindOf (.ofString "EMPTYSTRING")=some .globalImplicit:=by kernel_rfl
theorem zLh(P:Params):nsIn (kW P) mainGlobals (.ofString "len")=some none:=by kernel_rfl
theorem zLg:bootBuiltins (.ofString "len")=some (.builtin "len"):=by boot_by_name
theorem zOs(P:Params):∃t,nsIn (kW P) mainGlobals (.ofString "EMPTYSTRING")=some (some (.str (.ofString "") t)):=⟨_,rfl⟩
theorem zOp:((.ofString "fws" : Str)==("__debug__" : Str))=false:=by decide
theorem zL5:((.ofString "part" : Str)==("__debug__" : Str))=false:=by decide
theorem zOq:((.ofString "len" : Str)==("__debug__" : Str))=false:=by decide
theorem zYh:((.ofString "EMPTYSTRING" : Str)==("__debug__" : Str))=false:=by decide
theorem zUl:(.ofString "len" : Str)≠"__name__" := by decide
section
variable {w:World}{A:Around}{E:Value→Shared→Prop}{t:Shared}{h₀:Heap}{C c':Addr}{q:Str}{m mg mb:Str→Option Value}{p:Program}{loose:List Str}{mean:ExcName→Option Value}{x y:Str}{tx ty:Tok}
theorem zVl(F:Fr h₀ C t.heap m)(X:(kW w.params).In h₀)(T:Top p loose mean mg mb h₀)(h1:m (.ofString "fws")=some (.str x tx))(h2:m (.ofString "part")=some (.str y ty))(hx:x.length≤10000)(hy:y.length≤10000):
  wpAny (model pw w) A (eval lenElt (zHr lenSc C c' q)) (fun v s'=>(∃u,v = .int ((x.length:Int)+(y.length:Int)) u)∧Keeps t s') E t:=by
 obtain ⟨p1,p2,p3,p4,p5,p6,p7,e⟩:=zPi
 rw [e]
 refine wpAny_BinOp (Call_ (zP3 F X T (zLh _) zLg zUl ?_ zD1 (zJe _ _ _) zOq))
 refine callWith_builtin1 (args_cons (zHs F h1 ?_ zD1 (zPj _ _ _) zOp))
 refine args_nil (P.len_str (by lia) ?_)
 refine Call_ (zP3 F X T (zLh _) zLg zUl ?_ zD1 (zJe _ _ _) zOq)
 refine callWith_builtin1 (args_cons (zHs F h2 ?_ zD1 (zN3 _ _ _) zL5))
 refine args_nil (P.len_str (by lia) ?_)
 exact wpAny_add_int ⟨⟨_,rfl⟩,t.heap,_,rfl,fun _ _ e=>e⟩
theorem zSq(x y:Str):Txt.join (Str.ofString "") [x,y]=x++y:=by
 show x++(Str.ofString "")++y=x++y
 have e:x++(Str.ofString "")=x:=by
  induction x with
  |mk a=>show Str.mk (a++_)=_;congr 1
 rw [e]
theorem zVm(F:Fr h₀ C t.heap m)(X:(kW w.params).In h₀)(T:Top p loose mean mg mb h₀)(h1:m (.ofString "fws")=some (.str x tx))(h2:m (.ofString "part")=some (.str y ty))(hx:x.length≤10000)(hy:y.length≤10000):
  wpAny (model pw w) A (eval yAt (zHr strSc C c' q)) (fun v s'=>(∃u,v = .str (x++y) u)∧Keeps t s') E t:=by
 obtain ⟨te,he⟩:=zOs w.params
 conv=>arg 3;arg 1;whnf
 refine MethodCall_ (zW1 F X T he ?_ zEl (zTj _ _ _) zYh)
 refine GM.join ?_
 refine callWith_method1 (args_cons (Tuple_ (args_cons (zHs F h1 ?_ zEl (zR3 _ _ _) zOp))))
 refine args_cons (zHs F h2 ?_ zEl (zNh _ _ _) zL5)
 refine args_nil (wpAny_newTuple ?_)
 refine args_nil ?_
 have hsl:=sizeLine_eq
 refine join_tuple (ys:=[x,y]) ⟨_,Heap.get?_push_size _ rfl,rfl,_,rfl⟩ (.cons _ _ (.cons _ _ .nil)) ?_ fun t' k=>?_
 ·simp only [map_cons,map_nil,sum_cons,List.sum_nil,length_cons,List.length_nil]
  have e0:(Str.ofString "").length=0:=by decide
  rw [e0]
  lia
 ·refine ⟨⟨t',?_⟩,_,_,rfl,fun b o e=>Heap.get?_push_of_some _ e⟩
  have e1:Txt.join (Str.ofString "") [x,y]=x++y:=zSq x y
  rw [e1]
end
namespace Rx
open PySem.Sre
noncomputable def tokCode:Array Nat:=#[14,4,0,1,4294967295,24,16,1,4294967295,13,11,9,0,67071226,3355443198,1476395007,0,0,0,0,0,1,1]
noncomputable def ipCode:Array Nat:=#[14,8,1,2,4294967295,1,1,46,0,16,46,24,9,1,4294967295,13,4,8,0,0,1,6,5,1]
noncomputable def at_(code text:Array Nat)(pc s:Nat)(ma fi:Bool)(sn:Sre.Seen):M:=
 {code,text,lim:=text.size,start:=s,lastStart:=text.size,wholeText:=false,mustAdvance:=ma,pc,pos:=s,handed:=s,outermost:=fi,marks:=#[],lastmark:=-1,lastindex:=-1,
  loops:=#[],inner:=none,frames:=[{wait:=.nextStart,pc,pos:=s,outermost:=fi,count:=0,kept:={},loop:=0,began:=none}],weight:=1,answer:=none,seen:=sn,outcome:=none}
noncomputable def tok(c:Nat):Bool:=c<256&&((#[0,67071226,3355443198,1476395007,0,0,0,0]:Array Nat).getD (c/32) 0).testBit (c%32)
theorem acc_tok(c:Nat)(sn:Sre.Seen):∃sn',accepts tokCode 9 c sn = .ok (tok c,sn'):=by
 have e:accepts tokCode 9 c sn=inSet tokCode c 23 11 true sn:=rfl
 rw [e]
 have w:∀k,k<8→tokCode.getD (11+(1+k)) 0=(#[0,67071226,3355443198,1476395007,0,0,0,0]:Array Nat).getD k 0:=by decide
 show ∃sn',(if (decide (c<256)&&(tokCode.getD (11+(1+c/32)) 0).testBit (c%32))=true then (.ok (true,sn.add 9):Except String (Bool×Sre.Seen)) else inSet tokCode c 22 20 true (sn.add 9))=_
 have h:(decide (c<256)&&(tokCode.getD (11+(1+c/32)) 0).testBit (c%32))=tok c:=by
  unfold tok
  by_cases h:c<256
  ·rw [w _ (by lia)]
  ·simp [h]
 rw [h]
 cases tok c with
 |true=>exact ⟨_,rfl⟩
 |false=>exact ⟨_,rfl⟩
theorem run_tok(text:Array Nat):∀(n p f:Nat) (sn:Sre.Seen),∃sn',Sre.run tokCode text 9 n p f sn = .ok (f+(((range' p n).takeWhile fun i=>tok (text.getD i 0)).length),sn')
 |0,p,f,sn=>⟨sn,rfl⟩
 |n+1,p,f,sn=>by
  obtain ⟨s1,e1⟩:=acc_tok (text.getD p 0) sn
  unfold Sre.run
  rw [e1,List.range'_succ,List.takeWhile_cons]
  cases h:tok (text.getD p 0) with
  |false=>exact ⟨s1,rfl⟩
  |true=>
   obtain ⟨s2,e2⟩:=run_tok text n (p+1) (f+1) s1
   exact ⟨s2,by show Sre.run tokCode text 9 n (p+1) (f+1) s1=_;rw [e2];simp;lia⟩
theorem sizeOk(text:Array Nat)(s:Nat)(hs:s≤text.size):((text.size:Int)-(s:Int)).toNat=text.size-s:=by lia
theorem exec_rep(text:Array Nat)(s:Nat)(ma fi:Bool)(sn:Sre.Seen)(hs:s<text.size)(n:Nat)(hn:n=((range' s (min 4294967295 (text.size-s))).takeWhile fun i=>tok (text.getD i 0)).length):
  ∃sn',(at_ tokCode text 5 s ma fi sn).step=if n<1 then {at_ tokCode text 5 s ma fi sn' with answer:=some false} else M.afterRun {at_ tokCode text 5 s ma fi sn' with pos:=s+n} .giveBack n (M.keep {at_ tokCode text 5 s ma fi sn' with pos:=s+n} false):=by
 obtain ⟨s2,e2⟩:=run_tok text (min 4294967295 (text.size-s)) s 0 ((sn.add 24).add 13)
 refine ⟨s2,?_⟩
 rw [←hn,zero_add] at e2
 show M.exec (at_ tokCode text 5 s ma fi sn)=_
 show (if ((1:Nat):Int)>(text.size:Int)-(s:Int) then _ else match Sre.run tokCode text 9 (min 4294967295 ((text.size:Int)-(s:Int)).toNat) s 0 ((sn.add 24).add 13) with
  |.error why=>M.stick _ why
  |.ok (n,seen)=>_)=_
 rw [if_neg (by lia),sizeOk text s (le_of_lt hs),e2]
 rfl
theorem step_ans(m:M)(yes:Bool)(f:PySem.Sre.Frame)(rest:List PySem.Sre.Frame)(h1:m.outcome=none)(h2:m.answer=some yes)(h3:m.frames=f::rest):
  m.step=M.resume {m with answer:=none,frames:=rest,weight:=m.weight-(1+f.kept.marks.size),pc:=f.pc,pos:=f.pos,outermost:=f.outermost} f yes:=by
 unfold M.step
 rw [h1,h2,h3]
 rfl
theorem tok_skip(text:Array Nat)(s:Nat)(ma fi:Bool)(sn:Sre.Seen)(hs:s<text.size)(h:tok (text.getD s 0)=false):∃sn',(at_ tokCode text 5 s ma fi sn).step.outcome=none∧(at_ tokCode text 5 s ma fi sn).step.step=at_ tokCode text 5 (s+1) false false sn':=by
 obtain ⟨s2,e⟩:=exec_rep text s ma fi sn hs 0 (by
  have:min 4294967295 (text.size-s)=(min 4294967295 (text.size-s)-1)+1:=by lia
  rw [this,List.range'_succ,List.takeWhile_cons,h];rfl)
 refine ⟨s2,by rw [e,if_pos (by decide)];rfl,?_⟩
 rw [e,if_pos (by decide)]
 rw [step_ans _ false _ _ rfl rfl rfl]
 show (if s<text.size then _ else _)=_
 rw [if_pos hs]
 rfl
theorem tok_end(text:Array Nat)(ma fi:Bool)(sn:Sre.Seen):∃sn',(at_ tokCode text 5 text.size ma fi sn).step.outcome=none∧(at_ tokCode text 5 text.size ma fi sn).step.step.outcome=none∧(at_ tokCode text 5 text.size ma fi sn).step.step.step = {at_ tokCode text 5 text.size ma fi sn' with answer:=some false,frames:=[],weight:=0,outcome:=some .failed}:=by
 refine ⟨sn.add 24,?_⟩
 have e:(at_ tokCode text 5 text.size ma fi sn).step = {at_ tokCode text 5 text.size ma fi (sn.add 24) with answer:=some false}:=by
  show M.exec (at_ tokCode text 5 text.size ma fi sn)=_
  show (if ((1:Nat):Int)>(text.size:Int)-(text.size:Int) then _ else _)=_
  rw [if_pos (by lia)]
  rfl
 rw [e]
 have e2:M.step {at_ tokCode text 5 text.size ma fi (sn.add 24) with answer:=some false} = {at_ tokCode text 5 text.size ma fi (sn.add 24) with answer:=some false,frames:=[],weight:=0}:=by
  rw [step_ans _ false _ _ rfl rfl rfl]
  show (if text.size<text.size then _ else _)=_
  rw [if_neg (lt_irrefl _)]
  rfl
 rw [e2]
 exact ⟨rfl,rfl,rfl⟩
noncomputable def hitM(text:Array Nat)(s n:Nat)(fi:Bool)(sn:Sre.Seen):M:=
 {code:=tokCode,text,lim:=text.size,start:=s,lastStart:=text.size,wholeText:=false,mustAdvance:=false,pc:=5,pos:=s,handed:=s+n,outermost:=fi,marks:=#[],lastmark:=-1,lastindex:=-1,
  loops:=#[],inner:=none,frames:=[],weight:=0,answer:=some true,seen:=sn,outcome:=some .matched}
theorem tok_hit(text:Array Nat)(s:Nat)(fi:Bool)(sn:Sre.Seen)(hs:s<text.size)(n:Nat)(hn:n=((range' s (min 4294967295 (text.size-s))).takeWhile fun i=>tok (text.getD i 0)).length)(h1:1≤n):
  ∃sn',(at_ tokCode text 5 s false fi sn).step.outcome=none∧(at_ tokCode text 5 s false fi sn).step.step.outcome=none∧(at_ tokCode text 5 s false fi sn).step.step.step.outcome=none∧(at_ tokCode text 5 s false fi sn).step.step.step.step.outcome=none∧(at_ tokCode text 5 s false fi sn).step.step.step.step.step=hitM text s n fi sn':=by
 obtain ⟨s2,e⟩:=exec_rep text s false fi sn hs n hn
 refine ⟨s2.add 1,?_⟩
 rw [e,if_neg (by lia)]
 induction fi<;>exact ⟨by kernel_rfl,by kernel_rfl,by kernel_rfl,by kernel_rfl,by kernel_rfl⟩
def ends:Nat→M→M→Prop
 |0,m,m'=>m=m'∧m.outcome.isSome=true
 |k+1,m,m'=>m.outcome=none∧ends k m.step m'
theorem ends_run:∀(n k:Nat) (m m':M),ends k m m'→(k≤n→m.runFor n=m')∧(n<k→(m.runFor n).outcome=none∧ends (k-n) (m.runFor n) m')
 |0,0,m,m',h=>⟨fun _=>h.1,fun x=>absurd x (by contradiction)⟩
 |0,k+1,m,m',h=>⟨fun x=>absurd x (by lia),fun _=>⟨h.1,h⟩⟩
 |n+1,0,m,m',h=>⟨fun _=>by
   unfold M.runFor
   rw [if_pos h.2];exact h.1,fun x=>absurd x (by contradiction)⟩
 |n+1,k+1,m,m',h=>by
  have z:=ends_run n k m.step m' h.2
  unfold M.runFor
  rw [if_neg (by rw [h.1];decide)]
  refine ⟨fun x=>z.1 (by lia),fun x=>?_⟩
  have:=z.2 (by lia)
  rwa [show k+1-(n+1)=k-n by lia]
theorem ends_some{k:Nat}{m m':M}(h:ends k m m'):m'.outcome.isSome=true:=by
 induction k generalizing m with
 |zero=>exact h.1▸h.2
 |succ k ih=>exact ih h.2
theorem tok_from(text:Array Nat)(j:Nat)(hj:j<text.size)(ht:tok (text.getD j 0)=true)(n:Nat)(hn:n=((range' j (min 4294967295 (text.size-j))).takeWhile fun i=>tok (text.getD i 0)).length):
  ∀(d s:Nat) (fi:Bool) (sn:Sre.Seen),s+d=j→(∀i,s≤i→i<j→tok (text.getD i 0)=false)→∃fi' sn',ends (2*d+5) (at_ tokCode text 5 s false fi sn) (hitM text j n fi' sn')
 |0,s,fi,sn,e,h=>by
  obtain rfl:s=j:=by omega
  have h1:1≤n:=by
   have:min 4294967295 (text.size-s)=(min 4294967295 (text.size-s)-1)+1:=by lia
   rw [hn,this,List.range'_succ,List.takeWhile_cons,ht];simp
  obtain ⟨sn',a,b,c,d,e⟩:=tok_hit text s fi sn hj n hn h1
  exact ⟨fi,sn',rfl,a,b,c,d,e,by rw [e];rfl⟩
 |d+1,s,fi,sn,e,h=>by
  obtain ⟨s1,a,b⟩:=tok_skip text s false fi sn (by lia) (h s (le_refl _) (by lia))
  obtain ⟨f2,s2,z⟩:=tok_from text j hj ht n hn d (s+1) false s1 (by lia) fun i h1 h2=>h i (by (exact le_of_lt (by assumption))) h2
  refine ⟨f2,s2,?_⟩
  rw [show 2*(d+1)+5=(2*d+5)+1+1 by rfl]
  exact ⟨rfl,a,by rw [b];exact z⟩
theorem tok_none(text:Array Nat):∀(d s:Nat) (fi:Bool) (sn:Sre.Seen),s+d=text.size→(∀i,s≤i→i<text.size→tok (text.getD i 0)=false)→∃m',ends (2*d+3) (at_ tokCode text 5 s false fi sn) m'∧m'.outcome=some .failed
 |0,s,fi,sn,e,h=>by
  obtain rfl:s=text.size:=by omega
  obtain ⟨s1,a,b,c⟩:=tok_end text false fi sn
  exact ⟨_,⟨rfl,a,b,c,by rw [c];rfl⟩,rfl⟩
 |d+1,s,fi,sn,e,h=>by
  obtain ⟨s1,a,b⟩:=tok_skip text s false fi sn (by lia) (h s (le_refl _) (by omega))
  obtain ⟨m',z,hm⟩:=tok_none text d (s+1) false s1 (by lia) fun i h1 h2=>h i (by (exact le_of_lt (by assumption))) h2
  refine ⟨m',?_,hm⟩
  rw [show 2*(d+1)+3=(2*d+3)+1+1 by rfl]
  exact ⟨rfl,a,by rw [b];exact z⟩
theorem search_tok(text:Array Nat)(h:1≤text.size):forSearch tokCode text 0 0 text.size false=at_ tokCode text 5 0 false true (({}:Sre.Seen).add 14):=by
 show (if (decide (0>text.size) || decide (text.size-0<1))=true then _ else _)=_
 rw [if_neg (by simp only [Bool.or_eq_true,decide_eq_true_eq];lia)]
 rfl
theorem search_hit(text:Array Nat)(j:Nat)(hj:j<text.size)(ht:tok (text.getD j 0)=true)(hb:∀i,i<j→tok (text.getD i 0)=false)(n:Nat)(hn:n=((range' j (min 4294967295 (text.size-j))).takeWhile fun i=>tok (text.getD i 0)).length):
  ∃fi sn,ends (2*j+5) (forSearch tokCode text 0 0 text.size false) (hitM text j n fi sn):=by
 rw [search_tok text (by lia)]
 exact tok_from text j hj ht n hn j 0 true _ (by lia) fun i _ h=>hb i h
theorem search_none(text:Array Nat)(h:∀i,i<text.size→tok (text.getD i 0)=false):∃m',ends (2*text.size+3) (forSearch tokCode text 0 0 text.size false) m'∧m'.outcome=some .failed∨ends 1 (forSearch tokCode text 0 0 text.size false) m'∧m'.outcome=some .failed:=by
 by_cases hz:1≤text.size
 ·rw [search_tok text hz]
  obtain ⟨m',a,b⟩:=tok_none text text.size 0 true (({}:Sre.Seen).add 14) (by lia) fun i _ h'=>h i h'
  exact ⟨m',.inl ⟨a,b⟩⟩
 ·have e:text = #[]:=by
   apply Array.eq_empty_of_size_eq_zero;lia
  subst e
  exact ⟨_,.inr ⟨⟨rfl,rfl,rfl⟩,rfl⟩⟩
theorem acc_dot(c:Nat)(sn:Sre.Seen):accepts ipCode 9 c sn = .ok (c==46,sn):=rfl
theorem acc_dig(c:Nat)(sn:Sre.Seen)(h:isDigit c=false):∃sn',accepts ipCode 15 c sn = .ok (false,sn'):=by
 have e:accepts ipCode 15 c sn=(do
   if ←category 0 c then pure (true,(sn.add 8).add 55) else inSet ipCode c 23 19 true ((sn.add 8).add 55):Except String (Bool×Sre.Seen)):=rfl
 have e2:category 0 c = .ok false:=by
  show (Except.ok (isDigit c):Except String Bool).map (· != (0%2==1))=_
  rw [h];rfl
 rw [e,e2]
 exact ⟨_,rfl⟩
theorem run_dig(text:Array Nat)(n p:Nat)(sn:Sre.Seen)(h:isDigit (text.getD p 0)=false):∃sn',Sre.run ipCode text 15 n p 0 sn = .ok (0,sn'):=by
 induction n with
 |zero=>exact ⟨sn,rfl⟩
 |succ n=>
  obtain ⟨s1,e⟩:=acc_dig (text.getD p 0) sn h
  unfold Sre.run
  rw [e]
  exact ⟨s1,rfl⟩
theorem ip_back(text:Array Nat)(s:Nat)(fi:Bool)(sn:Sre.Seen)(hs:s<text.size)(m:M)(hm:m = {at_ ipCode text 9 s false fi sn with answer:=some false}∨∃pc,m = {at_ ipCode text 9 s false fi sn with answer:=some false,pc:=pc,pos:=s+1}):
  m.outcome=none∧m.step=at_ ipCode text 9 (s+1) false false sn:=by
 rcases hm with rfl|⟨pc,rfl⟩<;>refine ⟨rfl,?_⟩<;>rw [step_ans _ false _ _ rfl rfl rfl]<;>show (if s<text.size then _ else _)=_<;>rw [if_pos hs]<;>rfl
theorem ip_skip(text:Array Nat)(hd:∀i,isDigit (text.getD i 0)=false)(s:Nat)(fi:Bool)(sn:Sre.Seen)(hs:s<text.size):
  ∃k sn',k<3∧∀n m',ends n (at_ ipCode text 9 (s+1) false false sn') m'→ends (k+1+n) (at_ ipCode text 9 s false fi sn) m':=by
 have e1:(at_ ipCode text 9 s false fi sn).step=match (text.getD s 0==46) with
   |false=>{at_ ipCode text 9 s false fi (sn.add 16) with answer:=some false}
   |true=>{at_ ipCode text 9 s false fi (sn.add 16) with pc:=11,pos:=s+1}:=by
  show M.exec (at_ ipCode text 9 s false fi sn)=_
  show (if s≥text.size then _ else match accepts ipCode 9 (text.getD s 0) (sn.add 16) with
   |.error why=>_
   |.ok (false,seen)=>_
   |.ok (true,seen)=>_)=_
  rw [if_neg (by lia),acc_dot]
  cases text.getD s 0==46<;>rfl
 cases hc:(text.getD s 0==46) with
 |false=>
  rw [hc] at e1
  obtain ⟨a,b⟩:=ip_back text s fi (sn.add 16) hs _ (.inl rfl)
  refine ⟨1,sn.add 16,by decide,fun n m' h=>?_⟩
  rw [show 1+1+n=n+1+1 by lia]
  exact ⟨rfl,by rw [e1];exact ⟨a,by rw [b];exact h⟩⟩
 |true=>
  rw [hc] at e1
  have e2:∃sn',M.step {at_ ipCode text 9 s false fi (sn.add 16) with pc:=11,pos:=s+1} = {at_ ipCode text 9 s false fi sn' with answer:=some false,pc:=11,pos:=s+1}:=by
   obtain ⟨s3,e3⟩:=run_dig text (min 4294967295 ((text.size:Int)-((s+1:Nat):Int)).toNat) (s+1) (((sn.add 16).add 24).add 13) (hd _)
   show ∃sn',M.exec {at_ ipCode text 9 s false fi (sn.add 16) with pc:=11,pos:=s+1}=_
   by_cases hr:((1:Nat):Int)>(text.size:Int)-((s+1:Nat):Int)
   ·refine ⟨(sn.add 16).add 24,?_⟩
    show (if ((1:Nat):Int)>(text.size:Int)-((s+1:Nat):Int) then _ else _)=_
    rw [if_pos hr];rfl
   ·refine ⟨s3,?_⟩
    show (if ((1:Nat):Int)>(text.size:Int)-((s+1:Nat):Int) then _ else match Sre.run ipCode text 15 (min 4294967295 ((text.size:Int)-((s+1:Nat):Int)).toNat) (s+1) 0 (((sn.add 16).add 24).add 13) with
     |.error why=>_
     |.ok (n,seen)=>_)=_
    rw [if_neg hr,e3]
    rfl
  obtain ⟨s4,e2⟩:=e2
  obtain ⟨a,b⟩:=ip_back text s fi s4 hs _ (.inr ⟨11,rfl⟩)
  refine ⟨2,s4,by decide,fun n m' h=>?_⟩
  rw [show 2+1+n=n+1+1+1 by lia]
  exact ⟨rfl,by rw [e1];exact ⟨rfl,by rw [e2];exact ⟨a,by rw [b];exact h⟩⟩⟩
theorem ip_end(text:Array Nat)(fi:Bool)(sn:Sre.Seen):∃m',ends 3 (at_ ipCode text 9 text.size false fi sn) m'∧m'.outcome=some .failed:=by
 have e1:(at_ ipCode text 9 text.size false fi sn).step = {at_ ipCode text 9 text.size false fi (sn.add 16) with answer:=some false}:=by
  show M.exec (at_ ipCode text 9 text.size false fi sn)=_
  show (if text.size≥text.size then _ else _)=_
  rw [if_pos (le_refl _)]
  rfl
 have e2:M.step {at_ ipCode text 9 text.size false fi (sn.add 16) with answer:=some false} = {at_ ipCode text 9 text.size false fi (sn.add 16) with answer:=some false,frames:=[],weight:=0}:=by
  rw [step_ans _ false _ _ rfl rfl rfl]
  show (if text.size<text.size then _ else _)=_
  rw [if_neg (lt_irrefl _)]
  rfl
 exact ⟨_,⟨rfl,by rw [e1];rfl,by rw [e1,e2];rfl,rfl,by rw [e1,e2];rfl⟩,by rw [e1,e2];rfl⟩
theorem ip_none(text:Array Nat)(hd:∀i,isDigit (text.getD i 0)=false):∀(d s:Nat) (fi:Bool) (sn:Sre.Seen),s+d=text.size→∃k m',k≤3*d+3∧ends k (at_ ipCode text 9 s false fi sn) m'∧m'.outcome=some .failed
 |0,s,fi,sn,e=>by
  obtain rfl:s=text.size:=by omega
  obtain ⟨m',a,b⟩:=ip_end text fi sn
  exact ⟨3,m',by decide,a,b⟩
 |d+1,s,fi,sn,e=>by
  obtain ⟨k,s1,hk,z⟩:=ip_skip text hd s fi sn (by omega)
  obtain ⟨k2,m',h2,a,b⟩:=ip_none text hd d (s+1) false s1 (by lia)
  exact ⟨k+1+k2,m',by lia,z _ _ a,b⟩
theorem search_ip(text:Array Nat)(hd:∀i,isDigit (text.getD i 0)=false):∃k m',k≤3*text.size+3∧ends k (forSearch ipCode text 0 0 text.size false) m'∧m'.outcome=some .failed:=by
 by_cases hz:2≤text.size
 ·have e:forSearch ipCode text 0 0 text.size false=at_ ipCode text 9 0 false true (({}:Sre.Seen).add 14):=by
   show (if (decide (0>text.size) || decide (text.size-0<2))=true then _ else _)=_
   rw [if_neg (by simp only [Bool.or_eq_true,decide_eq_true_eq];lia)]
   rfl
  rw [e]
  exact ip_none text hd text.size 0 true _ (by omega)
 ·have e:forSearch ipCode text 0 0 text.size false=M.say (forSearch ipCode text 0 0 text.size false) false:=by
   have:forSearch ipCode text 0 0 text.size false=(if (decide (0>text.size) || decide (text.size-0<2))=true then _ else _):=rfl
   rw [this,if_pos (by simp only [Bool.or_eq_true,decide_eq_true_eq];lia)]
   rfl
  refine ⟨1,M.step (forSearch ipCode text 0 0 text.size false),by lia,?_,?_⟩ <;>
  ·have:forSearch ipCode text 0 0 text.size false=(if (decide (0>text.size) || decide (text.size-0<2))=true then _ else _):=rfl
   rw [this,if_pos (by simp only [Bool.or_eq_true,decide_eq_true_eq];omega)]
   first|exact ⟨rfl,rfl,rfl⟩|rfl
section
variable {MM:Model}{A:Around}{E:Value→Shared→Prop}{s:Shared}
open PySem.Builtin.Re
theorem drive:∀(turns k:Nat) (m m':M) (Q:M→Shared→Prop),ends k m m'→k<4*turns→Q m' s→wpAny MM A (reDrive turns m) Q E s
 |0,k,_,_,_,_,hk,_=>absurd hk (by contradiction)
 |t+1,k,m,m',Q,h,hk,q=>by
  unfold reDrive
  have z:=ends_run 4 k m m' h
  show wpAny MM A (if (m.runFor 4).outcome.isSome=true then pure (m.runFor 4) else do rule "sre.turn";reDrive t (m.runFor 4)) Q E s
  by_cases hk4:k≤4
  ·rw [z.1 hk4,if_pos (ends_some h)]
   exact wpAny_pure q
  ·obtain ⟨e1,e2⟩:=z.2 (by (exact lt_of_not_le (by assumption)))
   rw [if_neg (by rw [e1];decide)]
   exact wpAny_bind (wpAny_rule (drive t (k-4) _ _ Q e2 (by lia) q))
theorem rules_in(c:Nat→Bool)(t:Nat→String)(Q:PUnit→Shared→Prop)(q:Q ⟨⟩ s):∀l:List Nat,wpAny MM A (forIn l PUnit.unit fun i (_:PUnit)=>do
   if c i=true then rule (t i)
   pure (ForInStep.yield PUnit.unit)) Q E s
 |[]=>by rw [List.forIn_nil];exact wpAny_pure q
 |a::l=>by
  rw [List.forIn_cons]
  refine wpAny_bind ?_
  have ih:=rules_in c t Q q l
  show wpAny MM A (if c a=true then (rule (t a) >>= fun _=>pure (ForInStep.yield PUnit.unit)) else pure (ForInStep.yield PUnit.unit)) _ E s
  by_cases h:c a=true
  ·rw [if_pos h];exact wpAny_bind (wpAny_rule (wpAny_pure ih))
  ·rw [if_neg h];exact wpAny_pure ih
end
end Rx
namespace RF
open PySem.Builtin PySem.Builtin.Re
theorem pa_pat:PlainAttrs "re.Pattern" :=
 ⟨⟨"object.__getattribute__",by rw [typeLookup_type,builtinLookup_eq_fast];kernel_rfl,by decide +kernel⟩,by rw [typeLookup_type,builtinLookup_eq_fast];kernel_rfl⟩
theorem slot_search:Slot "re.Pattern" "search" "re.Pattern.search" :=
 .of (owner:="re.Pattern") (n:="search") (by rw [typeLookup_type,builtinLookup_eq_fast];kernel_rfl) (by decide +kernel) (by decide +kernel) (by decide +kernel)
  (by first|exact .inl (by decide +kernel)|exact .inr (by decide +kernel)) (by rw [isSubtype_type];kernel_rfl)
theorem type_search:typeOf (.builtin "re.Pattern.search")=pure (.type "method_descriptor"):=by show builtinType _=_;rw [builtinType_eq_fast];kernel_rfl
theorem entry_search:entryFor table "re.Pattern.search" = some Builtin.«re.Pattern.search» := entryFor_of_tree (by kernel_rfl)
theorem owner_pat:Manifest.owners.lookup (String.ofList ['n','r','e','t','t','a','P','.','e','r'].reverse)=some Manifest.sig_re_Pattern:=by kernel_rfl
theorem args_search(a b:Value):argsOk "re.Pattern.search" ⟨[a,b],[]⟩:=by
 unfold argsOk;rw [signature?_of (id:="re.Pattern.search") (n:=['h','c','r','a','e','s']) (o:=['n','r','e','t','t','a','P','.','e','r']) (by kernel_rfl) owner_pat];kernel_rfl
theorem pa_mat:PlainAttrs "re.Match" :=
 ⟨⟨"object.__getattribute__",by rw [typeLookup_type,builtinLookup_eq_fast];kernel_rfl,by decide +kernel⟩,by rw [typeLookup_type,builtinLookup_eq_fast];kernel_rfl⟩
theorem slot_span:Slot "re.Match" "span" "re.Match.span" :=
 .of (owner:="re.Match") (n:="span") (by rw [typeLookup_type,builtinLookup_eq_fast];kernel_rfl) (by decide +kernel) (by decide +kernel) (by decide +kernel)
  (by first|exact .inl (by decide +kernel)|exact .inr (by decide +kernel)) (by rw [isSubtype_type];kernel_rfl)
theorem type_span:typeOf (.builtin "re.Match.span")=pure (.type "method_descriptor"):=by show builtinType _=_;rw [builtinType_eq_fast];kernel_rfl
theorem entry_span:entryFor table "re.Match.span" = some Builtin.«re.Match.span» := entryFor_of_tree (by kernel_rfl)
theorem owner_mat:Manifest.owners.lookup (String.ofList ['h','c','t','a','M','.','e','r'].reverse)=some Manifest.sig_re_Match:=by kernel_rfl
theorem args_span(a b:Value):argsOk "re.Match.span" ⟨[a,b],[]⟩:=by
 unfold argsOk;rw [signature?_of (id:="re.Match.span") (n:=['n','a','p','s']) (o:=['h','c','t','a','M','.','e','r']) (by kernel_rfl) owner_mat];kernel_rfl
section
variable {prog:Program}{w:World}{A:Around}{E:Value→Shared→Prop}{s:Shared}
theorem call_slotB{T:String}{name:Str}{id:String}{B:Builtin}{self:Value}{rest:List Value}{Q:Value→Shared→Prop}(slot:Slot T name id)(hT:s.TypeIs self T)(entry:entryFor table id=some B)(ok:argsOk id ⟨self::rest,[]⟩)(h:wpAny (model prog w) A.in1 (B ⟨self::rest,[]⟩) (fun fin s'=>∃v,fin = .done (.ret v)∧Q v s') E s):wpAny (model prog w) A (call (.builtin id) (self::rest)) Q E s:=by
 refine wpAny_call (codeAny_call_builtin slot.plain entry (slot.check _ _ _ _ _ _ _ _ hT ok ?_))
 exact wpAny_mono h (fun fin s' h'=>by obtain ⟨v,rfl,hv⟩:=h';exact hv) fun _ _ x=>x
theorem re_target{a b:Addr}{x pat:Str}{t t1:Tok}{fl gr:Int}{t2 t3 t4:Tok}{cs:List Value}{o ob:Obj}{Q:ReTarget→Shared→Prop}(ho:s.heap.get? a=some o)(hd:o.data = .fields [.str pat t1,.int fl t2,.int gr t3,.none,.none,.ref b,.int 0 t4].toArray)(hb:s.heap.get? b=some ob)(hbd:ob.data = .seq cs.toArray 0)(hx:x.length<2 ^ 62)(h:Q {pattern:=.ref a,string:=.str x t,code:=(cs.map reRawOf).toArray.map (·.toNat),text:=x.cps,kind:=0,groups:=gr.toNat,pos:=0,lim:=x.cps.size} s):
  wpAny (model prog w) A (reTarget "re.Pattern.search" "search" ⟨[.ref a,.str x t],[]⟩) Q E s:=by
 have e:reNamed "re.Pattern.search" "search" ["string","pos","endpos"] 1 [.str x t] []=pure [some (.str x t),none,none]:=by kernel_rfl
 have hc:min ((2 ^ 63-1:Int).toNat) x.cps.size=x.cps.size:=by
  have:x.cps.size<2 ^ 62:=hx
  have e2:(2 ^ 63-1:Int).toNat=2 ^ 63-1:=by decide
  rw [e2];lia
 unfold reTarget
 show wpAny (model prog w) A (do
  let [some string,pos?,lim?] ←reNamed "re.Pattern.search" "search" ["string","pos","endpos"] 1 [.str x t] []|unsupported "internal:re:named"
  _) Q E s
 rw [e]
 refine wpAny_bind (wpAny_pure ?_)
 refine wpAny_bind (wpAny_pure ?_)
 refine wpAny_bind (wpAny_pure ?_)
 refine wpAny_bind (wpAny_fieldsOf ho hd ?_)
 refine wpAny_bind ?_
 unfold reTextOf
 refine wpAny_bind (wpAny_pure ?_)
 refine wpAny_pure ?_
 dsimp only
 refine wpAny_bind (wpAny_pure ?_)
 refine wpAny_bind ?_
 show wpAny _ _ (reRawItems (.ref b)) _ _ _
 unfold reRawItems
 refine wpAny_bind (wpAny_seqItems hb hbd (wpAny_pure ?_))
 rw [hc]
 refine wpAny_pure ?_
 have e3:((some cs.toArray).getD #[]).map reRawOf=(cs.map reRawOf).toArray:=by simp
 rw [e3]
 exact h
theorem run_end{k:Nat}{m m':Sre.M}{Q:Option Sre.M→Shared→Prop}(he:Rx.ends k m m')(hk:k<2 ^ 60)(h:match m'.outcome with|some .matched=>Q (some m') s|some .failed=>Q none s|_=>False):wpAny (model prog w) A (reRunToEnd m) Q E s:=by
 unfold reRunToEnd
 refine wpAny_bind (Rx.drive (2 ^ 64) k m m' _ he (by (exact le_trans (by assumption) (le_of_ble_eq_true rfl))) ?_)
 refine wpAny_bind (Rx.rules_in _ _ _ ?_ _)
 generalize m'.outcome=o at h
 match o,h with
 |some .matched,h=>exact wpAny_pure h
 |some .failed,h=>exact wpAny_pure h
theorem search_failed{a b:Addr}{x pat:Str}{t t1:Tok}{fl gr:Int}{t2 t3 t4:Tok}{cs:List Value}{o ob:Obj}{Q:Value→Shared→Prop}{k:Nat}{m':Sre.M}(ho:s.heap.get? a=some o)(hc:o.cls = .type "re.Pattern")(hd:o.data = .fields [.str pat t1,.int fl t2,.int gr t3,.none,.none,.ref b,.int 0 t4].toArray)(hb:s.heap.get? b=some ob)(hbd:ob.data = .seq cs.toArray 0)(hx:x.length<2 ^ 62)(he:Rx.ends k (Sre.forSearch ((cs.map reRawOf).toArray.map (·.toNat)) x.cps gr.toNat 0 x.cps.size false) m')(hk:k<2 ^ 60)(hm:m'.outcome=some .failed)(h:Q .none s):
  wpAny (model prog w) A (call (.builtin "re.Pattern.search") [.ref a,.str x t]) Q E s:=by
 refine call_slotB slot_search ⟨o,ho,hc⟩ entry_search (args_search _ _) ?_
 unfold Builtin.«re.Pattern.search»
 refine wpAny_bind (re_target ho hd hb hbd hx ?_)
 unfold reAnswer
 refine wpAny_bind (run_end he hk ?_)
 rw [hm]
 exact wpAny_pure ⟨_,rfl,h⟩
theorem search_found{a b:Addr}{x pat:Str}{t t1:Tok}{fl:Int}{t2 t3 t4:Tok}{cs:List Value}{o ob:Obj}{Q:Value→Shared→Prop}{k j n:Nat}{fi:Bool}{sn:Sre.Seen}(ho:s.heap.get? a=some o)(hc:o.cls = .type "re.Pattern")(hd:o.data = .fields [.str pat t1,.int fl t2,.int 0 t3,.none,.none,.ref b,.int 0 t4].toArray)(hb:s.heap.get? b=some ob)(hbd:ob.data = .seq cs.toArray 0)(hx:x.length<2 ^ 62)(he:Rx.ends k (Sre.forSearch ((cs.map reRawOf).toArray.map (·.toNat)) x.cps 0 0 x.cps.size false) (Rx.hitM x.cps j n fi sn))(hk:k<2 ^ 60)(h:Q (.ref (s.heap.objs.size+1)) {s with heap:=(s.heap.push {cls:=.type "tuple",data:=.seq [.int j 0,.int (j+n:Nat) 0].toArray}).push {cls:=.type "re.Match",data:=.fields [.str x t,.ref a,.int 0 0,.int x.cps.size 0,.int (-1) 0,.ref s.heap.objs.size].toArray}}):
  wpAny (model prog w) A (call (.builtin "re.Pattern.search") [.ref a,.str x t]) Q E s:=by
 refine call_slotB slot_search ⟨o,ho,hc⟩ entry_search (args_search _ _) ?_
 unfold Builtin.«re.Pattern.search»
 refine wpAny_bind (re_target ho hd hb hbd hx ?_)
 unfold reAnswer
 refine wpAny_bind (run_end he hk ?_)
 show wpAny _ _ (do ret (←reNewMatch (.ref a) (.str x t) 0 0 x.cps.size (Rx.hitM x.cps j n fi sn))) _ _ _
 unfold reNewMatch
 refine wpAny_bind ?_
 show wpAny _ _ (do
  newFields "re.Match" [.str x t,.ref a,rawInt 0,rawInt x.cps.size,rawInt (-1),←newTuple [rawInt j,rawInt (j+n:Nat)]]) _ _ _
 refine wpAny_bind (wpAny_newTuple ?_)
 unfold newFields
 refine wpAny_newObj_type ?_
 refine wpAny_pure ⟨_,rfl,?_⟩
 rw [Heap.size_push]
 exact h
theorem match_span{a c:Addr}{x y z p4 p5:Value}{i j:Int}{t:Tok}{o oc:Obj}{n:Nat}{Q:Value→Shared→Prop}(ho:s.heap.get? a=some o)(hc:o.cls = .type "re.Match")(hd:o.data = .fields [x,y,z,p4,p5,.ref c].toArray)(hb:s.heap.get? c=some oc)(hbd:oc.data = .seq [.int i 0,.int j 0].toArray n)(h:Q (.ref s.heap.objs.size) {s with heap:=s.heap.push {cls:=.type "tuple",data:=.seq [.int i s.toks,.int j (s.toks+1)].toArray},toks:=s.toks+2}):
  wpAny (model prog w) A (call (.builtin "re.Match.span") [.ref a,.int 0 t]) Q E s:=by
 refine call_slotB slot_span ⟨o,ho,hc⟩ entry_span (args_span _ _) ?_
 unfold Builtin.«re.Match.span» reOneGroup
 have e:selfAndSome "Match.span" "span" 0 1 ⟨[.ref a,.int 0 t],[]⟩=pure (.ref a,[.int 0 t]):=by kernel_rfl
 rw [e]
 refine wpAny_bind (wpAny_bind (wpAny_pure ?_))
 unfold reFound
 refine wpAny_bind (wpAny_bind (wpAny_fieldsOf ho hd ?_))
 refine wpAny_bind ?_
 show wpAny _ _ (reRawItems (.ref c)) _ _ _
 unfold reRawItems
 refine wpAny_bind (wpAny_seqItems hb hbd (wpAny_pure ?_))
 refine wpAny_pure ?_
 have e2:Array.map reRawOf ((some [Value.int i 0,Value.int j 0].toArray).getD #[]) = #[i,j]:=by simp [reRawOf]
 rw [e2]
 refine wpAny_bind ?_
 show wpAny _ _ (reGroupNumber _ (.int 0 t)) _ _ _
 unfold reGroupNumber
 refine wpAny_bind (wpAny_pure ?_)
 rw [if_pos (show (some (0:Int)).isSome=true from rfl)]
 refine wpAny_bind (wpAny_pure ?_)
 show wpAny _ _ (if (decide ((0:Int)<0) || decide (2*(0:Int)≥((#[i,j]:Array Int).size:Int)))=true then _ else pure (0:Int).toNat) _ _ _
 rw [if_neg (show ¬((decide ((0:Int)<0) || decide (2*(0:Int)≥((#[i,j]:Array Int).size:Int)))=true) from by simp)]
 refine wpAny_pure (wpAny_pure ?_)
 refine wpAny_bind (wpAny_mkInt (wpAny_bind (wpAny_mkInt ?_)))
 refine wpAny_bind (wpAny_newTuple ?_)
 exact wpAny_pure ⟨_,rfl,h⟩
theorem look_ga:typeLookup (.type "re.Match") "__getattribute__" = pure (some (.builtin "object.__getattribute__")):=by rw [typeLookup_type,builtinLookup_eq_fast];kernel_rfl
theorem slot_ga:Slot "re.Match" "__getattribute__" "object.__getattribute__" :=
 .of (owner:="object") (n:="__getattribute__") look_ga (by decide +kernel) (by decide +kernel) (by decide +kernel)
  (by first|exact .inl (by decide +kernel)|exact .inr (by decide +kernel)) (by rw [isSubtype_type];kernel_rfl)
theorem find_string(a:Addr):PySem.Builtin.ObjectAttr.find (.ref a) (.type "re.Match") "string" = (do rule "getattr.data-descriptor";pure (ObjectAttr.Found.bind (.builtin "member_descriptor.__get__") (.builtin "re.Match.string"))):=by
 kernel_rfl
theorem slot_mg:Slot "member_descriptor" "__get__" "member_descriptor.__get__" :=
 .of (owner:="member_descriptor") (n:="__get__") (by rw [typeLookup_type,builtinLookup_eq_fast];kernel_rfl) (by decide +kernel) (by decide +kernel) (by decide +kernel)
  (by first|exact .inl (by decide +kernel)|exact .inr (by decide +kernel)) (by rw [isSubtype_type];kernel_rfl)
theorem type_str:typeOf (.builtin "re.Match.string")=pure (.type "member_descriptor"):=by show builtinType _=_;rw [builtinType_eq_fast];kernel_rfl
theorem entry_mg:entryFor table "member_descriptor.__get__" = some Builtin.«member_descriptor.__get__» := entryFor_of_tree (by kernel_rfl)
theorem entry_str:entryFor table "re.Match.string" = some Builtin.«re.Match.string» := entryFor_of_tree (by kernel_rfl)
theorem entry_ga:entryFor table "object.__getattribute__" = some Builtin.«object.__getattribute__» := entryFor_of_tree (by kernel_rfl)
theorem args_mg(a b c:Value):argsOk "member_descriptor.__get__" ⟨[a,b,c],[]⟩:=by unfold argsOk;kernel_rfl
theorem args_ga(a b:Value):argsOk "object.__getattribute__" ⟨[a,b],[]⟩:=by unfold argsOk;kernel_rfl
theorem ms_get{a:Addr}{x y z p4 p5 p6:Value}{o:Obj}{Q:Value→Shared→Prop}(ho:s.heap.get? a=some o)(hc:o.cls = .type "re.Match")(hd:o.data = .fields [x,y,z,p4,p5,p6].toArray)(h:Q x s):wpAny (model prog w) A (call (.builtin "member_descriptor.__get__") [.builtin "re.Match.string",.ref a,.type "re.Match"]) Q E s:=by
 have hT:s.TypeIs (.ref a) "re.Match" := ⟨_,ho,hc⟩
 refine wpAny_call (codeAny_call_builtin slot_mg.plain entry_mg (slot_mg.check _ _ _ _ _ _ _ _ type_str (args_mg _ _ _) ?_))
 have e:Getset_descriptor.descrGetArgs ⟨[.builtin "re.Match.string",.ref a,.type "re.Match"],[]⟩=pure (.builtin "re.Match.string",some (.ref a),some (.type "re.Match")):=by kernel_rfl
 have e2:Getset_descriptor.descrNameAndClass (.builtin "re.Match.string")=pure (.ofString "string",.type "re.Match"):=by kernel_rfl
 have hs:isSubtype (.type "re.Match") (.type "re.Match")=pure true:=by rw [isSubtype_type];kernel_rfl
 unfold Builtin.«member_descriptor.__get__» Getset_descriptor.descrGet
 rw [e]
 refine wpAny_bind (wpAny_pure ?_)
 show wpAny _ _ (Getset_descriptor.descrGetter (.builtin "re.Match.string") (some (.ref a))) _ _ _
 unfold Getset_descriptor.descrGetter
 refine wpAny_bind ?_
 unfold Getset_descriptor.descrCheckInstance
 rw [e2]
 refine wpAny_bind (wpAny_pure ?_)
 refine wpAny_bind (wpAny_isInstance hT hs ?_)
 refine wpAny_pure ?_
 show wpAny _ _ (again (.builtin "re.Match.string" ⟨[.ref a],[]⟩)) _ _ _
 refine wpAny_pure ⟨plainId_quiet (by decide +kernel) _,?_⟩
 refine codeAny_builtin entry_str ?_
 unfold Builtin.«re.Match.string»
 refine wpAny_bind ?_
 show wpAny _ _ (field (.ref a) 0) _ _ _
 refine wpAny_field ho hd (x:=x) rfl ?_
 exact wpAny_pure h
theorem match_string{a:Addr}{x y z p4 p5 p6:Value}{o:Obj}{ex:Bool}{Q:Value→Shared→Prop}(ho:s.heap.get? a=some o)(hc:o.cls = .type "re.Match")(hd:o.data = .fields [x,y,z,p4,p5,p6].toArray)(hx:handedOut x=pure x)(h:∀tk,Q x {s with toks:=tk}):wpAny (model prog w) A (getAttr (.ref a) "string" ex) Q E s:=by
 have hT:∀tk',({s with toks:=tk'}:Shared).TypeIs (.ref a) "re.Match" := fun _=>⟨_,ho,hc⟩
 unfold getAttr
 refine wpAny_bind (wpAny_mkText ?_)
 unfold getAttrBy
 refine wpAny_holding ?_
 refine wpAny_bind (wpAny_typeOf (hT _) ?_)
 refine wpAny_bind (wpAny_of_eq look_ga ?_)
 show wpAny _ _ (getAttrByItsOwn _ _ _ _ _ _) _ _ _
 unfold getAttrByItsOwn
 refine wpAny_bind (wpAny_pure ?_)
 refine wpAny_bind (wpAny_attempt ?_)
 refine wpAny_holding ?_
 show wpAny _ _ (callGetattribute _ _ _ _) _ _ _
 have e1:∀nm,callGetattribute (.ref a) nm (.builtin "object.__getattribute__") ex=boundAndCalled (.builtin "object.__getattribute__") (.ref a) nm:=fun nm=>by
  unfold callGetattribute
  induction ex<;>rfl
 rw [e1]
 unfold boundAndCalled
 refine wpAny_bind (wpAny_of_eq (slot_ga.bind _) ?_)
 show wpAny _ _ (call (.builtin "object.__getattribute__") [.ref a,_]) _ _ _
 refine call_slotB slot_ga (hT _) entry_ga (args_ga _ _) ?_
 have e2:∀u,Builtin.«object.__getattribute__» ⟨[.ref a,.str "string" u],[]⟩=(do
   let tp ←typeOf (.ref a)
   match ←ObjectAttr.find (.ref a) tp "string" with
   |.value v=>ret v
   |.bind g a'=>ObjectAttr.bindTo g a' (.ref a) tp
   |.missing=>do
    if tp == .type "module" then
     if ←isOpaqueModuleObj (.ref a) then
      let byTheModulesOwnEntry:=match (←stack).drop 1 with
       |(.builtin "module.__getattribute__" ⟨m::_,_⟩,_)::_=>m==(.ref a)
       |_=>false
      if !byTheModulesOwnEntry then unsupported "thirdparty:object.__getattribute__:a-miss-on-an-opaque-module"
    if tp == .type "type" then
     if let some key ←opaqueClassAbove (.ref a) then unsupported s!"thirdparty:{key.toString}.{("string" : PySem.Str).toString}:object.__getattribute__-misses-on-an-opaque-class"
    ObjectAttr.noSuchAttribute (.ref a) "string"):=fun u=>rfl
 rw [e2]
 refine wpAny_bind (wpAny_typeOf ⟨_,ho,hc⟩ ?_)
 rw [find_string]
 refine wpAny_bind (wpAny_bind (wpAny_rule (wpAny_pure ?_)))
 show wpAny _ _ (ObjectAttr.bindTo (.builtin "member_descriptor.__get__") (.builtin "re.Match.string") (.ref a) (.type "re.Match")) _ _ _
 have e3:ObjectAttr.bindTo (.builtin "member_descriptor.__get__") (.builtin "re.Match.string") (.ref a) (.type "re.Match")=(do ret (←holding [.builtin "re.Match.string"] (call (.builtin "member_descriptor.__get__") [.builtin "re.Match.string",.ref a,.type "re.Match"]))):=rfl
 rw [e3]
 refine wpAny_bind (wpAny_holding (ms_get ho hc hd ?_))
 refine wpAny_pure ⟨_,rfl,?_⟩
 show wpAny _ _ (handedOut x) _ _ _
 rw [hx]
 exact wpAny_pure (h _)
theorem getm_search{a:Addr}{o:Obj}{pl:Sem Bool}{Q:Value×List Value→Shared→Prop}(ho:s.heap.get? a=some o)(hc:o.cls = .type "re.Pattern")(hdn:o.dict=none)(h:Q (.builtin "re.Pattern.search",[.ref a]) s):wpAny (model prog w) A (getMethod (.ref a) "search" pl) Q E s:=
 getMethod_builtin (T:="re.Pattern") ⟨o,ho,hc⟩ pa_pat slot_search type_search (fun b e=>by cases e;exact ⟨o,ho,hdn⟩) h
theorem getm_span{a:Addr}{o:Obj}{pl:Sem Bool}{Q:Value×List Value→Shared→Prop}(ho:s.heap.get? a=some o)(hc:o.cls = .type "re.Match")(hdn:o.dict=none)(h:Q (.builtin "re.Match.span",[.ref a]) s):wpAny (model prog w) A (getMethod (.ref a) "span" pl) Q E s:=
 getMethod_builtin (T:="re.Match") ⟨o,ho,hc⟩ pa_mat slot_span type_span (fun b e=>by cases e;exact ⟨o,ho,hdn⟩) h
end
end RF
section
variable {w:World}{A:Around}{E:Value→Shared→Prop}{s:Shared}{h₀:Heap}{L:Addr}{m:Str→Option Value}{news:List (Addr×Obj)}
open PySem.Builtin.Re
def zPy(x:Str):Prop:=∀i,Sre.isDigit (x.cps.getD i 0)=false
theorem code_55:(([Value.int 14 0,.int 8 0,.int 1 0,.int 2 0,.int 4294967295 0,.int 1 0,.int 1 0,.int 46 0,.int 0 0,.int 16 0,.int 46 0,.int 24 0,.int 9 0,.int 1 0,.int 4294967295 0,.int 13 0,.int 4 0,.int 8 0,.int 0 0,.int 0 0,.int 1 0,.int 6 0,.int 5 0,.int 1 0]:List Value).map reRawOf).map (·.toNat)=Rx.ipCode.toList:=by decide
end
section
variable {w:World}{A:Around}{E:Value→Shared→Prop}{s:Shared}{h₀:Heap}{L:Addr}{m:Str→Option Value}{news:List (Addr×Obj)}
open PySem.Builtin.Re
theorem zHe{cs:List Value}{c:Array Nat}(h:(cs.map reRawOf).map (·.toNat)=c.toList):(cs.map reRawOf).toArray.map (·.toNat)=c:=by
 rw [List.map_toArray,h]
theorem code_49:(([.int 14 0,.int 4 0,.int 0 0,.int 1 0,.int 4294967295 0,.int 24 0,.int 16 0,.int 1 0,.int 4294967295 0,.int 13 0,.int 11 0,.int 9 0,.int 0 0,.int 67071226 0,.int 3355443198 0,.int 1476395007 0,.int 0 0,.int 0 0,.int 0 0,.int 0 0,.int 0 0,.int 1 0,.int 1 0]:List Value).map reRawOf).map (·.toNat)=Rx.tokCode.toList:=by decide
theorem inK(X:(kW w.params).In h₀)(F:Fr h₀ L s.heap m):(kW w.params).In s.heap:=X.keeps F.keep
theorem zW0{pl:Sem Bool}{Q:Value×List Value→Shared→Prop}(F:Fr h₀ L s.heap m)(X:(kW w.params).In h₀)(h:Q (.builtin "re.Pattern.search",[.ref 55]) s):wpAny (model pw w) A (getMethod (.ref 55) "search" pl) Q E s:=
 RF.getm_search (inK X F _ _ rfl) rfl rfl h
theorem zVz{pl:Sem Bool}{Q:Value×List Value→Shared→Prop}(F:Fr h₀ L s.heap m)(X:(kW w.params).In h₀)(h:Q (.builtin "re.Pattern.search",[.ref 50]) s):wpAny (model pw w) A (getMethod (.ref 50) "search" pl) Q E s:=
 RF.getm_search (inK X F _ _ rfl) rfl rfl h
theorem zP9{x:Str}{t:Tok}{Q:Value→Shared→Prop}(F:Fr h₀ L s.heap m)(X:(kW w.params).In h₀)(hx:x.length≤100000)(hd:zPy x)(h:Q .none s):wpAny (model pw w) A (call (.builtin "re.Pattern.search") [.ref 55,.str x t]) Q E s:=by
 obtain ⟨k,m',hk,he,hm⟩:=Rx.search_ip x.cps hd
 have hl:x.cps.size≤100000:=hx
 refine RF.search_failed (k:=k) (m':=m') (inK X F 55 _ rfl) rfl rfl (inK X F 54 _ rfl) rfl (lt_of_le_of_lt hx (by decide)) ?_ (by omega) hm h
 rw [zHe code_55]
 exact he
theorem zG4{x:Str}{t:Tok}{Q:Value→Shared→Prop}(F:Fr h₀ L s.heap m)(X:(kW w.params).In h₀)(hx:x.length≤100000)(hd:∀i,i<x.cps.size→Rx.tok (x.cps.getD i 0)=false)(h:Q .none s):wpAny (model pw w) A (call (.builtin "re.Pattern.search") [.ref 50,.str x t]) Q E s:=by
 obtain ⟨m',hh⟩:=Rx.search_none x.cps hd
 have hl:x.cps.size≤100000:=hx
 rcases hh with ⟨he,hm⟩|⟨he,hm⟩
 ·refine RF.search_failed (k:=_) (m':=m') (inK X F 50 _ rfl) rfl rfl (inK X F 49 _ rfl) rfl (lt_of_le_of_lt hx (by decide)) ?_ (show 2*x.cps.size+3<2 ^ 60 by omega) hm h
  rw [zHe code_49]
  exact he
 ·refine RF.search_failed (k:=1) (m':=m') (inK X F 50 _ rfl) rfl rfl (inK X F 49 _ rfl) rfl (lt_of_le_of_lt hx (by decide)) ?_ (by decide) hm h
  rw [zHe code_49]
  exact he
end
noncomputable def zBz(x:Str):Str:=if 0≤Txt.find x (.ofString ".") then (if 0≤Txt.find (Txt.slice x (some (Txt.find x (.ofString ".")+1)) none) (.ofString ".")∨(Txt.slice x (some (Txt.find x (.ofString ".")+1)) none == .ofString "local")=true then (.ofString "." : Str)++Txt.slice x (some (Txt.find x (.ofString ".")+1)) none else x) else x
section
variable {w:World}{A:Around}{E:Value→Shared→Prop}{s:Shared}{h₀:Heap}{L:Addr}{m:Str→Option Value}{news:List (Addr×Obj)}{prog:Program}
noncomputable abbrev zLj(x:Str)(t:Tok)(sz:Int)(c:Addr):Obj:={cls:=.type "re.Match",data:=.fields [.str x t,.ref 50,.int 0 0,.int sz 0,.int (-1) 0,.ref c].toArray}
noncomputable abbrev tup2(v u:Value)(n:Nat):Obj:={cls:=.type "tuple",data:=.seq [v,u].toArray n}
theorem yAr{a c:Addr}{x:Str}{t u:Tok}{sz i j:Int}{n:Nat}{Q:Value→Shared→Prop}(F:Fr h₀ L s.heap m)(N:News h₀ L s.heap news)(hm:(a,zLj x t sz c)∈news)(hc:(c,tup2 (.int i 0) (.int j 0) n)∈news)(h:∀q h' tk t1 t2,Fr h₀ L h' m→News h₀ L h' ((q,tup2 (.int i t1) (.int j t2) 0)::news)→(∀p∈news,p.1<q)→Q (.ref q) {s with heap:=h',toks:=tk}):wpAny (model prog w) A (call (.builtin "re.Match.span") [.ref a,.int 0 u]) Q E s:=
 RF.match_span (N.get hm) rfl rfl (N.get hc) rfl (h _ _ _ _ _ (F.push _) (N.push F _) fun p hp=>Heap.lt_size (N p hp).1)
theorem zZ7{a c:Addr}{x:Str}{t:Tok}{sz:Int}{pl:Sem Bool}{Q:Value×List Value→Shared→Prop}(N:News h₀ L s.heap news)(hm:(a,zLj x t sz c)∈news)(h:Q (.builtin "re.Match.span",[.ref a]) s):wpAny (model prog w) A (getMethod (.ref a) "span" pl) Q E s:=
 RF.getm_span (N.get hm) rfl rfl h
theorem yCu{a c:Addr}{x:Str}{t:Tok}{sz:Int}{ex:Bool}{Q:Value→Shared→Prop}(N:News h₀ L s.heap news)(hm:(a,zLj x t sz c)∈news)(h:∀tk,Q (.str x t) {s with toks:=tk}):wpAny (model prog w) A (getAttr (.ref a) "string" ex) Q E s:=
 RF.match_string (N.get hm) rfl rfl rfl h
end
theorem zMj{h:Heap}{P:Params}(X:(kW P).In h):CodeHd h 228 224:=⟨_,_,_,_,_,_,_,_,_,X 228 _ rfl,rfl,rfl,rfl,rfl,rfl,rfl,rfl,rfl,by decide⟩
theorem zMk{h:Heap}{P:Params}(X:(kW P).In h):CodeHd h 235 231:=⟨_,_,_,_,_,_,_,_,_,X 235 _ rfl,rfl,rfl,rfl,rfl,rfl,rfl,rfl,rfl,by decide⟩
theorem zKk(n:Nat):passing (fun _=>true) n 0=List.range n:=by
 unfold passing
 rw [List.drop_zero,List.filter_eq_self.mpr (fun _ _=>rfl)]
theorem News.moved{s s':Shared}{wr:List Addr}{G:Array GenState→Array GenState→Prop}{h₀:Heap}{L K:Addr}{news:List (Addr×Obj)}(N:News h₀ L s.heap news)(hm:Moved wr G s s')(hwr:∀b∈wr,K<b)(hK:∀p∈news,p.1≤K):News h₀ L s'.heap news:=
 fun p hp=>⟨hm.heap _ _ (fun hb=>absurd (hK p hp) (Nat.not_le_of_lt (hwr _ hb))) (N p hp).1,(N p hp).2⟩
inductive Parts(news:List (Addr×Obj)):List Value→List (Str×Str)→Prop
 |nil:Parts news [] []
 |cons {q:Addr} {x y:Str} {tx ty:Tok} {vs:List Value} {ps:List (Str×Str)} (hq:(q,tup2 (.str x tx) (.str y ty) 0)∈news) (h:Parts news vs ps):Parts news (.ref q::vs) ((x,y)::ps)
theorem Parts.length{news:List (Addr×Obj)}{vs:List Value}{ps:List (Str×Str)}(h:Parts news vs ps):vs.length=ps.length:=by
 induction h with
 |nil=>rfl
 |cons _ _ ih=>exact congrArg (· + 1) ih
theorem Parts.at{news:List (Addr×Obj)}{vs:List Value}{ps:List (Str×Str)}(h:Parts news vs ps):∀j,j<vs.length→∃q tx ty p,vs[j]? = some (.ref q)∧ps[j]? = some p∧(q,tup2 (.str p.1 tx) (.str p.2 ty) 0)∈news:=by
 induction h with
 |nil=>intro j hj;exact absurd hj (not_lt_zero _)
 |cons hq _ ih=>
  intro j hj
  induction j with
  |zero=>exact ⟨_,_,_,_,rfl,rfl,hq⟩
  |succ j=>obtain ⟨q,tx,ty,p',a,b,c⟩:=ih j (Nat.lt_of_succ_lt_succ hj);exact ⟨q,tx,ty,p',a,b,c⟩
section
variable {w:World}{A:Around}{E:Value→Shared→Prop}{s:Shared}{h₀:Heap}{L a d c P:Addr}{m mg mb:Str→Option Value}{news:List (Addr×Obj)}{vs:List Value}{n:Nat}{k:Value}{tk:Tok}{p:Program}{loose:List Str}{mean:ExcName→Option Value}{env:Env}{ps:Array Value}{g:Obj→List (Addr×Obj)}
theorem zV1{elt iter:Expr}{xa xb:Str}{pa pb pt:Pos}{kt:Nat}{scope:Scope}{pos:Pos}{Q:Value→Shared→Prop}(va vb:Nat→Value)(V:Nat→Value→Prop)(Ts:Nat→Addr)(F:Fr h₀ L s.heap m)(X:(kW w.params).In h₀)(N:News h₀ L s.heap news)(T:Top p loose mean mg mb h₀)(G:AllBare s.gens)(hg:env.globals=mainGlobals)(hcode:env.code = .ref c)(hcd:CodeHd h₀ c P)(U:UpdF P (tabObj ps) news g)(hps:TabOk pos ps)(hh:A.handled=none)(hroom:A.depth<recursionLimit)(hco:scope.isCoroutine=false)(hfree:∀x∈scope.names,x.2≠.free)(hcell:∀y∈scope.names,y.2≠.cell)(h0:scope.names.lookup (".0" : Str)=some NameKind.local)(hxa:scope.names.lookup xa=some .local)(hxb:scope.names.lookup xb=some .local)(hab:xa≠xb)(hkind:scope.kind = .function)(hs:∀x,genFold iter env x=pure x)(hit:wpAny (model pw w) A (eval iter env) (fun v s'=>v = .ref a∧s'=s) E s)(ha:(a,accO d vs n)∈news)(hd:(d,zGb w.params k tk)∈news)(hv:∀j,j<vs.length→vs[j]? = some (.ref (Ts j))∧(Ts j,tup2 (va j) (vb j) 0)∈news)(helt:∀(A':Around) E' (C c':Addr) (t:Shared) m₂ j,A'.handled=none→j<vs.length→Fr h₀ C t.heap m₂→m₂ xa=some (va j)→m₂ xb=some (vb j)→
   wpAny (model pw w) A' (eval elt (zHr scope C c' (env.qual++"<genexpr>."))) (fun y s₃=>V j y∧Keeps t s₃) E' t)(hQ:∀h' tk' gs' q ps' K,Fr h₀ L h' m→News h₀ L h' (g (tabObj ps'))→TabOk pos ps'→AllBare gs'→L≤K→(∀p∈g (tabObj ps'),p.1≤K)→K<h'.objs.size→Gen pw w A K q vs.length (fun j y=>∃i,(List.range vs.length)[j]? = some i∧V i y) {s with heap:=h',toks:=tk',gens:=gs'}→Q (.ref q) {s with heap:=h',toks:=tk',gens:=gs'}):
  wpAny (model pw w) A (eval (.GeneratorExp elt [⟨.Tuple [.Name xa pa,.Name xb pb] kt pt,iter,[],0⟩] scope pos) env) Q E s:=by
 refine wpAny_GeneratorExp_walksQT hh hco (closureFor_none hfree) hcell h0 hxa hxb hab hkind hroom (wpAny_mono hit (fun xv s₁ h₁=>?_) fun _ _ e=>e) hs
 obtain ⟨rfl,rfl⟩:=h₁
 have I:=zAh N ha hd
 refine zMb (X.keeps F.keep) I ?_
 have alt:a<s₁.heap.objs.size:=Heap.lt_size (N _ ha).1
 have hPn:=N _ (zA2 U)
 have Plt:P<s₁.heap.objs.size:=Heap.lt_size hPn.1
 have F₂:=F.push ({cls:=.type "list_iterator",data:=.fields #[.ref a,.int 0 0]}:Obj)
 have N₂:=N.push F ({cls:=.type "list_iterator",data:=.fields #[.ref a,.int 0 0]}:Obj)
 have N₂':News h₀ L (s₁.heap.push {cls:=.type "list_iterator",data:=.fields #[.ref a,.int 0 0]}) news:=fun p hp=>N₂ p (.tail _ hp)
 refine ⟨(T.nolimit.keeps F.keep).push _,zOj (s:={s₁ with heap:=s₁.heap.push _}) F₂ N₂' hcode hcd U hps fun c' ps' h₃ tk₃ hps' F₃ N₃ hsz₃ hx₃=>?_⟩
 obtain ⟨bm,ob,b1,b2,b3,b4,b5,b6⟩:=T.bmain
 rw [hg]
 refine wpAny_builtinsFor (T.g.keeps F₃.keep) b1 b2 (F₃.keep _ _ b3) b4 b5 b6 ?_
 have hPa:a≠P:=fun e=>by
  have:=(N _ ha).1
  rw [e,hPn.1] at this
  cases this
 have hPT:∀j,j<vs.length→Ts j≠P:=fun j hj e=>by
  have:=(N _ (hv j hj).2).1
  rw [e,hPn.1] at this
  cases this
 have Tlt:∀j,j<vs.length→Ts j<s₁.heap.objs.size:=fun j hj=>Heap.lt_size (N _ (hv j hj).2).1
 have sz2:s₁.heap.objs.size+1≤h₃.objs.size:=by rw [Heap.size_push] at hsz₃;exact hsz₃
 have keep₃:∀p∈news,p.1≠P→h₃.get? p.1=some p.2:=fun p hp hne=>hx₃ _ _ hne (N₂' p hp).1
 have Llt:L<s₁.heap.objs.size:=F.ns.lt
 refine ⟨s₁.heap.objs.size,s₁.heap.objs.size::a::(List.range vs.length).map Ts,[s₁.heap.objs.size],vs.length,fun j v=>j<vs.length∧v = #[va j,vb j],_,_,fun _=>true,V,rfl,
  (fun A' hA=>zNs hA s₁.heap.objs.size a (ne_of_lt alt) vs.toArray Ts (fun j=>#[va j,vb j]) (fun j hj=>by simpa using (hv j (by simpa using hj)).1) (fun j hj=>ne_of_lt (Tlt j (by simpa using hj)))),(fun i vals e=>⟨_,_,e.2⟩),?_,?_,?_,?_,?_,?_⟩
 ·refine ⟨⟨_,hx₃ _ _ (ne_of_gt Plt) (Heap.get?_push_size _ rfl),rfl,rfl⟩,⟨_,n,keep₃ _ ha hPa,rfl⟩,fun j hj=>?_⟩
  have hj':j<vs.length:=by simpa using hj
  exact ⟨_,keep₃ _ (hv j hj').2 (hPT j hj'),rfl,_,rfl⟩
 ·intro b hb
  rcases mem_cons.mp hb with rfl|hb
  ·exact sz2
  ·rcases mem_cons.mp hb with rfl|hb
   ·exact lt_of_lt_of_le alt (le_trans (le_succ _) sz2)
   ·obtain ⟨j,hj,rfl⟩:=mem_map.mp hb
    exact lt_of_lt_of_le (Tlt j (by simpa using mem_range.mp hj)) (le_trans (le_succ _) sz2)
 ·exact T.nolimit.keeps F₃.keep
 ·intro hm
  have e:cStatics=s₁.heap.objs.size:=by simpa using hm
  obtain ⟨_,hn,_⟩:=T.nolimit.keeps F.keep
  exact absurd hn.lt (by rw [e];exact lt_irrefl _)
 ·intro href hhref
  have inB:∀(t:Shared) (m₂:Str→Option Value),t.heap.Ns h₃.objs.size m₂→(∀b∈List.range h₃.objs.size,b∉[s₁.heap.objs.size]→∀o,href.get? b=some o→t.heap.get? b=some o)→Fr h₀ h₃.objs.size t.heap m₂:=fun t m₂ hn hkp=>
   ⟨hn,fun b o e=>hkp b (mem_range.mpr (Heap.lt_size (F₃.keep b o e))) (fun hm=>by
     have e':b=s₁.heap.objs.size:=by simpa using hm
     exact absurd (Heap.lt_size (F.keep b o e)) (by rw [e'];exact lt_irrefl _)) o (hhref b o (F₃.keep b o e)),
    le_trans F₃.above (le_of_lt F₃.ns.lt)⟩
  have eE:genEnv scope [] h₃.objs.size (.ref c') builtinsNs env=zHr scope h₃.objs.size c' (env.qual++"<genexpr>."):=by unfold genEnv;rw [hg]
  rw [eE]
  exact ⟨fun A' E' i va' vb' t m₂ hA hP hn hma hmb hkp=>wpAny_tests_nil ⟨rfl,t.heap,t.toks,rfl,fun _ _ e=>e⟩,
   fun A' E' i va' vb' t m₂ hA hP _ hn hma hmb hkp=>by
    have e1:va'=va i:=by have:=congrArg (·[0]?) hP.2;simpa using this
    have e2:vb'=vb i:=by have:=congrArg (·[1]?) hP.2;simpa using this
    subst e1 e2
    exact helt A' E' _ _ t m₂ i hA hP.1 (inB t m₂ hn hkp) hma hmb⟩
 ·intro q h₅ tk gs hgb hag hsz₅ hk₅ W hat
  simp -iota only [zKk] at W
  rw [length_range] at W
  have gk:∀p∈g (tabObj ps'),p.1≤s₁.heap.objs.size-1:=fun p hp=>by
   rcases updF_off U _ p hp with e|e
   ·rw [e];exact Nat.le_sub_one_of_lt Plt
   ·exact Nat.le_sub_one_of_lt (Heap.lt_size (N p e).1)
  refine hQ h₅ tk _ q ps' (s₁.heap.objs.size-1) (F₃.keeps hk₅) (fun p hp=>⟨hk₅ _ _ (N₃ p hp).1,(N₃ p hp).2⟩) hps' (G.push hgb) (Nat.le_sub_one_of_lt Llt) gk (by rw [hsz₅];exact lt_succ_of_lt (lt_trans (lt_of_lt_of_le (Nat.sub_lt (lt_of_le_of_lt (zero_le _) Llt) Nat.one_pos) (le_trans (le_succ _) sz2)) hag)) ⟨_,_,_,_,W,hat,fun i s' st=>st.1.typeIs,List.mem_cons_self,?_,?_⟩
  ·intro b hb
   show b<h₅.objs.size
   rw [hsz₅]
   rcases mem_cons.mp hb with rfl|hb
   ·exact lt_succ_self _
   ·rcases mem_cons.mp hb with rfl|hb
    ·exact lt_succ_of_lt hag
    ·exact lt_succ_of_lt (lt_trans (mem_range.mp hb) hag)
  ·intro b hb
   rcases mem_cons.mp hb with rfl|hb
   ·exact lt_of_le_of_lt (Nat.sub_le _ _) (lt_of_lt_of_le (lt_succ_self _) sz2)
   ·have:b=s₁.heap.objs.size:=by simpa using hb
    rw [this]
    exact Nat.sub_lt (lt_of_le_of_lt (zero_le _) Llt) Nat.one_pos
theorem zO3(a b:Value):argsOk "sum" ⟨[a,b],[]⟩:=by unfold argsOk;kernel_rfl
theorem yDv{A:Around}{I:Addr}{fp wr:List Addr}{G:Array GenState→Array GenState→Prop}{n:Nat}{P:Nat→Value→Prop}{St:Nat→Shared→Prop}(W:WalksS pw w A I fp wr G n P St):
  WalksS pw w A I fp wr G (n+1) (fun j v=>0<j∧P (j-1) v) (fun j s=>0<j∧St (j-1) s) where
 sub:=W.sub
 grefl:=W.grefl
 gtrans:=W.gtrans
 frame:=fun i s h' tk st ht hk=>⟨st.1,W.frame _ s h' tk st.2 ht hk⟩
 item:=fun i s Q E hi st hQ=>by
  have e:i-1+1=i:=by have:=st.1;lia
  exact W.item (i-1) s Q E (by have:=st.1;lia) st.2 fun v s' hP hst hm=>hQ v s' ⟨st.1,hP⟩ ⟨Nat.succ_pos _,by show St (i+1-1) s';rw [Nat.add_sub_cancel];rw [e] at hst;exact hst⟩ hm
 done:=fun s Q E st hQ=>W.done s Q E st.2 hQ
 self:=fun i s Q E st hQ=>W.self _ s Q E st.2 hQ
noncomputable def zVu(k:Int)(val:Nat→Int)(j:Nat):Int:=match j with|0=>k|j+1=>val j
theorem zCc(k:Int)(val:Nat→Int):∀j,preSum (zVu k val) (j+1)=k+preSum val j
 |0=>by show 0+k=k+0;lia
 |j+1=>by
  have:=zCc k val j
  show preSum (zVu k val) (j+1)+val j=k+(preSum val j+val j)
  lia
theorem zR6{a':Addr}{nn K:Nat}{V:Nat→Value→Prop}{Q:Value→Shared→Prop}{k:Int}{tk:Tok}(Fh:Fr h₀ L s.heap m)(N:News h₀ L s.heap news)(G:AllBare s.gens)(hLK:L≤K)(hK:∀p∈news,p.1≤K)(hKs:K<s.heap.objs.size)(Y:Gen pw w A K a' nn V s)(val:Nat→Int)(hval:∀j v,V j v→∃t,v = .int (val j) t)(hk:InLong k)(hfit:∀j,j<nn→InLong (val j)∧InLong (k+preSum val (j+1)))(hQ:∀h' tk' gs' t',Fr h₀ L h' m→News h₀ L h' news→AllBare gs'→Q (.int (k+preSum val nn) t') {s with heap:=h',toks:=tk',gens:=gs'}):wpAny (model pw w) A (call (.builtin "sum") [.ref a',.int k tk]) Q E s:=by
 obtain ⟨fp,wr,g,St,W,hst,_,_,hfp,hwr⟩:=Y
 have W:=W.in4_1
 refine call_function_tree F.kind_sum F.plain_sum F.entry_sum (zO3 _ _) ?_
 unfold Builtin.«sum»
 simp -iota only [length_cons,List.length_nil]
 rw [if_neg (by decide)]
 refine wpAny_bind (wpAny_of_eq (show Builtin.Builtins.bindParams "sum" ["start"] 0 ⟨[.int k tk],[]⟩=pure [some (.int k tk)] from rfl) ?_)
 refine wpAny_bind (W.self 0 _ _ _ hst ?_)
 have hfl:(decide (-(2 ^ 63)≤k)&&decide (k<2 ^ 63))=true:=Bool.and_eq_true_iff.mpr ⟨decide_eq_true hk.1,decide_eq_true hk.2⟩
 dsimp only
 rw [if_pos ?hc]
 case hc=>exact hfl
 refine wpAny_bind (wpAny_rule (wpAny_bind (wpAny_mkInt (wpAny_bind (wpAny_pure ?_)))))
 simp -iota only [List.forIn_cons,List.forIn_nil]
 refine wpAny_bind (wpAny_bind (wpAny_bind (wpAny_isInstance (T:="int") (b:=false) (typeIs_int _ _ _) PySem.sub_int_str ?_)))
 simp -iota only [false_eq_true,if_false]
 refine wpAny_pure (wpAny_bind (wpAny_bind (wpAny_isInstance (T:="int") (b:=false) (typeIs_int _ _ _) PySem.sub_int_bytes ?_)))
 simp -iota only [false_eq_true,if_false]
 refine wpAny_pure (wpAny_bind (wpAny_bind (wpAny_isInstance (T:="int") (b:=false) (typeIs_int _ _ _) PySem.sub_int_bytearray ?_)))
 simp -iota only [false_eq_true,if_false]
 refine wpAny_pure (wpAny_pure ?_)
 refine wpAny_bind (wpAny_newObj_type ?_)
 have hSf:s.heap.objs.size∉fp:=fun hm=>lt_irrefl _ (hfp _ hm)
 refine wpAny_pure ⟨plainId_quiet F.plain_sum_loop _,codeAny_sum_loopS (yDv W) (zVu k val) ?_ ?_ s.heap.objs.size hSf nn 1 _ s.toks 0 (by rfl) (by lia)
  ⟨Nat.one_pos,W.frame 0 s _ _ hst (by first|exact le_refl _|exact le_succ _|omega) fun b _ o e=>Heap.get?_push_of_some _ e⟩ ?_ fun s' t' hm=>?_⟩
 ·intro i v h
  induction i with
  |zero=>exact absurd h.1 (lt_irrefl _)
  |succ i=>exact hval i v h.2
 ·intro j hj
  rw [zCc]
  induction j with
  |zero=>exact ⟨hk,by show InLong (k+0);rw [Int.add_zero];exact hk⟩
  |succ j=>exact hfit j (Nat.lt_of_succ_lt_succ hj)
 ·rw [Heap.get?_push_size _ rfl,zCc]
  show some _=some _
  have e:k+preSum val 0=k:=Int.add_zero k
  rw [e]
 ·have hwr':∀b∈s.heap.objs.size::wr,K<b:=fun b hb=>by
   rcases mem_cons.mp hb with rfl|hb
   ·exact hKs
   ·exact hwr b hb
  rw [zCc]
  have Fp:=Fh.push ({cls:=.type "list",data:=.seq #[Value.int k s.toks]}:Obj)
  have Np:News h₀ L (s.heap.push {cls:=.type "list",data:=.seq #[Value.int k s.toks]}) news:=have:=N.push Fh ({cls:=.type "list",data:=.seq #[Value.int k s.toks]}:Obj);fun p hp=>this p (.tail _ hp)
  have q:=hQ s'.heap s'.toks s'.gens t' (Fr.moved (s:={s with heap:=s.heap.push _,toks:=s.toks+1}) Fp hm fun b hb=>lt_of_le_of_lt hLK (hwr' b hb)) (News.moved (s:={s with heap:=s.heap.push _,toks:=s.toks+1}) Np hm hwr' hK) (AllBare.movedS (s:={s with heap:=s.heap.push _,toks:=s.toks+1}) G hm)
  have e1:=hm.drawn
  have e2:=hm.os
  induction s' with
  |mk a b c d e=>subst e1;subst e2;exact q
theorem zMz{a':Addr}{nn K:Nat}{V:Nat→Value→Prop}{Q:Value→Shared→Prop}{sep:Str}{ts:Tok}(Fh:Fr h₀ L s.heap m)(N:News h₀ L s.heap news)(G:AllBare s.gens)(hLK:L≤K)(hK:∀p∈news,p.1≤K)(Y:Gen pw w A K a' nn V s)(tx:Nat→Str)(htx:∀j v,V j v→∃u,v = .str (tx j) u)(hok:JoinOk sep ((List.range nn).map tx)=true)(hsz:nn≤sizeLine)(hQ:∀h' tk' gs' t',Fr h₀ L h' m→News h₀ L h' news→AllBare gs'→Q (.str (Txt.join sep ((List.range nn).map tx)) t') {s with heap:=h',toks:=tk',gens:=gs'}):wpAny (model pw w) A (call (.builtin "str.join") [.str sep ts,.ref a']) Q E s:=by
 obtain ⟨fp,wr,g,St,W,hst,hT,ha,hfp,hwr⟩:=Y
 have W:=W.in4_2
 refine SC.joinGen W hT hst hfp ha (fun j v hv=>let ⟨u,e⟩:=htx j v hv;⟨_,u,e⟩) (fun s' lt hm hacc=>?_) hsz
 have hl:lt.map (·.1)=(List.range nn).map tx:=by
  apply ext_getElem?
  intro j
  have hsz:lt.length=nn:=by simpa [strValues] using hacc.1
  by_cases hj:j<nn
  ·have hj':j<lt.length:=hsz▸hj
   obtain ⟨u,hv⟩:=htx j _ (hacc.2 j (.str lt[j].1 lt[j].2) (by simp [strValues,getElem?_eq_getElem hj']))
   injection hv with h1 _
   simp [getElem?_eq_getElem hj',hj,h1]
  ·rw [getElem?_eq_none (by simpa [hsz] using le_of_not_lt hj),getElem?_eq_none (by simpa using le_of_not_lt hj)]
 rw [hl]
 have f1:=Fh.moved hm fun b hb=>lt_of_le_of_lt hLK (hwr b hb)
 have n1:=Mine.News.moved N hm hwr hK
 have g1:=G.movedS hm
 have e1:=hm.drawn
 have e2:=hm.os
 refine ⟨hok,fun t' k=>?_⟩
 have q:=hQ s'.heap k s'.gens t' f1 n1 g1
 induction s' with
 |mk a b c d e=>subst e1;subst e2;exact q
end
theorem Parts.fns{news:List (Addr×Obj)}{vs:List Value}{ps:List (Str×Str)}(h:Parts news vs ps):∃(Ts:Nat→Addr) (tx ty:Nat→Tok),∀j,j<vs.length→vs[j]? = some (.ref (Ts j))∧(Ts j,tup2 (.str (ps.getD j default).1 (tx j)) (.str (ps.getD j default).2 (ty j)) 0)∈news:=by
 have e:∀j,∃y:Addr×Tok×Tok,j<vs.length→vs[j]? = some (.ref y.1)∧(y.1,tup2 (.str (ps.getD j default).1 y.2.1) (.str (ps.getD j default).2 y.2.2) 0)∈news:=fun j=>by
  by_cases hj:j<vs.length
  ·obtain ⟨q,tx,ty,p,a,b,c⟩:=h.at j hj
   refine ⟨(q,tx,ty),fun _=>⟨a,?_⟩⟩
   rw [getD_eq_getElem?_getD,b]
   exact c
  ·exact ⟨(0,0,0),fun h=>absurd h hj⟩
 obtain ⟨f,hf⟩:=Classical.skolem.mp e
 exact ⟨fun j=>(f j).1,fun j=>(f j).2.1,fun j=>(f j).2.2,hf⟩
theorem zP2{prog:Program}{w:World}{A:Around}{K q n t:Nat}{V:Nat→Value→Prop}{s:Shared}(Y:Gen prog w A K q n V s)(h:s.toks≤t):Gen prog w A K q n V {s with toks:=t}:=
 let ⟨fp,wr,g,St,W,hst,a,b,c,d⟩:=Y;⟨fp,wr,g,St,W,W.frame 0 s s.heap t hst h fun _ _ _ e=>e,a,b,c,d⟩
theorem N_inj{h₀ h:Heap}{L a:Addr}{o o':Obj}{news:List (Addr×Obj)}(N:News h₀ L h news)(h1:(a,o)∈news)(h2:(a,o')∈news):o=o':=by
 have e1:=(N _ h1).1
 have e2:=(N _ h2).1
 exact Option.some.inj (e1.symm.trans e2)
theorem zV3{h₀ h:Heap}{L a d:Addr}{vs:List Value}{n:Nat}{ps:Array Value}{P:Addr}{news:List (Addr×Obj)}(N:News h₀ L h news)(h1:(a,accO d vs n)∈news)(h2:(P,tabObj ps)∈news):a≠P:=fun e=>by
 subst e
 exact nomatch N_inj N h1 h2
theorem zSd{h₀ h:Heap}{L a:Addr}{es:List DictEntry}{n:Nat}{ps:Array Value}{P:Addr}{news:List (Addr×Obj)}(N:News h₀ L h news)(h1:(a,dictOf es n)∈news)(h2:(P,tabObj ps)∈news):a≠P:=fun e=>by
 subst e
 exact nomatch N_inj N h1 h2
noncomputable def zWu(p:Str×Str):Nat:=p.1.length+p.2.length
noncomputable def tlen(ps:List (Str×Str)):Nat:=(ps.map zWu).sum
noncomputable def zXj(p:Str×Str):Str:=p.1++p.2
noncomputable def zBe(ps:List (Str×Str)):Str:=Txt.join (Str.ofString "") (ps.map zXj)
def zBq(ps:List (Str×Str)):Prop:=ps.length≤1000∧∀p∈ps,p.1.length≤100∧p.2.length≤100
theorem zJm:∀(f:Nat→Int) (n j:Nat),(∀i,i<n→0≤f i∧f i≤200)→j≤n→0≤preSum f j∧preSum f j≤200*(j:Int)
 |f,n,0,_,_=>⟨Int.le_refl _,by simp [preSum]⟩
 |f,n,j+1,h,hj=>by
  have a:=zJm f n j h (Nat.le_of_succ_le hj)
  have b:=h j hj
  constructor
  ·show 0≤preSum f j+f j
   omega
  ·show preSum f j+f j≤_
   push_cast
   omega
theorem zH0:∀(ps:List (Str×Str)) (j:Nat),j≤ps.length→preSum (fun i=>((ps.getD i default).1.length:Int)+((ps.getD i default).2.length:Int)) j=(((ps.take j).map zWu).sum:Nat)
 |ps,0,_=>by simp [preSum]
 |ps,j+1,h=>by
  have a:=zH0 ps j (Nat.le_of_succ_le h)
  have hj:j<ps.length:=h
  show preSum _ j+_=_
  rw [a,take_add_one,map_append,List.sum_append,getElem?_eq_getElem hj]
  simp [zWu,hj]
theorem zQn{α β:Type}[Inhabited α](f:α→β)(l:List α):(List.range l.length).map (fun i=>f (l.getD i default))=l.map f:=by
 apply ext_getElem?
 intro j
 by_cases hj:j<l.length
 ·simp [hj]
 ·simp [hj]
theorem zI4(ps:List (Str×Str)):((ps.map zXj).map (·.length)).sum=tlen ps:=by
 unfold tlen
 rw [map_map]
 congr 1
 apply map_congr_left
 intro p _
 exact Str.length_append _ _
theorem zG3{ps:List (Str×Str)}(h:zBq ps):tlen ps≤200000:=by
 have:∀l:List (Str×Str),(∀p∈l,p.1.length≤100∧p.2.length≤100)→tlen l≤200*l.length:=by
  intro l
  induction l with
  |nil=>intro _;exact zero_le _
  |cons p r ih=>
   intro hl
   have a:=ih fun q hq=>hl q (.tail _ hq)
   have b:=hl p (.head _)
   unfold tlen at a ⊢
   simp only [map_cons,sum_cons,length_cons,zWu] at a ⊢
   omega
 have a:=this ps h.2
 have b:=h.1
 omega
noncomputable def zDf:Pos:={line:=169,col:=19,endLine:=169,endCol:=63}
noncomputable def zDh:Pos:={line:=172,col:=32,endLine:=172,endCol:=88}
noncomputable def zWj(k:Int)(ps:List (Str×Str)):Bool:=decide (k=0)&&(decide (tlen ps=0) || Txt.isspace (zBe ps))
theorem zXa{ps:List (Str×Str)}(h:zBq ps):(zBe ps).length≤200000:=by
 have a:=zG3 h
 have b:=StrLaws.join_length_le (Str.ofString "") (ps.map zXj)
 have e0:(Str.ofString "").length=0:=by decide
 rw [zI4,e0,Nat.mul_zero,add_zero] at b
 have e1:zBe ps=Str.join (Str.ofString "") (ps.map zXj):=StrLaws.glued_eq_join _ _
 rw [e1]
 omega
theorem zKo(n:Nat):seqIndex? (-1) (n+1)=some n:=by
 have e:=seqIndex_neg (k:=-1) (n:=n+1) (by decide) (by omega)
 rw [e]
 congr 1
 omega
theorem zVo:Builtin.List.listFitsIndex (-1)=true:=by decide
theorem zPf{w:World}{A:Around}{E:Value→Shared→Prop}{s:Shared}{h₀:Heap}{L l:Addr}{news:List (Addr×Obj)}{vs:List Value}{x:Value}{n:Nat}{t:Tok}{Q:Value→Shared→Prop}(N:News h₀ L s.heap news)(hm:(l,listOf (vs++[x]).toArray n)∈news)(h:Q x s):wpAny (model pw w) A (getItem (.ref l) (.int (-1) t)) Q E s:=by
 have hl:s.heap.IsList l (vs++[x]).toArray:=⟨_,(N _ hm).1,rfl,n,rfl⟩
 refine wpAny_getItem_list_neg hl (by decide) (by simp;omega) (by decide) ?_ h
 have e:((-1:Int)+((vs++[x]).toArray.size:Int)).toNat=vs.length:=by simp;omega
 rw [e]
 simp
theorem zPg{w:World}{A:Around}{E:Value→Shared→Prop}{s:Shared}{h₀:Heap}{L l:Addr}{m:Str→Option Value}{news:List (Addr×Obj)}{g:Obj→List (Addr×Obj)}{vs:List Value}{x y:Value}{n:Nat}{t:Tok}{Q:Unit→Shared→Prop}(F:Fr h₀ L s.heap m)(N:News h₀ L s.heap news)(U:UpdF l (listOf (vs++[x]).toArray n) news g)(h:∀h',Fr h₀ L h' m→News h₀ L h' (g (listOf (vs++[y]).toArray n))→Q () {s with heap:=h'}):wpAny (model pw w) A (setItem (.ref l) (.int (-1) t) y) Q E s:=by
 obtain ⟨pre,post,rfl,hg,a,b⟩:=U.split
 have z:=N (l,listOf (vs++[x]).toArray n) (mem_append.mpr (.inr (.head _)))
 have hl:s.heap.IsList l (vs++[x]).toArray:=⟨_,z.1,rfl,n,rfl⟩
 have hsz:(vs++[x]).toArray.size=vs.length+1:=by simp
 have q:=h _ (F.change (Heap.SameBut.update (f:=Obj.mapSeq (·.setIfInBounds vs.length y)) ..) z.2.1 z.2.2) (by
  rw [hg]
  refine ki_turn _ N a b ?_ ?_
  ·show (vs++[x]).toArray.setIfInBounds vs.length y=(vs++[y]).toArray
   apply Array.toList_inj.mp
   simp
  ·simp)
 unfold setItem
 try with_reducible refine wpAny_holding ?_
 first|refine wpAny_bind (wpAny_pure ?_)|skip
 refine wpAny_bind (wpAny_sequenceKey hl.typeIs (by decide) ?_)
 refine wpAny_bind (wpAny_callSpecial?_slot (name:=Str.ofString "__setitem__") hl.typeIs slot_list_setitem
  (wpAny_call_entry slot_list_setitem hl.typeIs entry_list_setitem ?_ (args_list_setitem _ _ _)))
 show wpAny _ _ (Builtin.List.listSubscript? (.int (-1) t) >>= _) _ _ s
 refine wpAny_bind (wpAny_listSubscript_int zVo ?_)
 show wpAny _ _ ((Builtin.List.listItems (.ref l) >>= fun xs=>pure ((seqIndex? (-1) xs.size).bind fun i=>xs[i]?.map (i,·))) >>= _) _ _ s
 refine wpAny_bind (wpAny_bind ?_)
 show wpAny _ _ (seqItems? (.ref l) >>= _) _ _ s
 refine wpAny_bind (wpAny_seqItems z.1 rfl (wpAny_pure (wpAny_pure ?_)))
 rw [hsz,zKo]
 have hx:(vs++[x]).toArray[vs.length]? = some x:=by simp
 simp only [Option.bind_some,hx,Option.map_some]
 show wpAny _ _ (setSeqItemAt l vs.length y >>= _) _ _ s
 refine wpAny_bind (wpAny_setSeqItemAt z.1 rfl ?_)
 first
  |exact wpAny_bind (wpAny_pure (wpAny_pure ⟨.none,rfl,wpAny_pure q⟩))
  |exact wpAny_pure ⟨.none,rfl,wpAny_pure q⟩
theorem zJw{y:Str}{t:Tok}{vs:List Value}{ys:List Str}(h:StrsAre vs ys):StrsAre (vs++[.str y t]) (ys++[y]):=kct_snoc h
noncomputable def lastC(z:Str):Option Nat:=z.cps[z.cps.size-1]?
theorem zFn{z:Str}{c:Nat}(h:lastC z=some c):0<z.length:=by
 have:=(Array.getElem?_eq_some_iff.mp h).1
 show 0<z.cps.size
 omega
theorem yAu{w:World}{A:Around}{E:Value→Shared→Prop}{s:Shared}{z:Str}{tz u:Tok}{c:Nat}{value slice:Expr}{Q:Value→Shared→Prop}(hz:lastC z=some c)(h:Q (.str ⟨#[c]⟩ s.toks) {s with toks:=s.toks+1})(hs:autoParam (subscripted slice false (.str z tz) (.int (-1) u)=operate [.str z tz,.int (-1) u] (getItem (.str z tz) (.int (-1) u))) T0W)(ht:autoParam (∀r,letTemporaryGo value (.str z tz) r=pure ()) zXz):
  wpAny (model pw w) A (subscriptTail value slice (.str z tz) (.int (-1) u)) Q E s:=by
 refine subscriptTail_builtin (typeIs_str s z tz) PySem.F.slot_str_getitem.lookup (P.getItem_str (by decide) ?_ h) hs ht
 have hp:=zFn hz
 rw [seqIndex_neg (by decide) (by omega)]
 have e:((-1:Int)+(z.length:Int)).toNat=z.cps.size-1:=by
  show ((-1:Int)+(z.cps.size:Int)).toNat=_
  omega
 rw [e]
 exact hz
theorem zPa{z:Str}{c:Nat}(h:lastC z=some c):Txt.item z (-1)=⟨#[c]⟩:=by
 have hp:=zFn h
 have e:seqIndex? (-1) z.length=some (z.cps.size-1):=by
  rw [seqIndex_neg (by decide) (by omega)]
  congr 1
  show ((-1:Int)+(z.cps.size:Int)).toNat=_
  omega
 have h':z.cps[z.cps.size-1]? = some c:=h
 unfold Txt.item Txt.charAt
 rw [e]
 show (⟨#[(z.cps[z.cps.size-1]?).getD 0]⟩:Str)=_
 rw [h']
 rfl
structure PgSt where
 lines:List Str
 cur:List Str
 k:Int
noncomputable abbrev prt(x:Str):Str×Str:=(.ofString " ",x)
noncomputable def zBi(c:Nat)(l:List Str):Bool:=match l.getLast? with
 |some x=>lastC x==some c
 |none=>false
noncomputable def chunk(sg:Str)(st:PgSt)(x:Str):PgSt:=
 if st.cur=[] then ⟨if 0<st.k then st.lines++[.ofString ""] else st.lines,[x],0⟩
 else if sg = .ofString " ,"∨zBi 44 st.cur=true then ⟨st.lines++[zBe (st.cur.map prt)],[x],0⟩
 else ⟨st.lines,st.cur++[x],0⟩
def GoodX(x:Str):Prop:=0<x.length∧x.length≤100∧∃d,lastC x=some d∧d≠59
structure PgOk(N:Nat)(st:PgSt):Prop where
 lines:st.lines.length≤N
 cur:st.cur.length≤N
 good:∀x∈st.cur,GoodX x
 k0:0≤st.k
 k1:st.k≤1000
 k2:st.cur≠[]→st.k=0
 inner:∀x∈st.cur.dropLast,lastC x≠some 44
def zRo(sg:Str):Prop:=sg = .ofString " ,"∨sg = .ofString ","∨sg = .ofString ";,"
theorem zNd{sg:Str}(h:zRo sg):sg.cps.all (· < 128)=true:=by
 rcases h with rfl|rfl|rfl<;>kernel_rfl
theorem PgOk.chunk{N:Nat}{sg:Str}{st:PgSt}{x:Str}(h:PgOk N st)(hx:GoodX x):PgOk (N+1) (chunk sg st x):=by
 obtain ⟨lines,cur,k⟩:=st
 have h1:=h.lines;have h2:=h.cur;have h3:=h.good;have h4:=h.k0;have h5:=h.k1;have h6:=h.inner
 dsimp only at h1 h2 h3 h4 h5 h6
 unfold Mine.chunk
 dsimp only
 split
 ·refine ⟨?_,by simp,?_,by simp,by simp,fun _=>rfl,by simp⟩
  ·dsimp only
   split
   ·rw [length_append,length_singleton];omega
   ·omega
  ·intro y hy
   have:y=x:=by simpa using hy
   exact this▸hx
 ·split
  ·refine ⟨by dsimp only;rw [length_append,length_singleton];omega,by simp,?_,by simp,by simp,fun _=>rfl,by simp⟩
   intro y hy
   have:y=x:=by simpa using hy
   exact this▸hx
  ·rename_i hc hb
   refine ⟨by dsimp only;omega,by dsimp only;rw [length_append,length_singleton];omega,?_,by simp,by simp,fun _=>rfl,?_⟩
   ·intro y hy
    rcases mem_append.mp hy with hy|hy
    ·exact h3 y hy
    ·have:y=x:=by simpa using hy
     exact this▸hx
   ·intro y hy
    dsimp only at hy
    rw [List.dropLast_concat] at hy
    intro e
    have e2:cur=cur.dropLast++[cur.getLast hc]:=(List.dropLast_concat_getLast hc).symm
    rw [e2] at hy
    rcases mem_append.mp hy with hy|hy
    ·exact h6 y hy e
    ·have e3:y=cur.getLast hc:=by simpa using hy
     refine hb (.inr ?_)
     unfold zBi
     rw [getLast?_eq_some_getLast hc,←e3]
     simp [e]
theorem zNi{vs:List Value}{ys:List Str}(h:StrsAre vs ys):∀{i:Nat} {v:Value},vs[i]? = some v→∃y t,v = .str y t∧ys[i]? = some y:=by
 induction h with
 |nil=>intro i v hv;simp at hv
 |cons y t _ ih=>
  intro i v hv
  induction i with
  |zero=>exact ⟨y,t,(Option.some.inj hv).symm,rfl⟩
  |succ i=>exact ih (by simpa using hv)
noncomputable abbrev zWi(c:Nat):List Value:=replicate c .none
theorem PgOk.fold{sg:Str}:∀{l:List Str} {N:Nat} {st:PgSt},PgOk N st→(∀x∈l,GoodX x)→PgOk (N+l.length) (l.foldl (Mine.chunk sg) st)
 |[],_,_,h,_=>h
 |x::l,N,st,h,hg=>by
  have:=PgOk.fold (sg:=sg) (h.chunk (sg:=sg) (hg x (.head _))) (fun y hy=>hg y (.tail _ hy))
  rw [length_cons,add_comm l.length 1,←Nat.add_assoc]
  exact this
noncomputable def commaLast(ring:List Str):List Str:=match ring.getLast? with
 |some x=>ring.dropLast++[x ++ .ofString ","]
 |none=>[]
noncomputable def zAb(sg:Str)(st:PgSt)(rings:List (List Str)):PgSt:=rings.foldl (fun st ring=>(commaLast ring).foldl (chunk sg) st) st
noncomputable def cnt(rings:List (List Str)):Nat:=(rings.map List.length).sum
theorem zIs:(Str.ofString ",").cps = #[44]:=by decide
theorem GoodX.comma{x:Str}(h:x.length=1):GoodX (x ++ .ofString ","):=by
 have e:(x++Str.ofString ",").cps=x.cps.push 44:=by
  show x.cps++(Str.ofString ",").cps=_
  rw [zIs]
  rfl
 have h1:x.cps.size=1:=h
 have h2:(x++Str.ofString ",").length=2:=by
  show (x++Str.ofString ",").cps.size=2
  rw [e,Array.size_push,h1]
 refine ⟨by omega,by omega,44,?_,by decide⟩
 unfold lastC
 rw [e,Array.size_push]
 simp
theorem zB0(ring:List Str):(commaLast ring).length=ring.length:=by
 unfold commaLast
 cases h:ring.getLast? with
 |none=>rw [List.getLast?_eq_none_iff] at h;rw [h]
 |some x=>
  have:ring≠[]:=fun e=>by rw [e] at h;cases h
  have:=length_pos_iff.mpr this
  simp
  omega
theorem zB6{ring:List Str}(h:∀x∈ring,x.length=1∧GoodX x):∀x∈commaLast ring,GoodX x:=by
 intro y hy
 unfold commaLast at hy
 cases hg:ring.getLast? with
 |none=>rw [hg] at hy;cases hy
 |some x=>
  rw [hg] at hy
  rcases mem_append.mp hy with hy|hy
  ·exact (h y ((List.dropLast_sublist ring).subset hy)).2
  ·rw [mem_singleton.mp hy]
   exact GoodX.comma (h x (List.mem_of_getLast? hg)).1
theorem zEt{sg:Str}:∀{rings:List (List Str)} {N:Nat} {st:PgSt},PgOk N st→(∀ring∈rings,ring≠[]∧∀x∈ring,x.length=1∧GoodX x)→PgOk (N+cnt rings) (zAb sg st rings)
 |[],_,_,h,_=>h
 |ring::rings,N,st,h,hg=>by
  have a:=PgOk.fold (sg:=sg) h (zB6 (hg ring (.head _)).2)
  rw [zB0] at a
  have b:=zEt (sg:=sg) a fun r hr=>hg r (.tail _ hr)
  have e:N+cnt (ring::rings)=N+ring.length+cnt rings:=by simp [cnt,Nat.add_assoc]
  rw [e]
  exact b
theorem zL2{rings:List (List Str)}{i:Nat}{ring:List Str}(h:rings[i]? = some ring):cnt (rings.take (i+1))=cnt (rings.take i)+ring.length∧cnt (rings.take (i+1))≤cnt rings:=by
 constructor
 ·unfold cnt
  rw [take_add_one,h,map_append,List.sum_append]
  simp
 ·have e:cnt rings=cnt (rings.take (i+1))+cnt (rings.drop (i+1)):=by
   unfold cnt
   rw [←List.sum_append,←map_append,take_append_drop]
  omega
theorem zEg(d:PyData)(h:d.canLay0=true):∀c,PyData.canLayAll0 (replicate c d)=true
 |0=>rfl
 |c+1=>by rw [List.replicate_succ,PyData.canLayAll0,h,zEg d h c];rfl
theorem zEp(d:PyData)(h:d.depth=0):∀c,PyData.depthAll (replicate c d)=0
 |0=>rfl
 |c+1=>by rw [List.replicate_succ,PyData.depthAll,h,zEp d h c];rfl
theorem zAy(c:Nat):SeqAt.shaped (.list (replicate c PyData.none))=true:=by
 simp [SeqAt.shaped,PyData.canLay0,PyData.depth,zEg PyData.none rfl,zEp PyData.none rfl]
section
variable {prog:Program}{w:World}{A:Around}{E:Value→Shared→Prop}{s:Shared}{h₀:Heap}{L a b:Addr}{news:List (Addr×Obj)}{na nb c:Nat}{Q:Value→Shared→Prop}{m:Str→Option Value}
theorem flat_nones:∀c,(replicate c [Value.none]).flatten=zWi c
 |0=>rfl
 |c+1=>by rw [List.replicate_succ,flatten_cons,flat_nones c];rfl
theorem zPq{u:Tok}{k:Int}(F:Fr h₀ L s.heap m)(N:News h₀ L s.heap news)(ha:(a,listOf [Value.none].toArray na)∈news)(hk:k=(c:Int))(hc:c≤256)(h:∀D h',Fr h₀ L h' m→News h₀ L h' ((D,listOf (zWi c).toArray 0)::news)→(∀p∈news,p.1<D)→Q (.ref D) {s with heap:=h'}):wpAny (model prog w) A (binaryOp .Mult (.ref a) (.int k u)) Q E s:=by
 subst hk
 exact KMa.mul F N ⟨_,(N _ ha).1,rfl,na,rfl⟩ (by (exact natCast_nonneg _)) (by omega) (by simpa using hc) (flat_nones c) h
end
theorem zOg{sg:Str}(st:PgSt)(x:Str):(chunk sg st x).cur≠[]:=by
 unfold Mine.chunk
 split
 ·simp
 ·split<;>simp
theorem zGh{sg:Str}:∀(l:List Str) (st:PgSt),l≠[]∨st.cur≠[]→(l.foldl (chunk sg) st).cur≠[]
 |[],st,h=>h.resolve_left (fun h=>h rfl)
 |x::l,st,_=>zGh l (chunk sg st x) (.inr (zOg st x))
theorem zIr{ring:List Str}(h:ring≠[]):commaLast ring≠[]:=fun e=>h (List.eq_nil_of_length_eq_zero (by rw [←zB0,e];rfl))
theorem zJq{sg:Str}:∀(l:List (List Str)) (st:PgSt),(∀r∈l,r≠[])→l≠[]∨st.cur≠[]→(zAb sg st l).cur≠[]
 |[],st,_,h=>h.resolve_left (fun h=>h rfl)
 |r::l,st,hr,_=>zJq l ((commaLast r).foldl (chunk sg) st) (fun r hr'=>hr r (.tail _ hr')) (.inr (zGh _ _ (.inl (zIr (hr r (.head _))))))
noncomputable def ltr(k:Nat):Str:=⟨#[[67,97,98,100,101,102,103].getD k 67]⟩
theorem zLi:∀k,k<7→(ltr k).length=1∧GoodX (ltr k):=by
 intro k hk
 refine ⟨rfl,by show 0<1;omega,by show 1≤100;omega,_,rfl,?_⟩
 show [67,97,98,100,101,102,103].getD k 67≠59
 revert k
 decide
def Seen(x:Str):Prop:=∃c∈x.cps.toList,Unicode.isSpace c=false
theorem zSt:∀k,k<7→Seen (ltr k):=by
 intro k hk
 refine ⟨_,.head _,?_⟩
 revert k
 decide
theorem Seen.app{x:Str}(h:Seen x)(y:Str):Seen (x++y):=by
 obtain ⟨c,hc,h⟩:=h
 exact ⟨c,by rw [Str.cps_append,Array.toList_append];exact mem_append_left _ hc,h⟩
theorem zDk:∀ys:List Str,(Txt.join (.ofString "") ys).cps.toList=(ys.map fun y=>y.cps.toList).flatten:=by
 intro ys
 have e0:(Str.ofString "").cps = #[]:=by decide
 show (Builtin.Str.glued _ ys).cps.toList=_
 rw [StrLaws.glued_eq_join]
 induction ys with
 |nil=>rfl
 |cons y r ih=>
  induction r with
  |nil=>show y.cps.toList=_;simp
  |cons z r=>
   show (y++Str.ofString "" ++ Str.join _ (z::r)).cps.toList=_
   rw [Str.cps_append,Str.cps_append,e0,Array.toList_append,Array.toList_append,ih]
   simp
theorem zRb{ps:List (Str×Str)}{p:Str×Str}(hp:p∈ps)(h:Seen p.2):Txt.isspace (zBe ps)=false:=by
 obtain ⟨c,hc,hs⟩:=h
 have hm:c∈(zBe ps).cps.toList:=by
  unfold zBe
  rw [zDk,mem_flatten]
  refine ⟨_,mem_map.mpr ⟨_,mem_map.mpr ⟨p,hp,rfl⟩,rfl⟩,?_⟩
  show c∈(p.1++p.2).cps.toList
  rw [Str.cps_append,Array.toList_append]
  exact mem_append_right _ hc
 unfold Txt.isspace
 rw [Bool.and_eq_false_iff]
 refine .inr ?_
 rw [←Array.all_toList,List.all_eq_false]
 exact ⟨c,hm,by rw [hs];exact Bool.false_ne_true⟩
structure PgMore(st:PgSt):Prop where
 lines:∀y∈st.lines,y.length≤60800
 seen:∀x∈st.cur,Seen x
theorem zG2(ps:List (Str×Str)):(zBe ps).length≤tlen ps:=by
 unfold zBe
 show (Builtin.Str.glued _ _).length≤_
 rw [StrLaws.glued_eq_join]
 refine le_trans (StrLaws.join_length_le _ _) ?_
 rw [zI4,show (Str.ofString "").length=0 by decide]
 omega
theorem zId:∀{cur:List Str},(∀x∈cur,x.length≤100)→tlen (cur.map prt)≤101*cur.length
 |[],_=>le_refl _
 |x::r,h=>by
  have a:=zId fun y hy=>h y (.tail _ hy)
  have b:=h x (.head _)
  have e:(Str.ofString " ").length=1:=by decide
  unfold tlen at a ⊢
  simp only [map_cons,sum_cons,length_cons,zWu] at a ⊢
  rw [e]
  omega
theorem PgMore.chunk{N:Nat}{sg:Str}{st:PgSt}{x:Str}(o:PgOk N st)(hN:N≤600)(h:PgMore st)(hx:Seen x):PgMore (Mine.chunk sg st x):=by
 have e0:(Str.ofString "").length=0:=by decide
 have hone:∀y∈[x],Seen y:=fun y hy=>by rw [mem_singleton.mp hy];exact hx
 unfold Mine.chunk
 split
 ·refine ⟨?_,hone⟩
  dsimp only
  split
  ·intro y hy
   rcases mem_append.mp hy with hy|hy
   ·exact h.lines y hy
   ·rw [mem_singleton.mp hy,e0];omega
  ·exact h.lines
 ·split
  ·refine ⟨fun y hy=>?_,hone⟩
   rcases mem_append.mp hy with hy|hy
   ·exact h.lines y hy
   ·rw [mem_singleton.mp hy]
    have a:=zG2 (st.cur.map prt)
    have b:=zId fun x hx=>(o.good x hx).2.1
    have c:=o.cur
    omega
  ·refine ⟨h.lines,fun y hy=>?_⟩
   rcases mem_append.mp hy with hy|hy
   ·exact h.seen y hy
   ·exact hone y hy
theorem PgMore.fold{sg:Str}:∀{l:List Str} {N:Nat} {st:PgSt},PgOk N st→PgMore st→N+l.length≤600→(∀x∈l,GoodX x∧Seen x)→PgMore (l.foldl (Mine.chunk sg) st)
 |[],_,_,_,h,_,_=>h
 |x::l,N,st,o,h,hN,hg=>by
  rw [length_cons] at hN
  show PgMore (l.foldl (Mine.chunk sg) (Mine.chunk sg st x))
  exact PgMore.fold (o.chunk (sg:=sg) (hg x (.head _)).1) (h.chunk o (by omega) (hg x (.head _)).2) (by omega) fun y hy=>hg y (.tail _ hy)
theorem zGc{ring:List Str}(h:∀x∈ring,x.length=1∧GoodX x)(hs:∀x∈ring,Seen x):∀x∈commaLast ring,GoodX x∧Seen x:=by
 intro y hy
 refine ⟨zB6 h y hy,?_⟩
 unfold commaLast at hy
 cases hg:ring.getLast? with
 |none=>rw [hg] at hy;cases hy
 |some x=>
  rw [hg] at hy
  rcases mem_append.mp hy with hy|hy
  ·exact hs y ((List.dropLast_sublist ring).subset hy)
  ·rw [mem_singleton.mp hy]
   exact (hs x (List.mem_of_getLast? hg)).app _
theorem zDg{sg:Str}:∀{rings:List (List Str)} {N:Nat} {st:PgSt},PgOk N st→PgMore st→N+cnt rings≤600→(∀ring∈rings,ring≠[]∧∀x∈ring,x.length=1∧GoodX x)→(∀ring∈rings,∀x∈ring,Seen x)→PgMore (zAb sg st rings)
 |[],_,_,_,h,_,_,_=>h
 |ring::rings,N,st,o,h,hN,hg,hs=>by
  have e:N+cnt (ring::rings)=N+ring.length+cnt rings:=by simp [cnt,Nat.add_assoc]
  rw [e] at hN
  have a:=PgOk.fold (sg:=sg) o (zB6 (hg ring (.head _)).2)
  rw [zB0] at a
  show PgMore (zAb sg ((commaLast ring).foldl (Mine.chunk sg) st) rings)
  exact zDg a (PgMore.fold o h (by rw [zB0];omega) (zGc (hg ring (.head _)).2 (hs ring (.head _)))) hN (fun r hr=>hg r (.tail _ hr)) fun r hr=>hs r (.tail _ hr)
theorem zR7{l:List Nat}{b:Nat}(h:∀x∈l,x≤b):l.sum≤b*l.length:=by
 induction l with
 |nil=>exact le_refl _
 |cons a r ih=>
  have x:=h a (.head _)
  have y:=ih fun z hz=>h z (.tail _ hz)
  rw [sum_cons,length_cons,Nat.mul_succ]
  omega
theorem zJu{N:Nat}{st:PgSt}(o:PgOk N st)(hN:N≤600):zBq (st.cur.map prt):=by
 refine ⟨by have:=o.cur;rw [length_map];omega,fun p hp=>?_⟩
 obtain ⟨x,hx,rfl⟩:=mem_map.mp hp
 exact ⟨by show (Str.ofString " ").length≤100;decide,(o.good x hx).2.1⟩
theorem zTl{x:Str}{cur:List Str}:0<tlen ((x::cur).map prt):=by
 have e:(Str.ofString " ").length=1:=by decide
 unfold tlen
 simp only [map_cons,sum_cons,zWu]
 omega
theorem zQ3{st:PgSt}(h:PgMore st)(hc:st.cur≠[]):zWj 0 (st.cur.map prt)=false∧0<tlen (st.cur.map prt):=by
 obtain ⟨lines,cur,k⟩:=st
 induction cur with
 |nil=>exact absurd rfl hc
 |cons x r=>
  have a:=zTl (x:=x) (cur:=r)
  refine ⟨?_,a⟩
  show (decide ((0:Int)=0)&&(decide (tlen ((x::r).map prt)=0) || Txt.isspace (zBe ((x::r).map prt))))=false
  rw [zRb (ps:=(x::r).map prt) (p:=prt x) (.head _) (h.seen x (.head _)),decide_eq_false (by omega:¬tlen ((x::r).map prt)=0)]
  rfl
theorem zJf{ls:List Str}{sep:Str}(h:∀y∈ls,y.length≤100000)(hl:ls.length≤150)(hs:sep.length≤10):(ls.map (·.length)).sum+ls.length*sep.length≤15001500:=by
 have a:=zR7 (l:=ls.map (·.length)) (b:=100000) fun x hx=>by
  obtain ⟨y,hy,rfl⟩:=mem_map.mp hx
  exact h y hy
 rw [length_map] at a
 have b:=Nat.mul_le_mul hl hs
 omega
theorem zNk:zBe [(Str.ofString " ",Str.ofString "")]=Str.ofString " " := by decide
theorem zN0(sep y b:Str)(ls:List Str):Txt.join sep (ls++[y++b])=Txt.join sep (ls++[y])++b:=by
 show Builtin.Str.glued _ _=Builtin.Str.glued _ _++b
 rw [StrLaws.glued_eq_join,StrLaws.glued_eq_join,FinIter.join_snoc,FinIter.join_snoc]
 split
 ·rfl
 ·rw [Str.append_assoc,Str.append_assoc,Str.append_assoc]
noncomputable def zE0(sg sep:Str)(k:Int)(rings:List (List Str)):Str:=
 Txt.join sep ((zAb sg ⟨[],[],k⟩ rings).lines++[zBe ((zAb sg ⟨[],[],k⟩ rings).cur.map prt)])
theorem zHv{sep:Str}{ls:List Str}{b:Nat}(h:(ls.map (·.length)).sum+ls.length*sep.length≤b):(Txt.join sep ls).length≤b:=by
 show (Builtin.Str.glued _ _).length≤_
 rw [StrLaws.glued_eq_join]
 exact le_trans (StrLaws.join_length_le _ _) h
theorem zAp:Builtin.Range.small 0 7 1=true:=by decide
theorem zAw:Builtin.Range.rangeSize 0 7 1=((7:Nat):Int):=by decide
theorem zJc{f:Nat→Nat}(hf:∀x,x<7→f x<7):∀(i:Nat) {k:Nat},k<7→it f i k<7
 |0,_,h=>h
 |i+1,k,h=>zJc hf i (hf k h)
noncomputable abbrev natI(S:List Nat):List Int:=S.map (fun x:Nat=>(x:Int))
theorem zP8{S:List Nat}{i:Nat}{v:Int}(h:(natI S)[i]? = some v):∃x,S[i]? = some x∧v=(x:Int):=by
 rw [getElem?_map] at h
 obtain ⟨x,hx,e⟩:=Option.map_eq_some_iff.mp h
 exact ⟨x,hx,e.symm⟩
theorem yBk{z:Nat}{S:List Nat}(hs:S.Pairwise (· < ·)):∀i v,(natI S)[i]? = some v→(v<(z:Int)↔i<cut z S):=fun i v h=>by
 obtain ⟨x,hx,rfl⟩:=zP8 h
 rw [←zDl hs i x hx]
 lia
theorem zVg{z:Nat}{S:List Nat}(hs:S.Pairwise (· < ·)):∀i v,(natI S)[i]? = some v→((z:Int)<v↔¬i<cutr z S):=fun i v h=>by
 obtain ⟨x,hx,rfl⟩:=zP8 h
 rw [←zHi hs i x hx]
 lia
structure SpotsAt(f:Nat→Nat)(i:Nat)(S:List Nat):Prop where
 sorted:S.Pairwise (· < ·)
 mem:∀x,x∈S↔∃j,j<i∧it f 7 j=x
theorem SpotsAt.zero(f:Nat→Nat):SpotsAt f 0 []:=⟨.nil,fun x=>by simp⟩
theorem SpotsAt.old{f:Nat→Nat}{i:Nat}{S:List Nat}(h:SpotsAt f i S)(hz:it f 7 i∈S):SpotsAt f (i+1) S:=⟨h.sorted,fun x=>by
 rw [h.mem]
 constructor
 ·rintro ⟨j,hj,e⟩;exact ⟨j,by (exact le_succ_of_le (by assumption)),e⟩
 ·rintro ⟨j,hj,e⟩
  rcases lt_or_eq_of_le (le_of_lt_succ hj) with h1|h1
  ·exact ⟨j,h1,e⟩
  ·subst h1
   rw [e] at hz
   exact (h.mem x).mp hz⟩
theorem SpotsAt.new{f:Nat→Nat}{i:Nat}{S:List Nat}(h:SpotsAt f i S)(hz:it f 7 i∉S):SpotsAt f (i+1) (zJ8 (it f 7 i) S):=⟨zCa h.sorted hz,fun x=>by
 rw [zLd,h.mem]
 constructor
 ·rintro (e|⟨j,hj,e⟩)
  ·exact ⟨i,by lia,e.symm⟩
  ·exact ⟨j,by (exact le_succ_of_le (by assumption)),e⟩
 ·rintro ⟨j,hj,e⟩
  rcases lt_or_eq_of_le (le_of_lt_succ hj) with h1|h1
  ·exact .inr ⟨j,h1,e⟩
  ·subst h1;exact .inl e.symm⟩
theorem SpotsAt.len{f:Nat→Nat}(hf:∀x,x<7→f x<7){i:Nat}{S:List Nat}(h:SpotsAt f i S)(hi:i≤7):S.length≤7:=zA3 (h.sorted.imp fun h=>ne_of_lt h) fun x hx=>by
 obtain ⟨j,hj,rfl⟩:=(h.mem x).mp hx
 exact zJc hf 7 (by (exact lt_of_lt_of_le (by assumption) (by assumption)))
theorem zD2:∀k,k<7→Txt.item (.ofString "Cabdefg") (k:Nat)=ltr k:=by
 intro k hk
 have:k=0∨k=1∨k=2∨k=3∨k=4∨k=5∨k=6:=by lia
 rcases this with rfl|rfl|rfl|rfl|rfl|rfl|rfl<;>kernel_rfl
theorem zDs(n:Nat):Builtin.Range.rangeSize 0 (n:Int) 1=(n:Int):=by
 unfold Builtin.Range.rangeSize
 rw [if_pos (by decide)]
 split
 ·rw [Int.ediv_one]
  lia
 ·lia
theorem zCj(n:Nat)(hn:n≤1000):Builtin.Range.small 0 (n:Int) 1=true:=small_one (by decide) (by decide) (by (exact natCast_nonneg _)) (by omega)
theorem zZh:∀a,a<7→∀b,b<7→((ltr a).cps.toList<(ltr b).cps.toList↔a<b):=by decide +kernel
noncomputable abbrev zDd(f:Nat→Nat):List PyData:=(List.range 7).map fun i=>.int (f i:Nat)
theorem zCk{f:Nat→Nat}{k:Nat}(h:k<7):(zDd f)[k]? = some (.int (f k:Nat)):=by
 rw [getElem?_map,getElem?_range h]
 rfl
noncomputable abbrev zRj(r:List Nat):PyData:=.list (r.map fun k=>.str (ltr k))
noncomputable abbrev zDc(R:List (List Nat)):List PyData:=R.map zRj
noncomputable def zZa:PyData→Str
 |.list (.str s::_)=>s
 |_=>.ofString ""
theorem zLf{f:Nat→Nat}{k:Nat}{r:List Nat}(K:Ring f k r):zZa (zRj r)=ltr k:=by
 obtain ⟨t,rfl⟩:=K.head
 rfl
theorem yDn{Rs:List (List Nat)}{f:Nat→Nat}{k:Nat}{r:List Nat}(ok:RingsOk f Rs)(hk:k<7)(K:Ring f k r):∀i y,(zDc Rs)[i]? = some y→((zZa y).cps.toList<(zZa (zRj r)).cps.toList↔i<cut k (zDn Rs)):=by
 intro i y hy
 rw [getElem?_map] at hy
 obtain ⟨q,hq,rfl⟩:=Option.map_eq_some_iff.mp hy
 obtain ⟨x,hx,K'⟩:=ok.ring q (mem_of_getElem? hq)
 rw [zLf K,zLf K',zZh x hx k hk]
 exact zDl (zCu ok) i x (by unfold zDn;rw [getElem?_map,hq,Option.map_some,zAn K'])
noncomputable def zA1(g:Str):List Nat→Str
 |[]=>g
 |k::r=>(ltr k++("." : Str))++zA1 g r
theorem zAa(g:Str):∀l,(zA1 g l).length=2*l.length+g.length
 |[]=>by simp [zA1]
 |k::r=>by
  have e:("." : Str).length=1:=by decide
  have e2:(ltr k).length=1:=rfl
  rw [zA1,Str.length_append,Str.length_append,zAa g r,e,e2,length_cons]
  lia
theorem zPm:∀a,a<7→∀b,b<7→(ltr a=ltr b↔a=b):=by decide +kernel
theorem zDi{kvs:List (Str×Value)}{k j:Str}{v:Value}:valueAt (stored kvs k v) j=if j=k then some v else valueAt kvs j:=by
 unfold stored
 by_cases hk:kvs.any (fun kv=>kv.1=k)=true
 ·rw [if_pos hk]
  induction kvs with
  |nil=>simp at hk
  |cons p r ih=>
   unfold valueAt at ih ⊢
   rw [map_cons,List.find?_cons,List.find?_cons]
   by_cases hp:p.1=k
   ·rw [hp,if_pos rfl]
    by_cases hj:j=k
    ·subst hj;simp
    ·have hj':¬k=j:=fun e=>hj e.symm
     simp -iota only [hj',hj,decide_false,if_false]
     by_cases hr:r.any (fun kv=>kv.1=k)=true
     ·have:=ih hr
      simp -iota only [hj,if_false] at this
      exact this
     ·have e:r.map (fun kv=>if kv.1=k then (kv.1,v) else kv)=r:=by
       rw [map_congr_left (g:=id) fun q hq=>?_]
       ·exact List.map_id _
       ·have:¬q.1=k:=fun e=>hr (List.any_eq_true.mpr ⟨q,hq,by simp [e]⟩)
        simp [this]
      rw [e]
   ·have hr:r.any (fun kv=>kv.1=k)=true:=by simpa [hp] using hk
    have:=ih hr
    simp -iota only [hp,if_false]
    by_cases hj:p.1=j
    ·have:¬j=k:=fun e=>hp (hj.trans e)
     simp [hj,this]
    ·simp -iota only [hj,decide_false]
     exact this
 ·rw [if_neg hk]
  unfold valueAt
  rw [List.find?_append]
  by_cases hj:j=k
  ·subst hj
   have:kvs.find? (fun kv=>kv.1=j)=none:=by
    rw [List.find?_eq_none]
    intro q hq
    exact fun e=>hk (List.any_eq_true.mpr ⟨q,hq,e⟩)
   rw [this]
   simp
  ·have hj':¬k=j:=fun e=>hj e.symm
   cases hf:kvs.find? (fun kv=>kv.1=j) with
   |none=>simp [hj,hj']
   |some q=>simp [hj]
def DictN(w:World)(o:Obj)(P:Nat→Prop)(nm:Nat→Str)(c:Nat):Prop:=
 ∃kvs:List (Str×Value),o.IsDictOf (PySem.strKind pw w) kvs∧kvs.length≤c∧(∀k,k<7→P k→∃t,valueAt kvs (ltr k)=some (.str (nm k) t))∧∀k,k<7→¬P k→valueAt kvs (ltr k)=none
theorem DictN.congr{w:World}{o:Obj}{P P':Nat→Prop}{nm nm':Nat→Str}{c c':Nat}(h:DictN w o P nm c)(hP:∀k,k<7→(P k↔P' k))(hn:∀k,k<7→P k→nm k=nm' k)(hc:c≤c'):DictN w o P' nm' c':=by
 obtain ⟨kvs,a,b,h1,h2⟩:=h
 refine ⟨kvs,a,le_trans b hc,fun k hk hp=>?_,fun k hk hp=>h2 k hk fun q=>hp ((hP k hk).mp q)⟩
 have hp':=(hP k hk).mpr hp
 obtain ⟨t,e⟩:=h1 k hk hp'
 exact ⟨t,by rw [e,hn k hk hp']⟩
section
variable {w:World}{A:Around}{E:Value→Shared→Prop}{s:Shared}{h₀:Heap}{L d:Addr}{m:Str→Option Value}{news:List (Addr×Obj)}{g:Obj→List (Addr×Obj)}{o:Obj}{P:Nat→Prop}{nm:Nat→Str}{c x:Nat}{tk:Tok}
theorem zYj{t:Tok}{y:Str}{Q:Unit→Shared→Prop}(F:Fr h₀ L s.heap m)(N:News h₀ L s.heap news)(U:UpdF d o news g)(D:DictN w o P nm c)(hx:x<7)(hc:c≤1000)(hy:y=nm x)(h:∀h' o',Fr h₀ L h' m→News h₀ L h' (g o')→DictN w o' (fun k=>P k∨k=x) nm (c+1)→Q () {s with heap:=h',toks:=s.toks+1}):wpAny (model pw w) A (setItem (.ref d) (.str (ltr x) tk) (.str y t)) Q E s:=by
 subst hy
 obtain ⟨kvs,hd,hl,h1,h2⟩:=D
 refine kda_set (knd:=PySem.strKind pw w) F N U hd (strKind_is _ _ _ _) (by rw [sizeLine_eq];lia) fun h' o' F' N' hd'=>h h' o' F' N' ⟨_,hd',le_trans (stored_length_le _ _ _) (Nat.succ_le_succ hl),fun k hk hp=>?_,fun k hk hp=>?_⟩
 ·rw [zDi]
  by_cases e:k=x
  ·subst e
   rw [if_pos rfl]
   exact ⟨_,rfl⟩
  ·rw [if_neg fun q=>e ((zPm k hk x hx).mp q)]
   exact h1 k hk (hp.resolve_right e)
 ·rw [zDi,if_neg fun q=>hp (.inr ((zPm k hk x hx).mp q))]
  exact h2 k hk fun q=>hp (.inl q)
theorem zYi{value slice:PySem.Expr}{Q:Value→Shared→Prop}(N:News h₀ L s.heap news)(hm:(d,o)∈news)(D:DictN w o P nm c)(hx:x<7)(hp:P x)(h:∀t,Q (.str (nm x) t) {s with toks:=s.toks+1})(hs:autoParam (subscripted slice false (.ref d) (.str (ltr x) tk)=operate [.ref d,.str (ltr x) tk] (getItem (.ref d) (.str (ltr x) tk))) T0W)(hg:autoParam (∀r,letTemporaryGo value (.ref d) r=pure ()) zXz):
  wpAny (model pw w) A (subscriptTail value slice (.ref d) (.str (ltr x) tk)) Q E s:=by
 obtain ⟨kvs,hd,hl,h1,h2⟩:=D
 obtain ⟨t,e⟩:=h1 x hx hp
 exact kda_item (knd:=PySem.strKind pw w) N hm hd (strKind_is _ _ _ _) e (h t) hs hg
theorem zSe{Q:Value→Shared→Prop}(N:News h₀ L s.heap news)(hm:(d,o)∈news)(D:DictN w o P nm c)(lo:(d==sysModules)=false)(hx:x<7)(hy:P x→Q (.bool false) {s with toks:=s.toks+1})(hn:¬P x→Q (.bool true) {s with toks:=s.toks+1}):
  wpAny (model pw w) A (compareOp .NotIn (.str (ltr x) tk) (.ref d)) Q E s:=by
 obtain ⟨kvs,hd,hl,h1,h2⟩:=D
 by_cases hp:P x
 ·obtain ⟨t,e⟩:=h1 x hx hp
  exact kdg_notin (knd:=PySem.strKind pw w) N hm hd lo (strKind_is _ _ _ _) true (by rw [e];rfl) (hy hp)
 ·exact kdg_notin (knd:=PySem.strKind pw w) N hm hd lo (strKind_is _ _ _ _) false (by rw [h2 x hx hp];rfl) (hn hp)
end
theorem zN2{w w':World}(e:w'.params=w.params){es:Array DictEntry}(h:KeysOf (PySem.strKind pw w) es):KeysOf (PySem.strKind pw w') es:=fun x hx=>by
 obtain ⟨k,a,b⟩:=h x hx
 refine ⟨k,a,b.trans ?_⟩
 show hashStr w k=hashStr w' k
 unfold hashStr
 rw [e]
theorem zQ9{w w':World}{es:List DictEntry}{kvs:List (Str×Value)}(h:Pairs (PySem.strKind pw w) es kvs):Pairs (PySem.strKind pw w') es kvs:=by
 induction h with
 |nil=>exact .nil
 |cons a b _ ih=>exact .cons a b ih
theorem DictN.par{w w':World}{o:Obj}{P:Nat→Prop}{nm:Nat→Str}{c:Nat}(h:DictN w o P nm c)(e:w'.params=w.params):DictN w' o P nm c:=by
 obtain ⟨kvs,⟨es,ep,a,b,k,p,n⟩,r⟩:=h
 exact ⟨kvs,⟨es,ep,a,b,zN2 e k,zQ9 p,n⟩,r⟩
noncomputable abbrev namO(Pp:Nat→Prop)(nm:Nat→Str)(n:Nat):SO:=.is fun P a o=>(a==sysModules)=false∧∃w:World,w.params=P∧DictN w o Pp nm n
section
variable {fn:Fn}{d n₀:Nat}{c:Cx fn d n₀}{E:Env}{ps:List (zA0×SV)}{nx nx₁ nx₂:List SO}{z:Wd}{s:Shared}{o i value:Expr}{pos tpos:Pos}{Pp:Nat→Prop}{nm:Nat→Str}{n k x:Nat}
theorem Ev.dict0(hP:∀k,k<7→¬Pp k):Ev c E ps nx (.Dict [] [] pos) (.r nx.length) (nx++[namO Pp nm 0]):=fun z s O Q q=>by
 refine O.grow fun m news F N _ g=>?_
 refine PyProof.Rows.Dict_empty_made2 F N (modules_low (topRead_of c.T).nolimit) fun h' o F' N' lo hd _ _ _ _=>?_
 refine g (namO Pp nm 0) o h' s.toks (fun _ _=>⟨lo,c.w,rfl,[],hd,le_refl _,fun k hk h=>absurd h (hP k hk),fun _ _ _=>rfl⟩) F' N' fun z' le O' r=>?_
 exact q z' _ _ le O' r
theorem Ex.setN{Pq:Nat→Prop}(hv:Ev c c.env ps nx value (.d (.str (nm x))) nx₁)(ho:Ev c c.env ps nx₁ o (.r k) nx₁)(hi:Ev c c.env ps nx₁ i (.d (.str (ltr x))) nx₁)(hk:nth nx₁ k=namO Pp nm n)(hx:x<7)(hn:n≤1000)(hP:∀j,j<7→((Pp j∨j=x)↔Pq j))(hs:autoParam (swapsWith value (some (.Subscript o i tpos)) pos.line c.env=pure false) T0R):
  Ex c ps nx (.Assign [.Subscript o i tpos] value pos) ps (upd nx₁ k (namO Pq nm (n+1))):=fun z s O Q q=>by
 refine wpAny_Assign_Subscript (hv z s O _ fun z₁ s₁ v₁ l₁ O₁ r₁=>ho z₁ s₁ O₁ _ fun z₂ s₂ v₂ l₂ O₂ r₂=>hi z₂ s₂ O₂ _ fun z₃ s₃ v₃ l₃ O₃ r₃=>?_) hs
 obtain ⟨t,rfl⟩:=DRep.str_ r₁
 obtain ⟨a,ha,rfl⟩:=r₂.mono l₃
 obtain ⟨u,rfl⟩:=DRep.str_ r₃
 refine O₃.obj ha fun m ob news g F N U ro _ _ G=>?_
 rw [hk] at ro
 obtain ⟨lo,w,hw,D⟩:=ro
 exact zYj F N U (D.par hw.symm) hx hn rfl fun h' o' F' N' D'=>q z₃ _ (G _ o' h' _ ⟨lo,c.w,rfl,D'.congr hP (fun _ _ _=>rfl) (le_refl _)⟩ F' N')
theorem SubS.nam{value slice:Expr}(hk:nth nx k=namO Pp nm n)(hx:x<7)(hp:Pp x)(hs:autoParam (∀a u,subscripted slice false (.ref a) (.str (ltr x) u)=operate [.ref a,.str (ltr x) u] (getItem (.ref a) (.str (ltr x) u))) zKr):SubS c ps nx value slice (.r k) (.d (.str (ltr x))) (.d (.str (nm x))):=fun z s a₁ a₂ O h1 h2 Q q=>by
 obtain ⟨a,ha,rfl⟩:=h1
 obtain ⟨t,rfl⟩:=DRep.str_ h2
 refine O.obj ha fun m ob news g F N U ro _ _ G=>?_
 rw [hk] at ro
 obtain ⟨lo,w,hw,D⟩:=ro
 refine zAv (x:=.ofString "x") (px:=default) ?_
 exact zYi N (zA2 U) (D.par hw.symm) hx hp (fun t=>q _ _ (O.toks _) .str) (hs _ _) (fun _=>rfl)
theorem CmpS.notinN{b:Bool}(hk:nth nx k=namO Pp nm n)(hx:x<7)(hb:b=true↔¬Pp x):CmpS c ps nx .NotIn (.d (.str (ltr x))) (.r k) b:=fun z s a₁ a₂ O h1 h2 Q q=>by
 obtain ⟨a,ha,rfl⟩:=h2
 obtain ⟨t,rfl⟩:=DRep.str_ h1
 refine O.obj ha fun m ob news g F N U ro _ _ G=>?_
 rw [hk] at ro
 obtain ⟨lo,w,hw,D⟩:=ro
 refine zSe N (zA2 U) (D.par hw.symm) lo hx (fun hp=>?_) fun hp=>?_
 ·have:b=false:=by induction b;rfl;exact absurd hp (hb.mp rfl)
  subst this
  exact q _ (O.toks _)
 ·have:b=true:=hb.mpr hp
  subst this
  exact q _ (O.toks _)
theorem J.namP{Pq:Nat→Prop}{n':Nat}{rest:List SO}{Q:Flow→Shared→Prop}{bs:List (List Stmt)}(hP:∀j,j<7→(Pp j↔Pq j))(hn:n≤n')(k:J c Q ps (namO Pq nm n'::rest) bs):J c Q ps (namO Pp nm n::rest) bs:=fun z s O=>k z s (by
 induction O with
 |mk F K N O D G a0 Z0=>
  cases O with
  |cons r O=>
   obtain ⟨lo,w,hw,d⟩:=r
   exact .mk F K N (.cons ⟨lo,w,hw,d.congr hP (fun _ _ _=>rfl) hn⟩ O) D G a0 Z0)
end
theorem CmpS.ltT{fn:Fn}{d n₀:Nat}{c:Cx fn d n₀}{ps:List (zA0×SV)}{nx:List SO}{i j:zA0}:CmpS c ps nx .Lt (.d (.str i)) (.d (.str j)) (decide (i.cps.toList<j.cps.toList)):=fun z s a b O h1 h2 Q k=>by
 obtain ⟨t,rfl⟩:=DRep.str_ h1
 obtain ⟨u,rfl⟩:=DRep.str_ h2
 exact lt_str (k _ O)
theorem zOz(P:Params):nsIn (kW P) mainGlobals (.ofString "insort_left")=some (some (.ref 96)):=by kernel_rfl
theorem zZ0(P:Params):nsIn (kW P) mainGlobals (.ofString "insort_right")=some (some (.ref 78)):=by kernel_rfl
theorem zQm(P:Params):keepIn (kW P) (.ref 96)=true:=by kernel_rfl
theorem yAh(P:Params):keepIn (kW P) (.ref 78)=true:=by kernel_rfl
noncomputable def zL7:Fn:=⟨.ofString "insort_left",zAl (stAt 11),96,.ref 95,fun _=>[],rfl⟩
noncomputable def zUd:Fn:=⟨.ofString "insort_right",zAl (stAt 9),78,.ref 77,fun _=>[],rfl⟩
noncomputable abbrev yD7(x:PyData)(f:Addr)(lo hi:Nat):List (zA0×SV):=[(.ofString "a",.r 0),(.ofString "x",.d x),(.ofString "lo",.d (.int lo)),(.ofString "hi",.d (.int hi)),(.ofString "key",.v (.ref f))]
theorem zKe{lo hi n:Nat}(h:lo<hi)(k:hi≤n)(l:n≤1000):lo+hi≤4000:=by lia
theorem zAg{a b:Nat}(h:a≤b):ble a b=true:=Nat.ble_eq.mpr h
theorem zU0{α:Type}{l:List α}{i:Nat}(h:i<l.length):∃y,l[i]? = some y:=⟨_,getElem?_eq_getElem h⟩
theorem zV8{S:List Int}{z:Int}{j:Nat}(hn:S.length≤1000)(hj:j≤S.length)(hc:∀i v,S[i]? = some v→(v<z↔i<j)):Con 0 105 [.r 0,.d (.int z),.d (.int 0),.d .none] [] [.lst (pints S)] (.d (.int j)) [.lst (pints S)]:=
 Con.enterN (fn:=zJ2) (fun _=>rfl) [(.ofString "key",.none)] [(.ofString "key",.d .none)] (zIo hn hj hc) (fun _=>.cons .none .nil) (fun P s a1 a2 a3 a4 X=>zAd X (fun _=>by kernel_rfl))
theorem zMf{S:List PyData}{z:zA0}{j f dk:Nat}{K:PyData→zA0}(hK:∀y∈S,Con dk f [.d y] [] [] (.d (.str (K y))) [])(hf:∀P,keepIn (kW P) (.ref f)=true)(hn:S.length≤1000)(hj:j≤S.length)(hc:∀i y,S[i]? = some y→((K y).cps.toList<z.cps.toList↔i<j)):zEa zJ2 (dk+1) (zV6 (.d (.str z)) (.v (.ref f))) [.lst (S)] (zAf (stAt 12)) (.d (.int j)) [.lst (S)]:=by
 intro c Q ret fin
 have hn':=hn
 conv=>arg 5;arg 1;whnf
 refine J.iff (EvB.cmp (.loc rfl) .int .ltI) (by decide) (J.pop ?_)
 refine J.ift (EvB.cmp (.loc rfl) .non .isN) rfl (J.seq (Ex.assign (Ev.call (Ev.built zD9 zD8 (by decide)) (.cons (.loc rfl) .nil) (CallS.len rfl (le_trans hn' (by decide))) .b)) (J.pop ?_))
 refine J.iff (EvB.cmp (.loc rfl) .non (.isX rfl)) rfl ?_
 refine J.while (X:=Nat×Nat) (fun p=>p.2-p.1) (BisI j S.length) (fun p=>yD7 (.str z) f p.1 p.2) (fun _=>[.lst (S)]) (0,(S).length) ⟨zero_le _,hj,le_refl _⟩ ⟨rfl,rfl,rfl,rfl,rfl⟩ ?_
 rintro ⟨lo,hi⟩ h
 refine .mk (EvB.cmp (.loc rfl) (.loc rfl) .ltI) (fun hb Q₁ q=>?_) fun hb=>?_
 ·have hl:=zLm (c:=true) hb
  have hm:=lt_of_lt_of_le (zFl hl).2 h.c
  obtain ⟨y,hy⟩:=zU0 hm
  refine J.seq (Ex.assign (Ev.bin (Ev.bin (.loc rfl) (.loc rfl) .addI) .int (BinS.half (zKe hl h.c hn)))) ?_
  refine J.ite (EvB.cmp (Ev.call (.loc rfl) (.cons (Ev.sub (.loc rfl) (.loc rfl) (SubS.item rfl (le_trans hn' (by decide)) (hy))) .nil) (CallS.con0 (hK y (mem_of_getElem? hy)) rfl (zAg (le_refl _))) (.k hf)) (.loc rfl) .ltT) (fun hb=>?_) fun hb=>?_
  ·obtain ⟨h1,h2⟩:=h.up hl ((hc _ _ (hy)).mp (of_decide_eq_true hb))
   exact J.seq (Ex.assign (Ev.bin (.loc rfl) .int .succ)) (J.pop (J.pop (J.next q (_,hi) ⟨h1,h2⟩ ⟨rfl,rfl,rfl,rfl,rfl⟩)))
  ·obtain ⟨h1,h2⟩:=h.dn hl (fun k=>of_decide_eq_false hb ((hc _ _ (hy)).mpr k))
   exact J.seq (Ex.assign (.loc rfl)) (J.pop (J.pop (J.next q (lo,_) ⟨h1,h2⟩ ⟨rfl,rfl,rfl,rfl,rfl⟩)))
 ·have e:=h.fin (zI0 hb)
  subst e
  exact J.pop (J.ret (.loc rfl) fun z s x O r=>ret _ _ _ _ O r)
theorem zS0{S:List PyData}{z:zA0}{j f dk:Nat}{K:PyData→zA0}(hK:∀y∈S,Con dk f [.d y] [] [] (.d (.str (K y))) [])(hf:∀P,keepIn (kW P) (.ref f)=true)(hn:S.length≤1000)(hj:j≤S.length)(hc:∀i y,S[i]? = some y→((K y).cps.toList<z.cps.toList↔i<j)):Con (dk+1) 105 [.r 0,.d (.str z),.d (.int 0),.d .none] [(.ofString "key",.ref f)] [.lst (S)] (.d (.int j)) [.lst (S)]:=
 Con.enterN (fn:=zJ2) (fun _=>rfl) [(.ofString "key",.ref f)] [(.ofString "key",.v (.ref f))] (zMf hK hf hn hj hc) (fun _=>.cons rfl .nil) (fun P s a1 a2 a3 a4 X=>zAd X (fun _=>by kernel_rfl))
theorem zO8{S:List Int}{z:Int}{j:Nat}(hn:S.length≤1000)(hj:j≤S.length)(hc:∀i v,S[i]? = some v→(z<v↔¬i<j)):zEa zL6 0 (zV6 (.d (.int z)) (.d .none)) [.lst (pints S)] (zAf (stAt 10)) (.d (.int j)) [.lst (pints S)]:=by
 intro c Q ret fin
 have hn':(pints S).length≤1000:=pil S▸hn
 conv=>arg 5;arg 1;whnf
 refine J.iff (EvB.cmp (.loc rfl) .int .ltI) (by decide) (J.pop ?_)
 refine J.ift (EvB.cmp (.loc rfl) .non .isN) rfl (J.seq (Ex.assign (Ev.call (Ev.built zD9 zD8 (by decide)) (.cons (.loc rfl) .nil) (CallS.len rfl (le_trans hn' (by decide))) .b)) (J.pop ?_))
 refine J.ift (EvB.cmp (.loc rfl) .non .isN) rfl ?_
 refine J.while (X:=Nat×Nat) (fun p=>p.2-p.1) (BisI j S.length) (fun p=>yD8 S z p.1 p.2) (fun _=>[.lst (pints S)]) (0,(pints S).length) ⟨zero_le _,pil S▸hj,pil S▸le_refl _⟩ ⟨rfl,rfl,rfl,rfl,rfl⟩ ?_
 rintro ⟨lo,hi⟩ h
 refine .mk (EvB.cmp (.loc rfl) (.loc rfl) .ltI) (fun hb Q₁ q=>?_) fun hb=>?_
 ·have hl:=zLm (c:=true) hb
  have hm:=lt_of_lt_of_le (zFl hl).2 h.c
  refine J.seq (Ex.assign (Ev.bin (Ev.bin (.loc rfl) (.loc rfl) .addI) .int (BinS.half (zKe hl h.c hn)))) ?_
  refine J.ite (EvB.cmp (.loc rfl) (Ev.sub (.loc rfl) (.loc rfl) (SubS.item rfl (le_trans hn' (by decide)) (zLu hm))) .ltI) (fun hb=>?_) fun hb=>?_
  ·obtain ⟨h1,h2⟩:=h.dn hl ((hc _ _ (zF1 hm)).mp (of_decide_eq_true hb))
   exact J.seq (Ex.assign (.loc rfl)) (J.pop (J.pop (J.next q (lo,_) ⟨h1,h2⟩ ⟨rfl,rfl,rfl,rfl,rfl⟩)))
  ·obtain ⟨h1,h2⟩:=h.up hl (Decidable.byContradiction fun k=>of_decide_eq_false hb ((hc _ _ (zF1 hm)).mpr k))
   exact J.seq (Ex.assign (Ev.bin (.loc rfl) .int .succ)) (J.pop (J.pop (J.next q (_,hi) ⟨h1,h2⟩ ⟨rfl,rfl,rfl,rfl,rfl⟩)))
 ·have e:=h.fin (zI0 hb)
  subst e
  exact J.pop (J.ret (.loc rfl) fun z s x O r=>ret _ _ _ _ O r)
theorem zOc{S:List Int}{z:Int}{j:Nat}(hn:S.length≤1000)(hj:j≤S.length)(hc:∀i v,S[i]? = some v→(z<v↔¬i<j)):Con 0 87 [.r 0,.d (.int z)] [] [.lst (pints S)] (.d (.int j)) [.lst (pints S)]:=
 Con.enterN (fn:=zL6) (fun _=>rfl) [(.ofString "lo",.int 0 390),(.ofString "hi",.none),(.ofString "key",.none)] [(.ofString "lo",.d (.int 0)),(.ofString "hi",.d .none),(.ofString "key",.d .none)] (zO8 hn hj hc) (fun _=>.cons .int (.cons .none (.cons .none .nil))) (fun P s a1 a2 X=>zAd X (fun _=>by kernel_rfl))
theorem zMg{S:List PyData}{z:zA0}{j f dk:Nat}{K:PyData→zA0}(hK:∀y∈S,Con dk f [.d y] [] [] (.d (.str (K y))) [])(hf:∀P,keepIn (kW P) (.ref f)=true)(hn:S.length≤1000)(hj:j≤S.length)(hc:∀i y,S[i]? = some y→(z.cps.toList<(K y).cps.toList↔¬i<j)):zEa zL6 (dk+1) (zV6 (.d (.str z)) (.v (.ref f))) [.lst (S)] (zAf (stAt 10)) (.d (.int j)) [.lst (S)]:=by
 intro c Q ret fin
 have hn':=hn
 conv=>arg 5;arg 1;whnf
 refine J.iff (EvB.cmp (.loc rfl) .int .ltI) (by decide) (J.pop ?_)
 refine J.ift (EvB.cmp (.loc rfl) .non .isN) rfl (J.seq (Ex.assign (Ev.call (Ev.built zD9 zD8 (by decide)) (.cons (.loc rfl) .nil) (CallS.len rfl (le_trans hn' (by decide))) .b)) (J.pop ?_))
 refine J.iff (EvB.cmp (.loc rfl) .non (.isX rfl)) rfl ?_
 refine J.while (X:=Nat×Nat) (fun p=>p.2-p.1) (BisI j S.length) (fun p=>yD7 (.str z) f p.1 p.2) (fun _=>[.lst (S)]) (0,(S).length) ⟨zero_le _,hj,le_refl _⟩ ⟨rfl,rfl,rfl,rfl,rfl⟩ ?_
 rintro ⟨lo,hi⟩ h
 refine .mk (EvB.cmp (.loc rfl) (.loc rfl) .ltI) (fun hb Q₁ q=>?_) fun hb=>?_
 ·have hl:=zLm (c:=true) hb
  have hm:=lt_of_lt_of_le (zFl hl).2 h.c
  obtain ⟨y,hy⟩:=zU0 hm
  refine J.seq (Ex.assign (Ev.bin (Ev.bin (.loc rfl) (.loc rfl) .addI) .int (BinS.half (zKe hl h.c hn)))) ?_
  refine J.ite (EvB.cmp (.loc rfl) (Ev.call (.loc rfl) (.cons (Ev.sub (.loc rfl) (.loc rfl) (SubS.item rfl (le_trans hn' (by decide)) (hy))) .nil) (CallS.con0 (hK y (mem_of_getElem? hy)) rfl (zAg (le_refl _))) (.k hf)) .ltT) (fun hb=>?_) fun hb=>?_
  ·obtain ⟨h1,h2⟩:=h.dn hl ((hc _ _ (hy)).mp (of_decide_eq_true hb))
   exact J.seq (Ex.assign (.loc rfl)) (J.pop (J.pop (J.next q (lo,_) ⟨h1,h2⟩ ⟨rfl,rfl,rfl,rfl,rfl⟩)))
  ·obtain ⟨h1,h2⟩:=h.up hl (Decidable.byContradiction fun k=>of_decide_eq_false hb ((hc _ _ (hy)).mpr k))
   exact J.seq (Ex.assign (Ev.bin (.loc rfl) .int .succ)) (J.pop (J.pop (J.next q (_,hi) ⟨h1,h2⟩ ⟨rfl,rfl,rfl,rfl,rfl⟩)))
 ·have e:=h.fin (zI0 hb)
  subst e
  exact J.pop (J.ret (.loc rfl) fun z s x O r=>ret _ _ _ _ O r)
theorem zS1{S:List PyData}{z:zA0}{j f dk:Nat}{K:PyData→zA0}(hK:∀y∈S,Con dk f [.d y] [] [] (.d (.str (K y))) [])(hf:∀P,keepIn (kW P) (.ref f)=true)(hn:S.length≤1000)(hj:j≤S.length)(hc:∀i y,S[i]? = some y→(z.cps.toList<(K y).cps.toList↔¬i<j)):Con (dk+1) 87 [.r 0,.d (.str z),.d (.int 0),.d .none] [(.ofString "key",.ref f)] [.lst (S)] (.d (.int j)) [.lst (S)]:=
 Con.enterN (fn:=zL6) (fun _=>rfl) [(.ofString "key",.ref f)] [(.ofString "key",.v (.ref f))] (zMg hK hf hn hj hc) (fun _=>.cons rfl .nil) (fun P s a1 a2 a3 a4 X=>zAd X (fun _=>by kernel_rfl))
theorem zP7{S:List Int}{z:Int}{j:Nat}(hn:S.length≤1000)(hj:j≤S.length)(hc:∀i v,S[i]? = some v→(v<z↔i<j)):zEa zL7 1 (zV6 (.d (.int z)) (.d .none)) [.lst (pints S)] (zAf (stAt 11)) (.d .none) [.lst ((pints S).take j ++ .int z::(pints S).drop j)]:=by
 intro c Q ret fin
 conv=>arg 5;arg 1;whnf
 refine J.ift (EvB.cmp (.loc rfl) .non .isN) rfl ?_
 refine J.seq (Ex.assign (Ev.call (.glob zJ4) (.cons (.loc rfl) (.cons (.loc rfl) (.cons (.loc rfl) (.cons (.loc rfl) .nil)))) (CallS.con [0] (zV8 hn hj hc) (zAg (le_refl _)) rfl rfl rfl rfl) (.k zJn))) (J.pop ?_)
 refine J.seq (Ex.expr (Ev.meth (.loc rfl) (.insert rfl) (.cons (.loc rfl) (.cons (.loc rfl) .nil)) (CallS.insert rfl (pil S▸le_trans hn (by decide)) (pil S▸hj)) .b)) (J.pop ?_)
 exact fin rfl _
theorem zY8{S:List Int}{z:Int}{j:Nat}(hn:S.length≤1000)(hj:j≤S.length)(hc:∀i v,S[i]? = some v→(v<z↔i<j)):Con 1 96 [.r 0,.d (.int z)] [] [.lst (pints S)] (.d .none) [.lst ((pints S).take j ++ .int z::(pints S).drop j)]:=
 Con.enterN (fn:=zL7) (fun _=>rfl) [(.ofString "lo",.int 0 404),(.ofString "hi",.none),(.ofString "key",.none)] [(.ofString "lo",.d (.int 0)),(.ofString "hi",.d .none),(.ofString "key",.d .none)] (zP7 hn hj hc) (fun _=>.cons .int (.cons .none (.cons .none .nil))) (fun P s a1 a2 X=>zAd X (fun _=>by kernel_rfl))
theorem zMw{S:List PyData}{x:PyData}{j f dk:Nat}{K:PyData→zA0}(hK:∀y∈S,Con dk f [.d y] [] [] (.d (.str (K y))) [])(hx:Con dk f [.d x] [] [] (.d (.str (K x))) [])(hf:∀P,keepIn (kW P) (.ref f)=true)(hn:S.length≤1000)(hj:j≤S.length)(hc:∀i y,S[i]? = some y→((K y).cps.toList<(K x).cps.toList↔i<j)):zEa zL7 (dk+2) (zV6 (.d (x)) (.v (.ref f))) [.lst (S)] (zAf (stAt 11)) (.d .none) [.lst ((S).take j++x::(S).drop j)]:=by
 intro c Q ret fin
 conv=>arg 5;arg 1;whnf
 refine J.iff (EvB.cmp (.loc rfl) .non (.isX rfl)) rfl ?_
 refine J.seq (Ex.assign (Ev.callK (.glob zJ4) (.cons (.loc rfl) (.cons (Ev.call (.loc rfl) (.cons (.loc rfl) .nil) (CallS.con0 hx rfl (zAg (le_succ _))) (.k hf)) (.cons (.loc rfl) (.cons (.loc rfl) .nil)))) (fun _=>.loc rfl) (CallS.con [0] (zS0 hK hf hn hj hc) (zAg (le_refl _)) rfl rfl rfl rfl) zJn)) (J.pop ?_)
 refine J.seq (Ex.expr (Ev.meth (.loc rfl) (.insert rfl) (.cons (.loc rfl) (.cons (.loc rfl) .nil)) (CallS.insert rfl (le_trans hn (by decide)) hj) .b)) (J.pop ?_)
 exact fin rfl _
theorem zOd{S:List PyData}{x:PyData}{j f dk:Nat}{K:PyData→zA0}(hK:∀y∈S,Con dk f [.d y] [] [] (.d (.str (K y))) [])(hx:Con dk f [.d x] [] [] (.d (.str (K x))) [])(hf:∀P,keepIn (kW P) (.ref f)=true)(hn:S.length≤1000)(hj:j≤S.length)(hc:∀i y,S[i]? = some y→((K y).cps.toList<(K x).cps.toList↔i<j)):Con (dk+2) 96 [.r 0,.d (x)] [(.ofString "key",.ref f)] [.lst (S)] (.d .none) [.lst ((S).take j++x::(S).drop j)]:=
 Con.enterN (fn:=zL7) (fun _=>rfl) [(.ofString "lo",.int 0 404),(.ofString "hi",.none),(.ofString "key",.ref f)] [(.ofString "lo",.d (.int 0)),(.ofString "hi",.d .none),(.ofString "key",.v (.ref f))] (zMw hK hx hf hn hj hc) (fun _=>.cons .int (.cons .none (.cons rfl .nil))) (fun P s a1 a2 X=>zAd X (fun _=>by kernel_rfl))
theorem zMx{S:List PyData}{x:PyData}{j f dk:Nat}{K:PyData→zA0}(hK:∀y∈S,Con dk f [.d y] [] [] (.d (.str (K y))) [])(hx:Con dk f [.d x] [] [] (.d (.str (K x))) [])(hf:∀P,keepIn (kW P) (.ref f)=true)(hn:S.length≤1000)(hj:j≤S.length)(hc:∀i y,S[i]? = some y→((K x).cps.toList<(K y).cps.toList↔¬i<j)):zEa zUd (dk+2) (zV6 (.d (x)) (.v (.ref f))) [.lst (S)] (zAf (stAt 9)) (.d .none) [.lst ((S).take j++x::(S).drop j)]:=by
 intro c Q ret fin
 conv=>arg 5;arg 1;whnf
 refine J.iff (EvB.cmp (.loc rfl) .non (.isX rfl)) rfl ?_
 refine J.seq (Ex.assign (Ev.callK (.glob zL8) (.cons (.loc rfl) (.cons (Ev.call (.loc rfl) (.cons (.loc rfl) .nil) (CallS.con0 hx rfl (zAg (le_succ _))) (.k hf)) (.cons (.loc rfl) (.cons (.loc rfl) .nil)))) (fun _=>.loc rfl) (CallS.con [0] (zS1 hK hf hn hj hc) (zAg (le_refl _)) rfl rfl rfl rfl) zLx)) (J.pop ?_)
 refine J.seq (Ex.expr (Ev.meth (.loc rfl) (.insert rfl) (.cons (.loc rfl) (.cons (.loc rfl) .nil)) (CallS.insert rfl (le_trans hn (by decide)) hj) .b)) (J.pop ?_)
 exact fin rfl _
theorem zV9{S:List PyData}{x:PyData}{j f dk:Nat}{K:PyData→zA0}(hK:∀y∈S,Con dk f [.d y] [] [] (.d (.str (K y))) [])(hx:Con dk f [.d x] [] [] (.d (.str (K x))) [])(hf:∀P,keepIn (kW P) (.ref f)=true)(hn:S.length≤1000)(hj:j≤S.length)(hc:∀i y,S[i]? = some y→((K x).cps.toList<(K y).cps.toList↔¬i<j)):Con (dk+2) 78 [.r 0,.d (x)] [(.ofString "key",.ref f)] [.lst (S)] (.d .none) [.lst ((S).take j++x::(S).drop j)]:=
 Con.enterN (fn:=zUd) (fun _=>rfl) [(.ofString "lo",.int 0 377),(.ofString "hi",.none),(.ofString "key",.ref f)] [(.ofString "lo",.d (.int 0)),(.ofString "hi",.d .none),(.ofString "key",.v (.ref f))] (zMx hK hx hf hn hj hc) (fun _=>.cons .int (.cons .none (.cons rfl .nil))) (fun P s a1 a2 X=>zAd X (fun _=>by kernel_rfl))
theorem zVn(P:Params):findIn (kW P) (.ref 262) "__len__" = some (some (.ref 229)):=by kernel_rfl
theorem yBo(P:Params):findIn (kW P) (.ref 262) "__str__" = some (some (.ref 236)):=by kernel_rfl
theorem zYm(P:Params):findIn (kW P) (.ref 262) "__bool__" = some none:=by kernel_rfl
theorem zUf(P:Params):isFn (kW P) (.ref 229)=true:=by kernel_rfl
theorem zYx(P:Params):isFn (kW P) (.ref 236)=true:=by kernel_rfl
def zUz(Q:Bool→Shared→Prop)(v:Value)(s':Shared):Prop:=match v with
 |.int n _=>(0≤n∧n<2 ^ 63)∧Q (n != 0) {s' with toks:=s'.toks+1}
 |_=>False
theorem zMd{w:World}{A:Around}{E:Value→Shared→Prop}{s:Shared}{h₀:Heap}{L x:Addr}{m:Str→Option Value}{ox:Obj}{od:Option Obj}{Q:Bool→Shared→Prop}(F:Fr h₀ L s.heap m)(X₀:(kW w.params).In h₀)(I:InstAt s.heap x ox 262 od)(h:wpAny (model pw w) A.in1 (call (.ref 229) [.ref x]) (zUz Q) E s):wpAny (model pw w) A (truthy (.ref x)) Q E s:=by
 have X:=X₀.keeps F.keep
 unfold truthy
 refine wpAny_bind (m:=callSpecial? (.ref x) (Str.ofString "__bool__")) (wpAny_bind (wpAny_bind (I.type.here ((looks_findIn X (zYm _)).here (wpAny_pure ?_)))))
 refine wpAny_bind (wpAny_bind (I.type.here ((looks_findIn X (zVn _)).here ?_)))
 have key:wpAny (model pw w) A (runValue (.builtin "len" ⟨[.ref x],[]⟩)) (fun r s'=>∃n t,r = .int n t∧Q (n != 0) s') E s:=by
  refine wpAny_runValue (codeAny_builtin entry_len ?_)
  rw [Around.under_plainId plain_len _]
  have body:wpAny (model pw w) A.in1 (Builtin.«len» ⟨[.ref x],[]⟩) (fun fin s'=>∃r,fin = .done (.ret r)∧∃n t,r = .int n t∧Q (n != 0) s') E s:=by
   unfold Builtin.«len»
   refine wpAny_bind (m:=oneArg "len" _) (wpAny_pure ?_)
   refine wpAny_bind (m:=callSpecial? (.ref x) (Str.ofString "__len__")) (special_fn X I (zVn _) (beq_iff_eq.mp (zUf _)) (wpAny_mono h (fun r s' hr=>?_) fun _ _ y=>y))
   induction r<;>first|exact hr.elim|skip
   rename_i n u
   obtain ⟨⟨h0,h1⟩,hq⟩:=hr
   refine wpAny_bind (wpAny_holding (wpAny_pure ?_))
   refine wpAny_bind (wpAny_letGo ?_)
   show wpAny _ _ (if n<0 then _ else _) _ _ _
   rw [if_neg (by omega)]
   show wpAny _ _ (if n≥2 ^ 63 then _ else _) _ _ _
   rw [if_neg (by omega)]
   exact wpAny_bind (wpAny_mkInt (wpAny_pure ⟨_,rfl,n,_,rfl,hq⟩))
  exact wpAny_mono body (fun fin s' h'=>by obtain ⟨r,rfl,hq⟩:=h';exact hq) fun _ _ e=>e
 show wpAny _ _ (runValue _ >>= _) _ _ _
 refine wpAny_bind (wpAny_mono key (fun r s' hr=>?_) fun _ _ y=>y)
 obtain ⟨n,t,rfl,hq⟩:=hr
 exact wpAny_pure hq
noncomputable abbrev pcs(ps:List (zA0×zA0)):List PyData:=ps.map fun p=>.tuple [.str p.1,.str p.2]
noncomputable abbrev zDt(l:List PyData)(k:Int):List SO:=[.accO 1 l,.attrs [(.ofString "_initial_size",.d (.int k))]]
theorem SRepL.c1{z:Wd}{x:SV}{vs:List Value}(h:SRepL z [x] vs):∃a,vs=[a]∧SRep z x a:=by obtain ⟨a,us,rfl,r,k⟩:=h.cons_;rw [k.nil_];exact ⟨a,rfl,r⟩
theorem SRepL.c2{z:Wd}{x y:SV}{vs:List Value}(h:SRepL z [x,y] vs):∃a b,vs=[a,b]∧SRep z x a∧SRep z y b:=by obtain ⟨a,us,rfl,r,k⟩:=h.cons_;obtain ⟨b,rfl,q⟩:=k.c1;exact ⟨a,b,rfl,r,q⟩
theorem SRepL.c3{z:Wd}{x y u:SV}{vs:List Value}(h:SRepL z [x,y,u] vs):∃a b c,vs=[a,b,c]∧SRep z x a∧SRep z y b∧SRep z u c:=by obtain ⟨a,us,rfl,r,k⟩:=h.cons_;obtain ⟨b,c,rfl,q⟩:=k.c2;exact ⟨a,b,c,rfl,r,q⟩
section
variable {l:List PyData}{k:Int}
theorem zF4{Z:List (Addr×Obj)}{y:PyData}{vs:List Value}(h:DRepL Z (l++[y]) vs):∃us v,vs=us++[v]∧DRepL Z l us∧DRep Z y v:=by
 induction l generalizing vs with
 |nil=>obtain ⟨v,us,rfl,a,b⟩:=h.cons_;rw [b.nil_];exact ⟨[],v,rfl,.nil,a⟩
 |cons x l ih=>
  obtain ⟨v,us,rfl,a,b⟩:=h.cons_
  obtain ⟨us',v',rfl,c,e⟩:=ih b
  exact ⟨v::us',v',rfl,.cons a c,e⟩
end
noncomputable abbrev zG1(ad:Addr)(p:Pos):SO:=.is fun _ a o=>a=ad∧∃tb,o=tabObj tb∧TabOk p tb
theorem zLt{Z:List (Addr×Obj)}:∀{ps:List (zA0×zA0)} {vs:List Value},DRepL Z (pcs ps) vs→Parts Z vs ps
 |[],_,h=>by rw [h.nil_];exact .nil
 |(x,y)::ps,_,h=>by
  obtain ⟨v,us,rfl,a,b⟩:=h.cons_
  obtain ⟨q,ws,rfl,hz,r⟩:=DRep.tuple_ a
  obtain ⟨v1,us1,rfl,a1,b1⟩:=r.cons_
  obtain ⟨v2,us2,rfl,a2,b2⟩:=b1.cons_
  rw [b2.nil_] at hz
  obtain ⟨t1,rfl⟩:=DRep.str_ a1
  obtain ⟨t2,rfl⟩:=DRep.str_ a2
  exact .cons hz (zLt b)
theorem Parts.mono'{Z Z':List (Addr×Obj)}{ps:List (zA0×zA0)}{vs:List Value}(h:Parts Z vs ps)(hs:∀p∈Z,p∈Z'):Parts Z' vs ps:=by
 induction h with
 |nil=>exact .nil
 |cons hq _ ih=>exact .cons (hs _ hq) ih
section
variable {prog:Program}{w:World}{A:Around}{E:Value→Shared→Prop}{s:Shared}{h₀:Heap}{L a d x q:Addr}{m:Str→Option Value}{news:List (Addr×Obj)}{vs:List Value}{n:Nat}{od:Option Obj}{ox:Obj}{k:Value}{tk:Tok}
theorem zVw{name:Str}{tk:Tok}{f:Addr}{Q:Value→Shared→Prop}(X:(kW w.params).In s.heap)(I:InstAt s.heap a ox 262 od)(hf:findObj (kW w.params) 262 od name=some (.bind (.builtin "function.__get__") (.ref f)))(ht:typeIn (kW w.params) (.ref f)=some (.type "function"))(h:Q (.ref s.heap.objs.size) {s with heap:=s.heap.push (methodObj (.ref f) (.ref a))}):
  wpAny (model prog w) A (call (.builtin "list.__getattribute__") [.ref a,.str name tk]) Q E s:=by
 refine wpAny_call (codeAny_call_builtin PySem.F.slot_list_getattribute.plain PySem.F.entry_list_ga (@check_slot (model prog w) _ _ s "list.__getattribute__" "list" "__getattribute__" (.ref a) [.str name tk] [] _ zP1 zLa (zB2 X I) (PySem.F.args_list_getattribute_2 (.ref a) (.str name tk)) ?_))
 unfold Builtin.«object.__getattribute__»
 have e1:slotArgs "__getattribute__" 1 ⟨[.ref a,.str name tk],[]⟩=pure (.ref a,[.str name tk]):=by rfl
 rw [e1]
 refine wpAny_bind (wpAny_pure ?_)
 dsimp only
 have e2:Builtin.ObjectAttr.attrName (.str name tk)=pure name:=by rfl
 rw [e2]
 refine wpAny_bind (wpAny_pure (wpAny_bind (I.type.here (wpAny_bind ((looks_find X I hf).here ?_)))))
 show wpAny _ _ (holding [.ref f] (call (.builtin "function.__get__") [.ref f,.ref a,.ref 262]) >>= ret) _ _ _
 refine wpAny_bind (wpAny_holding (wpAny_call (fn_get X ht ?_)))
 exact wpAny_pure h
theorem zRr{name:Str}{expr:Bool}{f:Addr}{Q:Value→Shared→Prop}(X:(kW w.params).In s.heap)(I:InstAt s.heap a ox 262 od)(hf:findObj (kW w.params) 262 od name=some (.bind (.builtin "function.__get__") (.ref f)))(ht:typeIn (kW w.params) (.ref f)=some (.type "function"))(h:Q (.ref s.heap.objs.size) {s with heap:=s.heap.push (methodObj (.ref f) (.ref a)),toks:=s.toks+1}):
  wpAny (model prog w) A (getAttr (.ref a) name expr) Q E s:=by
 obtain ⟨hp,gg,dd,t,os⟩:=s
 unfold getAttr getAttrBy
 refine wpAny_bind (wpAny_mkText (wpAny_holding (wpAny_bind (I.type.at (wpAny_bind ((looks_findIn X (yBl _)).at ?_))))))
 dsimp only
 rw [if_neg (by decide)]
 unfold getAttrByItsOwn hookBefore
 rw [if_pos (by decide)]
 refine wpAny_bind ((looks_findIn X (yBn _)).at ?_)
 refine wpAny_bind (wpAny_attempt (wpAny_holding ?_))
 unfold callGetattribute
 have hfalse:(expr&&onTheHeap (.builtin "list.__getattribute__"))=false:=by induction expr<;>rfl
 rw [hfalse,if_neg (by decide)]
 unfold boundAndCalled
 rw [PySem.F.slot_list_getattribute.bind (.ref a)]
 refine wpAny_bind (wpAny_pure ?_)
 refine zVw (s:=⟨hp,gg,dd,t+1,os⟩) X I hf ht ?_
 exact wpAny_pure h
theorem zVt(P:Params)(k:Value)(tk:Tok):findObj (kW P) 262 (some (zGb P k tk)) "push" = some (.bind (.builtin "function.__get__") (.ref 206)):=by kernel_rfl
theorem zXe(P:Params):typeIn (kW P) (.ref 206)=some (.type "function"):=by kernel_rfl
theorem zTh{M:Model}{o e:Expr}{name:Str}{apos pos p:Pos}{env:Env}{Q:Value→Shared→Prop}(h:wpAny M A (eval o env) (fun ov s₁=>wpAny M A (getAttr ov name true) (fun f s₂=>wpAny M A (callWith pos f [] (backTo pos (starEach [.Starred e p] env)) []) Q E s₂) E s₁) E s)(he:autoParam (eval (.Call (.Attribute o name apos) [.Starred e p] [] pos) env=(do
   let ov ←eval o env
   standAt apos.atName
   let (f,first) ←holding [ov] (do pure (←getAttr ov name true,[]))
   callWith pos f first (backTo pos (starEach [.Starred e p] env)) [])) T0R):wpAny M A (eval (.Call (.Attribute o name apos) [.Starred e p] [] pos) env) Q E s:=by
 rw [he]
 refine wpAny_bind (wpAny_mono h (fun ov s₁ h₁=>wpAny_bind (wpAny_standAt (wpAny_bind (wpAny_holding (wpAny_bind (wpAny_mono h₁ (fun f s₂ h₂=>wpAny_pure ?_) fun _ _ x=>x)))))) fun _ _ x=>x)
 exact h₂
theorem yCt{e:Expr}{pos p:Pos}{env:Env}{f g:Addr}{self:Value}{first:List Value}{Q:Value→Shared→Prop}(hk:fnIn (kW w.params) g=true)(F:Fr h₀ L s.heap m)(X:(kW w.params).In h₀)(N:News h₀ L s.heap news)(hq:(f,methodObj (.ref g) self)∈news)(h:wpAny (model prog w) A (eval e env) (fun v s₁=>StarOf (model prog w) A E v (fun vs s₂=>MethP (kW w.params) f g self s₂.heap∧wpAny (model prog w) A (call (.ref f) (first++vs)) Q E s₂) s₁) E s)(he:autoParam (starEach [.Starred e p] env=[(true,eval e env)]) T0R):
  wpAny (model prog w) A (callWith pos (.ref f) first (backTo pos (starEach [.Starred e p] env)) []) Q E s:=by
 rw [he]
 exact ks_call rfl (keeps_M hk) (ks_lone h)
theorem zOu(P:Params):fnIn (kW P) 206=true:=by kernel_rfl
end
section
variable {fn:Fn}{d n₀:Nat}
noncomputable def Cx.in1(c:Cx fn (d+1) n₀):Cx fn d n₀:={c with un:=c.un+1,hdp:=by have:=c.hdp;(exact le_of_lt (by assumption)),hun:=by have:=c.hun;lia}
variable {ps:List (zA0×SV)}{nx nx' nx₁ nx₂:List SO}{z:Wd}{s:Shared}{e l r:Expr}{pos px:Pos}{v v₁ v₂:SV}{x:zA0}{k dk:Nat}
theorem On.in1{c:Cx fn (d+1) n₀}(O:On c ps nx z s):On c.in1 ps nx z s:=by
 induction O with|mk F K N O D G a0 Z0=>exact .mk (c:=c.in1) F K N O D G a0 Z0
theorem On.out1{c:Cx fn (d+1) n₀}(O:On c.in1 ps nx z s):On c ps nx z s:=by
 induction O with|mk F K N O D G a0 Z0=>exact .mk (c:=c) F K N O D G a0 Z0
variable {c:Cx fn d n₀}
noncomputable abbrev szA(i:Int):SO:=.attrs [(.ofString "_initial_size",.d (.int i))]
theorem zEm{P:Params}{z:Wd}{i:Int}{a:Addr}{o:Obj}(h:ORep P z (szA i) a o):∃t u,o=zGb P (.int i t) u:=by
 obtain ⟨ens,rfl,he⟩:=h
 cases he with
 |cons hs he=>cases he;obtain ⟨u,rfl⟩:=DRep.int_ hs;exact ⟨_,_,rfl⟩
theorem On.acc(O:On c ps nx z s){a:Addr}{l:List PyData}{i:Int}(ha:z.as[k]? = some a)(hk:nth nx k = .accO dk l)(hd:nth nx dk=szA i){GL:Prop}(q:∀m d vs n t u news g,Fr c.h₀ c.L s.heap m→News c.h₀ c.L s.heap news→UpdF a (accO d vs n) news g→(d,zGb c.w.params (.int i t) u)∈news→DRepL z.Z l vs→
   (∀l' vs' n' h' tk',DRepL z.Z l' vs'→Fr c.h₀ c.L h' m→News c.h₀ c.L h' (g (accO d vs' n'))→On c ps (upd nx k (.accO dk l')) z {s with heap:=h',toks:=tk'})→GL):GL:=by
 refine O.obj ha fun m o news g F N U ro _ oth G=>?_
 rw [hk] at ro
 obtain ⟨d,vs,n,hd',rfl,hv⟩:=ro
 obtain ⟨ob,hm,rb⟩:=oth dk d hd'
 rw [hd] at rb
 obtain ⟨t,u,rfl⟩:=zEm rb
 exact q m d vs n t u news g F N U hm hv fun l' vs' n' h' tk' hv' F' N'=>G _ _ h' tk' ⟨d,vs',n',hd',rfl,hv'⟩ F' N'
theorem MethS.acc{l:List PyData}{i:Int}{name:zA0}{f:Value}(hk:nth nx k = .accO dk l)(hd:nth nx dk=szA i)(hf:∀P,findIn (kW P) (.ref 262) name=some (some f))(ht:∀P,typeIn (kW P) f=some (.type "function")∨typeIn (kW P) f=some (.type "method_descriptor"))(hs:∀P k t,shadowIn (some (zGb P k t)) name=some false):MethS c ps nx (.r k) name f [.r k]:=fun z s a O r pl Q q=>by
 obtain ⟨a,ha,rfl⟩:=r
 refine O.acc ha hk hd fun m d vs n t u news g F N U hm hv G=>?_
 exact zMa F c.X N (zA2 U) hm (hf _) (ht _) (hs _ _ _) (q s _ O (.cons ⟨a,ha,rfl⟩ .nil))
theorem yCx(P:Params):typeIn (kW P) (.ref 206)=some (.type "function"):=by kernel_rfl
theorem yCy(P:Params):typeIn (kW P) (.ref 214)=some (.type "function"):=by kernel_rfl
theorem yCz(P:Params):typeIn (kW P) (.ref 222)=some (.type "function"):=by kernel_rfl
theorem yD0(P:Params):typeIn (kW P) (.ref 244)=some (.type "function"):=by kernel_rfl
theorem yD1(P:Params):typeIn (kW P) (.ref 251)=some (.type "function"):=by kernel_rfl
theorem yD2(P:Params):typeIn (kW P) (.ref 259)=some (.type "function"):=by kernel_rfl
theorem yD3(P:Params):typeIn (kW P) (.builtin "list.append")=some (.type "method_descriptor"):=by kernel_rfl
theorem yAf(P:Params):keepIn (kW P) (.ref 206)=true:=by kernel_rfl
theorem yCo(P:Params):keepIn (kW P) (.ref 214)=true:=by kernel_rfl
theorem yCp(P:Params):keepIn (kW P) (.ref 222)=true:=by kernel_rfl
theorem yDg(P:Params):keepIn (kW P) (.ref 244)=true:=by kernel_rfl
theorem yDz(P:Params):keepIn (kW P) (.ref 251)=true:=by kernel_rfl
theorem zXk(P:Params):keepIn (kW P) (.ref 259)=true:=by kernel_rfl
section
variable {l:List PyData}{i:Int}(hk:nth nx k = .accO dk l)(hd:nth nx dk=szA i)
include hk hd
theorem MethS.push:MethS c ps nx (.r k) (.ofString "push") (.ref 206) [.r k]:=MethS.acc hk hd zVp (fun P=>.inl (yCx P)) fun _ _ _=>rfl
theorem MethS.popf:MethS c ps nx (.r k) (.ofString "pop_from") (.ref 214) [.r k]:=MethS.acc hk hd zKc (fun P=>.inl (yCy P)) fun _ _ _=>rfl
theorem MethS.popA:MethS c ps nx (.r k) (.ofString "pop") (.ref 222) [.r k]:=MethS.acc hk hd zYn (fun P=>.inl (yCz P)) fun _ _ _=>rfl
theorem MethS.reset:MethS c ps nx (.r k) (.ofString "reset") (.ref 244) [.r k]:=MethS.acc hk hd zSh (fun P=>.inl (yD0 P)) fun _ _ _=>rfl
theorem MethS.only:MethS c ps nx (.r k) (.ofString "is_onlyws") (.ref 251) [.r k]:=MethS.acc hk hd zJ0 (fun P=>.inl (yD1 P)) fun _ _ _=>rfl
theorem MethS.pc:MethS c ps nx (.r k) (.ofString "part_count") (.ref 259) [.r k]:=MethS.acc hk hd zHo (fun P=>.inl (yD2 P)) fun _ _ _=>rfl
theorem MethS.appA:MethS c ps nx (.r k) (.ofString "append") (.builtin "list.append") [.r k]:=MethS.acc hk hd zOt (fun P=>.inr (yD3 P)) fun _ _ _=>rfl
theorem CallS.appA{y:PyData}(hl:l.length≤100000):CallS c ps nx (.builtin "list.append") [.r k,.d y] [] (.d .none) (upd nx k (.accO dk (l++[y]))):=fun z s xs O hx Q q=>by
 obtain ⟨_,_,rfl,⟨a,ha,rfl⟩,hb⟩:=hx.c2
 refine O.acc ha hk hd fun m d vs n t u news g F N U hm hv G=>?_
 exact zIh F c.X N U hm (hv.len▸hl) fun h' n' F' N'=>q z _ _ (.refl _) (G _ _ n' h' s.toks (hv.append (.cons hb .nil)) F' N') .none
theorem SubS.accI{value slice:Expr}{y:PyData}{j:Nat}(hl:l.length≤100000)(hj:l[j]? = some y)(hs:autoParam (∀a u,subscripted slice false (.ref a) (.int j u)=operate [.ref a,.int j u] (getItem (.ref a) (.int j u))) zKr):SubS c ps nx value slice (.r k) (.d (.int j)) (.d y):=fun z s a₁ a₂ O h1 h2 Q q=>by
 obtain ⟨a,ha,rfl⟩:=h1
 obtain ⟨t',rfl⟩:=DRep.int_ h2
 refine O.acc ha hk hd fun m d vs n t u news g F N U hm hv G=>?_
 obtain ⟨v,hv',rv'⟩:=hv.at hj
 have hjl:=(List.getElem?_eq_some_iff.mp hv').1
 refine zAv (x:=.ofString "x") (px:=default) ?_
 refine zIk F c.X N (zA2 U) hm (natCast_nonneg j) (ofNat_lt.mpr hjl) (hv.len▸hl) (fun v' e=>?_) (hs _ _) (fun _=>rfl)
 rw [toNat_natCast,hv'] at e
 cases e
 exact q _ _ O rv'
end
theorem CallS.lenA{c:Cx fn (d+1) n₀}{l:List PyData}{i:Int}{n:Nat}(hk:nth nx k = .accO dk l)(hd:nth nx dk=szA i)(C:CallS c.in1 ps nx (.ref 229) [.r k] [] (.d (.int n)) nx')(hn:n≤10000000):CallS c ps nx (.builtin "len") [.r k] [] (.d (.int n)) nx':=fun z s xs O hx Q q=>by
 have hx':=hx
 obtain ⟨_,rfl,⟨a,ha,rfl⟩⟩:=hx.c1
 refine O.acc ha hk hd fun m d vs n' t u news g F N U hm hv G=>?_
 refine len_K F c.X (zAh N (zA2 U) hm) (zVn _) (zUf _) (C z s _ O.in1 hx' _ fun z' s' x le O' r=>?_)
 obtain ⟨t',rfl⟩:=DRep.int_ r
 exact ⟨by omega,q z' _ _ le (O'.out1.toks _) .int⟩
theorem CallS.strA{c:Cx fn (d+2) n₀}{l:List PyData}{i:Int}{y:zA0}(hk:nth nx k = .accO dk l)(hd:nth nx dk=szA i)(C:CallS c.in1.in1 ps nx (.ref 236) [.r k] [] (.d (.str y)) nx'):CallS c ps nx (.type "str") [.r k] [] (.d (.str y)) nx':=fun z s xs O hx Q q=>by
 have hx':=hx
 obtain ⟨_,rfl,⟨a,ha,rfl⟩⟩:=hx.c1
 refine O.acc ha hk hd fun m d vs n' t u news g F N U hm hv G=>?_
 have hun:=c.hun
 refine kso_call (K:=kW c.w.params) (by show c.un+1+1<cLine;rw [cLine_is];lia) O.top (zAh N (zA2 U) hm) (yBo _) (zYx _) (C z s _ O.in1.in1 hx' _ fun z' s' x le O' r=>?_)
 obtain ⟨t',rfl⟩:=DRep.str_ r
 exact q z' _ _ le O'.out1.out1 .str
theorem TruS.acc{c:Cx fn (d+1) n₀}{l:List PyData}{i:Int}{n:Nat}(hk:nth nx k = .accO dk l)(hd:nth nx dk=szA i)(C:CallS c.in1 ps nx (.ref 229) [.r k] [] (.d (.int n)) nx)(hn:n≤10000000):TruS c ps nx (.r k) (n != 0):=fun z s a O hr Q q=>by
 have hr':=hr
 obtain ⟨a,ha,rfl⟩:=hr
 refine O.acc ha hk hd fun m d vs n' t u news g F N U hm hv G=>?_
 refine zMd F c.X (zAh N (zA2 U) hm) (C z s _ O.in1 (.cons hr' .nil) _ fun z' s' x le O' r=>?_)
 obtain ⟨t',rfl⟩:=DRep.int_ r
 have e:((n:Int) != 0)=(n != 0):=by induction n<;>rfl
 exact ⟨by omega,e▸q z' _ le (O'.out1.toks _)⟩
theorem MethS.str{y:zA0}{name:zA0}{id:String}(slot:Slot "str" name id)(hty:typeOf (.builtin id)=pure (.type "method_descriptor")):MethS c ps nx (.d (.str y)) name (.builtin id) [.d (.str y)]:=fun z s a O r pl Q q=>by
 obtain ⟨t,rfl⟩:=DRep.str_ r
 exact getMethod_builtin (typeIs_str s y t) PySem.F.plainAttrs_str slot hty (fun a e=>by cases e) (q s _ O (.cons .str .nil))
theorem CallS.isspace{y:zA0}:CallS c ps nx (.builtin "str.isspace") [.d (.str y)] [] (.d (.bool (Txt.isspace y))) nx:=fun z s xs O hx Q q=>by
 obtain ⟨_,rfl,r⟩:=hx.c1
 obtain ⟨t,rfl⟩:=DRep.str_ r
 exact SC.isspace (q z s _ (.refl _) O .bool)
theorem CallS.find{y u:zA0}:CallS c ps nx (.builtin "str.find") [.d (.str y),.d (.str u)] [] (.d (.int (Txt.find y u))) nx:=fun z s xs O hx Q q=>by
 obtain ⟨_,_,rfl,r,r'⟩:=hx.c2
 obtain ⟨t,rfl⟩:=DRep.str_ r
 obtain ⟨t',rfl⟩:=DRep.str_ r'
 exact SC.find (q z _ _ (.refl _) (O.toks _) .int)
theorem zG0{Z:List (Addr×Obj)}:∀{texts:List zA0} {vs:List Value},DRepL Z (texts.map .str) vs→∃l:List (zA0×Tok),vs=strValues l∧l.map (·.1)=texts
 |[],_,h=>by rw [h.nil_];exact ⟨[],rfl,rfl⟩
 |x::xs,_,h=>by
  obtain ⟨v,us,rfl,a,b⟩:=h.cons_
  obtain ⟨t,rfl⟩:=DRep.str_ a
  obtain ⟨l,rfl,e⟩:=zG0 b
  exact ⟨(x,t)::l,rfl,by rw [map_cons,e]⟩
theorem CallS.join{y:zA0}{texts:List zA0}(hk:nth nx k = .lst (texts.map .str))(hj:JoinOk y texts=true):CallS c ps nx (.builtin "str.join") [.d (.str y),.r k] [] (.d (.str (Txt.join y texts))) nx:=fun z s xs O hx Q q=>by
 obtain ⟨_,_,rfl,r,⟨a,ha,rfl⟩⟩:=hx.c2
 obtain ⟨t,rfl⟩:=DRep.str_ r
 refine O.obj ha fun m o news g F N U ro _ _ _=>?_
 rw [hk] at ro
 obtain ⟨vs,n,rfl,rv⟩:=ro
 obtain ⟨l,rfl,e⟩:=zG0 rv
 exact SC.join ⟨_,(N _ (zA2 U)).1,rfl,n,rfl⟩ e hj fun t' tk=>q z _ _ (.refl _) (O.toks _) .str
theorem CallS.joinD{y:zA0}{texts:List zA0}(hj:JoinOk y texts=true):CallS c ps nx (.builtin "str.join") [.d (.str y),.d (.list (texts.map .str))] [] (.d (.str (Txt.join y texts))) nx:=fun z s xs O hx Q q=>by
 obtain ⟨_,_,rfl,r,r'⟩:=hx.c2
 obtain ⟨t,rfl⟩:=DRep.str_ r
 obtain ⟨a,vs,n,rfl,hz,rv⟩:=DRep.list_ r'
 refine O.growZ fun m news F N hZ _=>?_
 obtain ⟨l,rfl,e⟩:=zG0 rv
 exact SC.join ⟨_,(N _ (hZ _ hz)).1,rfl,n,rfl⟩ e hj fun t' tk=>q z _ _ (.refl _) (O.toks _) .str
theorem On.insts(O:On c ps nx z s){a C:Addr}{es:List (zA0×SV)}(ha:z.as[k]? = some a)(hk:nth nx k = .inst C dk)(hd:nth nx dk = .attrs es){GL:Prop}(q:∀m ens news dx,Fr c.h₀ c.L s.heap m→News c.h₀ c.L s.heap news→W.InstAt s.heap a (instObj C dx) C (some (dictOf ens es.length))→AttrL c.w.params z es ens→GL):GL:=by
 refine O.obj ha fun m o news g F N U ro _ oth G=>?_
 rw [hk] at ro
 obtain ⟨dx,hd',rfl⟩:=ro
 obtain ⟨ob,hm,rb⟩:=oth dk dx hd'
 rw [hd] at rb
 obtain ⟨ens,rfl,he⟩:=rb
 exact q m ens news dx F N ⟨(N _ (zA2 U)).1,rfl,rfl,(N _ hm).1⟩ he
theorem AttrL.keys{P:Params}{z:Wd}{es:List (zA0×SV)}{ens:List DictEntry}(h:AttrL P z es ens):ens.any (·.refKey)=false:=by
 induction h with
 |nil=>rfl
 |cons _ _ ih=>rw [List.any_cons,ih];rfl
theorem AttrL.find{P:Params}{z:Wd}{es:List (zA0×SV)}{ens:List DictEntry}(h:AttrL P z es ens){x:zA0}:(es.lookup x=none∧ens.find? (·.key.isStr x)=none)∨∃sv e,es.lookup x=some sv∧ens.find? (·.key.isStr x)=some e∧SRep z sv e.val:=by
 induction h with
 |nil=>exact .inl ⟨rfl,rfl⟩
 |@cons y t sv v xs es r _ ih=>
  have hc:(x==y)=(y==x):=by
   rw [Bool.eq_iff_iff,beq_iff_eq,beq_iff_eq];exact eq_comm
  rw [lookup_cons,List.find?_cons,show Value.isStr (DictEntry.key ⟨PyData.keyHash P y,.str y t,v⟩) x=(y==x) from rfl,hc]
  cases q:y==x with
  |true=>exact .inr ⟨sv,_,rfl,rfl,r⟩
  |false=>exact ih
theorem AttrL.get{P:Params}{z:Wd}{es:List (zA0×SV)}{ens:List DictEntry}(h:AttrL P z es ens){x:zA0}{sv:SV}(e:es.lookup x=some sv):∃v,getL x ens=some (some v)∧SRep z sv v:=by
 rcases h.find (x:=x) with ⟨a,_⟩|⟨sv',en,a,b,r⟩
 ·rw [a] at e;cases e
 ·rw [a] at e;cases e;exact ⟨en.val,by unfold getL;rw [b],r⟩
theorem AttrL.miss{P:Params}{z:Wd}{es:List (zA0×SV)}{ens:List DictEntry}(h:AttrL P z es ens){x:zA0}(e:es.lookup x=none):getL x ens=some none:=by
 rcases h.find (x:=x) with ⟨_,b⟩|⟨sv',en,a,b,r⟩
 ·unfold getL;rw [b];dsimp only;rw [h.keys];rfl
 ·rw [a] at e;cases e
noncomputable def zZ8:SV→Bool
 |.v x=>handedIn x
 |_=>true
theorem zSl{z:Wd}{sv:SV}{v:Value}(h:SRep z sv v)(hs:zZ8 sv=true):handedIn v=true:=by
 induction sv with
 |d x=>cases h<;>rfl
 |r k=>obtain ⟨a,_,rfl⟩:=h;rfl
 |v x=>induction h;exact hs
theorem Ev.attr{C:Addr}{es:List (zA0×SV)}{o:Expr}{name:zA0}(ho:Ev c c.env ps nx o (.r k) nx₁)(hk:nth nx₁ k = .inst C dk)(hd:nth nx₁ dk = .attrs es)(he:es.lookup name=some v)(hh:zZ8 v=true)(hf:∀P,findIn (kW P) (.ref C) name=some none)(hg:∀P,hasDictIn (kW P) C=true)(hga:∀P,findIn (kW P) (.ref C) "__getattribute__" = some (some (.builtin "object.__getattribute__")))(hev:autoParam (eval (.Attribute o name pos) c.env=(do
     let x ←eval o c.env
     standAt pos.atName
     let r ←holding [x] (getAttr x name true)
     letTemporaryGo o x r
     pure r)) T0R):Ev c c.env ps nx (.Attribute o name pos) v nx₁:=fun z s O Q q=>
 Attribute_any_ (ho z s O _ fun z₁ s₁ a₁ l₁ O₁ r₁=>by
  obtain ⟨a,ha,rfl⟩:=r₁
  refine O₁.insts ha hk hd fun m ens news dx F N I hA=>?_
  obtain ⟨v',hv,rv⟩:=hA.get he
  exact get_value O₁.top I (hga _) (findObj_own (hg _) (hf _) rfl hv) (zSl rv hh) (q z₁ _ _ l₁ (O₁.toks _) rv)) hev
theorem Ev.attrA{l:List PyData}{i:Int}{o:Expr}(ho:Ev c c.env ps nx o (.r k) nx₁)(hk:nth nx₁ k = .accO dk l)(hd:nth nx₁ dk=szA i)(hev:autoParam (eval (.Attribute o (.ofString "_initial_size") pos) c.env=(do
     let x ←eval o c.env
     standAt pos.atName
     let r ←holding [x] (getAttr x (.ofString "_initial_size") true)
     letTemporaryGo o x r
     pure r)) T0R):Ev c c.env ps nx (.Attribute o (.ofString "_initial_size") pos) (.d (.int i)) nx₁:=fun z s O Q q=>
 Attribute_any_ (ho z s O _ fun z₁ s₁ a₁ l₁ O₁ r₁=>by
  obtain ⟨a,ha,rfl⟩:=r₁
  refine O₁.acc ha hk hd fun m d vs n t u news g F N U hm hv G=>?_
  exact zIj F c.X N (zA2 U) hm rfl (q z₁ _ _ l₁ (O₁.toks _) .int)) hev
theorem MethS.inst{C:Addr}{es:List (zA0×SV)}{name:zA0}{f:Addr}(hk:nth nx k = .inst C dk)(hd:nth nx dk = .attrs es)(hf:∀P,findIn (kW P) (.ref C) name=some (some (.ref f)))(ht:∀P,isFn (kW P) (.ref f)=true)(hg:∀P,plainGet (kW P) C name=true)(hm:es.lookup name=none):MethS c ps nx (.r k) name (.ref f) [.r k]:=fun z s a O r pl Q q=>by
 obtain ⟨a,ha,rfl⟩:=r
 refine O.insts ha hk hd fun m ens news dx F N I hA=>?_
 exact method_inst F c.X I (hg _) (hf _) (ht _) (hA.miss hm) (q s _ O (.cons ⟨a,ha,rfl⟩ .nil))
theorem On.same(O:On c ps nx z s){GL:Prop}(q:∀m news,Fr c.h₀ c.L s.heap m→News c.h₀ c.L s.heap news→(∀p∈z.Z,p∈news)→(∀h' tk',Fr c.h₀ c.L h' m→News c.h₀ c.L h' news→On c ps nx z {s with heap:=h',toks:=tk'})→GL):GL:=by
 induction O with
 |mk F K N O D G a0 Z0=>exact q _ _ F N (fun p hp=>mem_append_right _ (mem_append_left _ hp)) fun h' tk' F' N'=>.mk F' K N' O D G a0 Z0
theorem Ev.starPush{d':Nat}{l:List PyData}{i:Int}{o e:Expr}{apos p:Pos}{xs:List PyData}{vs₀:List SV}{nx₀ nx₁':List SO}{r:SV}(σ:List Nat)(ho:Ev c c.env ps nx o (.r k) nx)(hk:nth nx k = .accO dk l)(hd:nth nx dk=szA i)(he:Ev c c.env ps nx e (.d (.tuple xs)) nx)(hx:ble xs.length 1000=true)(C:ConK d' 206 vs₀ [] nx₀ r nx₁')(hdd:ble (d'+1) d=true)(hσ:okS σ nx.length=true)(hl:nx₀.map (SO.ren (rho σ nx.length))=σ.map (nth nx))(hl':ble σ.length nx₁'.length=true)(hv:vs₀.map (SV.ren (rho σ nx.length)) = .r k::xs.map .d)(hst:autoParam (eval (.Call (.Attribute o (.ofString "push") apos) [.Starred e p] [] pos) c.env=(do
   let ov ←eval o c.env
   standAt apos.atName
   let (f,first) ←holding [ov] (do pure (←getAttr ov (.ofString "push") true,[]))
   callWith pos f first (backTo pos (starEach [.Starred e p] c.env)) [])) T0R):Ev c c.env ps nx (.Call (.Attribute o (.ofString "push") apos) [.Starred e p] [] pos) (r.ren (rho σ nx.length)) (zXm (rho σ nx.length) σ nx₁' nx):=fun z s O Q q=>by
 refine zTh (ho z s O _ fun z₁ s₁ a₁ l₁ O₁ r₁=>?_) hst
 obtain ⟨a,ha,rfl⟩:=r₁
 refine O₁.acc ha hk hd fun m d vs n t u news g F N U hm hv' G=>?_
 refine O₁.growZ fun m' news' F' N' hZ gz=>?_
 refine zRr O₁.top (zAh N (zA2 U) hm) (zVt _ _ _) (zXe _) ?_
 refine gz (methodObj (.ref 206) (.ref a)) _ (s₁.toks+1) (F'.push _) (N'.push F' _) fun z₂ le₂ hq O₂=>?_
 refine O₂.same fun m₂ news₂ F₂ N₂ hZ₂ _=>?_
 refine yCt (zOu _) F₂ c.X N₂ (hZ₂ _ hq) (he z₂ _ O₂ _ fun z₃ s₃ a₃ l₃ O₃ r₃=>?_)
 obtain ⟨b,ws,rfl,hz,hr⟩:=DRep.tuple_ r₃
 refine O₃.same fun m₃ news₃ F₃ N₃ hZ₃ G₃=>?_
 refine star_seq (ws:=ws) F₃ N₃ (hZ₃ _ hz) rfl rfl (.inr rfl) rfl ?_ fun h' F₄ N₄=>?_
 ·rw [size_toArray,hr.len]
  exact le_trans (le_of_ble_eq_true hx) (by rw [sizeLine_eq];decide)
 have O₄:=G₃ h' s₃.toks F₄ N₄
 have hq₄:=hZ₃ _ (l₃.2 _ hq)
 refine ⟨⟨(N₄ _ hq₄).1,O₄.top⟩,call_meth N₄ hq₄ ?_⟩
 have la:SRep z₃ (.r k) (.ref a):=SRep.mono (le₂.trans l₃) ⟨a,ha,rfl⟩
 have lx:∀{xs:List PyData} {ws:List Value},DRepL z₃.Z xs ws→SRepL z₃ (xs.map .d) ws:=fun h=>by
  rename_i xs ws
  induction xs generalizing ws with
  |nil=>rw [h.nil_];exact .nil
  |cons x xs ih=>obtain ⟨v,us,rfl,p,q⟩:=h.cons_;exact .cons p (ih q)
 exact On.con σ O₄ (.cons la (lx hr)) (fun z' s' x l'=>q z' s' x (((l₁.trans le₂).trans l₃).trans l')) hσ hl hl' hv fun as os R h m tk gs e F N O' D G hx' k'=>by
  have z:=C _ _ _ c z₃ c.s₀ as os R h m tk gs _ Q (le_of_ble_eq_true hdd) F N O' D G hx' k'
  rw [←e] at z
  exact z
end
section
variable {fn:Fn}{d n₀:Nat}{c:Cx fn d n₀}{ps:List (zA0×SV)}{nx nx':List SO}{e:Expr}{pos px py tp:Pos}{x y:zA0}{k:Nat}
theorem Ex.tup2{a b:PyData}(h:Ev c c.env ps nx e (.d (.tuple [a,b])) nx')(hx:autoParam (fn.scope.names.lookup x=some .local) T0R)(hy:autoParam (fn.scope.names.lookup y=some .local) T0R)(hs:autoParam (swapsWithSole [.Tuple [.Name x px,.Name y py] k tp] e pos.line c.env=pure false) T0R)(hw:autoParam (swappedStores [.Tuple [.Name x px,.Name y py] k tp] e c.env=pure none) T0R):
  Ex c ps nx (.Assign [.Tuple [.Name x px,.Name y py] k tp] e pos) ((y,.d b)::(x,.d a)::ps) nx':=fun z s O Q q=>by
 refine Assign_Tuple (h z s O _ fun z₁ s₁ v l₁ O₁ r=>?_) hs hw
 obtain ⟨t,vs,rfl,hz,hr⟩:=DRep.tuple_ r
 obtain ⟨v1,_,rfl,r1,hr⟩:=hr.cons_
 obtain ⟨v2,_,rfl,r2,hr⟩:=hr.cons_
 cases hr
 refine O₁.same fun m news F N hZ g=>?_
 refine unpackN_ F N ⟨_,(N _ (hZ _ hz)).1,rfl,_,rfl⟩ rfl rfl rfl fun h' F' N'=>?_
 refine assignInOrder_cons (PyProof.Rows.assign_Name (zB5 (g h' s₁.toks F' N') (v:=.d a) r1 (fun s₂ O₂=>?_) hx))
 exact assignInOrder_cons (PyProof.Rows.assign_Name (zB5 O₂ (v:=.d b) r2 (fun s₃ O₃=>assignInOrder_nil (q z₁ s₃ O₃)) hy))
theorem zY6{z:Wd}{svs:List SV}:∀{names:List zA0} {vs:List Value} {ps:List (zA0×SV)} {s:Shared} {Q:Unit→Shared→Prop},On c ps nx z s→SRepL z svs vs→names.length=svs.length→(names.all fun x=>decide (fn.scope.names.lookup x=some .local))=true→
  (∀s',On c ((names.zip svs).reverse++ps) nx z s'→Q () s')→wpAny c.M c.A (assignInOrder (names.map fun n=>bindName c.env n) vs) Q noE s:=by
 induction svs with
 |nil=>
  intro names vs ps s Q O h hl _ q
  cases names with
  |nil=>rw [h.nil_];exact assignInOrder_nil (q s O)
  |cons x r=>cases hl
 |cons sv svs ih=>
  intro names vs ps s Q O h hl ha q
  cases names with
  |nil=>cases hl
  |cons x names=>
   obtain ⟨v,us,rfl,r,h'⟩:=h.cons_
   rw [all_cons,and_eq_true] at ha
   refine assignInOrder_cons (wpAny_bindName (zB5 O r (fun s₂ O₂=>?_) (of_decide_eq_true ha.1)))
   refine ih O₂ h' (Nat.succ.inj hl) ha.2 fun s' O'=>q s' ?_
   rw [List.zip_cons_cons,List.reverse_cons,append_assoc]
   exact O'
theorem SRepL.rev{z:Wd}{svs:List SV}{vs:List Value}(h:SRepL z svs vs):SRepL z svs.reverse vs.reverse:=by
 induction h with
 |nil=>exact .nil
 |cons a _ ih=>rw [List.reverse_cons,List.reverse_cons];exact ih.append (.cons a .nil)
theorem Ex.swap{elts targets:List Expr}{names:List zA0}{svs:List SV}{j:Nat}{vp:Pos}(h:EvL c c.env ps nx elts svs nx')(hl:names.length=svs.length)(ha:(names.reverse.all fun x=>decide (fn.scope.names.lookup x=some .local))=true)(hn:ble svs.length 1000=true)(hs:autoParam (swapsWithSole [.Tuple targets k tp] (.Tuple elts j vp) pos.line c.env=pure false) T0R)(hw:autoParam (swappedStores [.Tuple targets k tp] (.Tuple elts j vp) c.env=pure (some names)) T0R):
  Ex c ps nx (.Assign [.Tuple targets k tp] (.Tuple elts j vp) pos) ((names.reverse.zip svs.reverse).reverse++ps) nx':=fun z s O Q q=>by
 refine Assign_Tuple_swapped (Tuple_ (h z s O _ _ fun z₁ s₁ vs l₁ O₁ r=>?_)) hs hw
 refine O₁.growZ fun m news F N _ g=>?_
 have hln:=zBk r
 refine newTuple_N F N (fun h' F' N'=>?_) (by rw [hln];exact le_trans (le_of_ble_eq_true hn) (by rw [sizeLine_eq];decide))
 refine g _ h' s₁.toks F' N' fun z₂ le hz O₂=>?_
 refine O₂.same fun m₂ news₂ F₂ N₂ hZ g₂=>?_
 refine unpackItemsN_ F₂ N₂ ⟨_,(N₂ _ (hZ _ hz)).1,rfl,_,rfl⟩ rfl (by rw [size_toArray,hln];exact hl) fun h'' F'' N''=>?_
 have O₃:=g₂ h'' s₁.toks F'' N''
 have e:(vs.toArray.toList:List Value)=vs:=List.toList_toArray
 dsimp only
 exact zY6 (names:=names.reverse) (svs:=svs.reverse) (vs:=vs.reverse) O₃ (r.mono le).rev (by rw [List.length_reverse,List.length_reverse];exact hl) ha fun s' O'=>q z₂ s' O'
end
section
variable {prog:Program}{w:World}{A:Around}{s:Shared}{h₀:Heap}{L:Addr}{m:Str→Option Value}{cenv:Env}
variable {env:Env}{Q:Value→Shared→Prop}{E:Value→Shared→Prop}
noncomputable def zNg(elt target iter:Expr)(ifs:List Expr)(scope:Scope)(pos:Pos)(cl:List (Str×Addr))(env:Env)(I D C:Addr):Sem Fin:=do
 let mut ok:=true
 for c in ifs do
  if ok then ok ←isTrue c (compEnvC scope cl C env) (eval c (compEnvC scope cl C env))
 if ok then
  (do let _ ←call (.builtin "list.append") [.ref D,←eval elt (compEnvC scope cl C env)])
 again (.compLoop (.ListComp elt [⟨target,iter,ifs,0⟩] scope pos) 0 (.ref I) (.ref D) (compEnvC scope cl C env))
end
section
variable {prog:Program}{w:World}{A:Around}{s:Shared}{h₀:Heap}{L:Addr}{m:Str→Option Value}{env:Env}{E:Value→Shared→Prop}
theorem zMo{elt t₁ i₁:Expr}{g:Comprehension}{scope:Scope}{pos:Pos}{it acc:Value}{R:Result→Shared→Prop}(h0:codeAny (model prog w) A (.compLoop (.ListComp elt [g,⟨t₁,i₁,[],0⟩] scope pos) 1 it acc env) R s)(h:wpAny (model prog w) A (pyIter it) (fun it' s'=>codeAny (model prog w) A (.compLoop (.ListComp elt [g,⟨t₁,i₁,[],0⟩] scope pos) 1 it' acc env) R s') (notedBy (model prog w) A env fun x s'=>R (.error x) s') s):
  codeAny (model prog w) A (.compStart (.ListComp elt [g,⟨t₁,i₁,[],0⟩] scope pos) 1 it acc env) R s:=by
 refine codeAny_of_tree ?_
 show wpAny _ _ ((compStart (.ListComp elt [g,⟨t₁,i₁,[],0⟩] scope pos) 1 it acc env).onRaise (fun x=>do noteFrame x env;standAt theWindowsPlace)) _ _ s
 refine wpAny_notedAt ?_
 unfold compStart
 show wpAny _ _ (ask >>= _) _ _ s
 refine wpAny_bind (wpAny_askSetting (wpAny_ite ?_))
 split
 ·first
   |exact wpAny_bind (wpAny_pure (wpAny_pure ⟨rfl,h0⟩))
   |exact wpAny_pure ⟨rfl,h0⟩
 ·refine wpAny_bind (wpAny_rule ?_)
  show wpAny _ _ (standAt i₁.pos >>= _) _ _ s
  exact wpAny_bind (wpAny_standAt (wpAny_bind (wpAny_mono h (fun it' s' h'=>wpAny_pure ⟨rfl,h'⟩) fun _ _ x=>x)))
noncomputable def zX6(elt t₀ i₀ t₁ i₁:Expr)(scope:Scope)(pos:Pos)(cl:List (Str×Addr))(env:Env)(I D C:Addr):Sem Fin:=do
 let x ←eval i₁ (compEnvC scope cl C env)
 standAt i₁.pos
 let x ←foldedSetIterable i₁ (compEnvC scope cl C env) x
 let _ ←runOwn (.compStart (.ListComp elt [⟨t₀,i₀,[],0⟩,⟨t₁,i₁,[],0⟩] scope pos) 1 (←holding [x] (pyIter x)) (.ref D) (compEnvC scope cl C env)) (compEnvC scope cl C env)
 again (.compLoop (.ListComp elt [⟨t₀,i₀,[],0⟩,⟨t₁,i₁,[],0⟩] scope pos) 0 (.ref I) (.ref D) (compEnvC scope cl C env))
noncomputable def yAs(elt t₀ i₀ t₁ i₁:Expr)(scope:Scope)(pos:Pos)(cl:List (Str×Addr))(env:Env)(I D C:Addr):Sem Fin:=do
 (do let _ ←call (.builtin "list.append") [.ref D,←eval elt (compEnvC scope cl C env)])
 again (.compLoop (.ListComp elt [⟨t₀,i₀,[],0⟩,⟨t₁,i₁,[],0⟩] scope pos) 1 (.ref I) (.ref D) (compEnvC scope cl C env))
theorem zXc{elt i₀ t₁ i₁:Expr}{x:Str}{px:Pos}{scope:Scope}{pos:Pos}{cl:List (Str×Addr)}(I D C:Addr):
  compTurn (.ListComp elt [⟨.Name x px,i₀,[],0⟩,⟨t₁,i₁,[],0⟩] scope pos) 0 (.ref I) (.ref D) (compEnvC scope cl C env)=(standAt i₀.pos >>= fun _=>pyNext (.ref I) >>= fun r=>match r with
   |none=>pure (.done .next)
   |some v=>letOwnedTupleGo (.Name x px) (.ref I) v >>= fun _=>assign (.Name x px) (compEnvC scope cl C env) v >>= fun _=>zX6 elt (.Name x px) i₀ t₁ i₁ scope pos cl env I D C):=rfl
theorem yCw{elt t₀ i₀ i₁:Expr}{x:Str}{px:Pos}{scope:Scope}{pos:Pos}{cl:List (Str×Addr)}(I D C:Addr):
  compTurn (.ListComp elt [⟨t₀,i₀,[],0⟩,⟨.Name x px,i₁,[],0⟩] scope pos) 1 (.ref I) (.ref D) (compEnvC scope cl C env)=(standAt i₁.pos >>= fun _=>pyNext (.ref I) >>= fun r=>match r with
   |none=>pure (.done .next)
   |some v=>letOwnedTupleGo (.Name x px) (.ref I) v >>= fun _=>assign (.Name x px) (compEnvC scope cl C env) v >>= fun _=>yAs elt t₀ i₀ (.Name x px) i₁ scope pos cl env I D C):=rfl
end
def zF8(us:List Value):Prop:=us=[]∨∃v,us=[v]
theorem zWs(P:Params)(S:Setting){us:List Value}(hu:zF8 us):peek (kW P) S (checkBuiltinCall "list.__new__" ⟨.ref 262::us,[]⟩)=some ():=by
 rcases hu with rfl|⟨v,rfl⟩<;>kernel_rfl
section
variable {prog:Program}{w:World}{A:Around}{E:Value→Shared→Prop}{s:Shared}{h₀:Heap}{L a d:Addr}{m:Str→Option Value}{news:List (Addr×Obj)}{g:Obj→List (Addr×Obj)}{vs:List Value}{n:Nat}{od:Obj}
section
variable {h:Heap}{gg:Array GenState}{dd:Drawn}{t:Nat}{os:OsState}{R:Result→Shared→Prop}
theorem zRt{us:List Value}(hu:zF8 us)(X:(kW w.params).In h)(hq:R (.ok (.ret (.ref (h.objs.size+1)))) ⟨(h.push emptyDict).push (accO h.objs.size [] 0),gg,dd,t,os⟩):
  codeAny (model prog w) A (.call (.builtin "list.__new__") ⟨.ref 262::us,[]⟩) R ⟨h,gg,dd,t,os⟩:=by
 obtain ⟨oc,od,cd,sl,hK,e1,e2,e4⟩:=zZ9 w.params
 have hC:=X _ _ hK
 have C1:Looks (model prog w) h (checkBuiltinCall "list.__new__" ⟨.ref 262::us,[]⟩) ():=Looks.of_peek X (zWs _ _ hu)
 have C2:Looks (model prog w) h (isType (.ref 262)) true:=Looks.of_peek X (zQh _ _)
 have C3:Looks (model prog w) h (isSubtype (.ref 262) (.type "list")) true:=Looks.of_peek X (zLv _ _)
 refine codeAny_of_tree ?_
 show wpAny _ A.in1 (do checkBuiltinCall "list.__new__" ⟨.ref 262::us,[]⟩;again (.builtin "list.__new__" ⟨.ref 262::us,[]⟩)) _ _ _
 refine wpAny_bind (C1.at (wpAny_pure ⟨plainId_quiet PySem.F.plain_list_new _,codeAny_builtin_stack PySem.F.entry_list_new rfl fun p st=>?_⟩))
 rw [Around.under_plainId PySem.F.plain_list_new _]
 have hown:=owner_list_new
 dsimp only
 rw [hown]
 refine wpAny_bind (C2.at ?_)
 rw [if_neg (by decide)]
 refine wpAny_bind (C3.at ?_)
 rw [if_neg (by decide)]
 refine wpAny_bind (wpAny_pure ?_)
 have hty:typeHasDict (.ref 262)=true:=rfl
 rw [hty,if_neg (by decide)]
 refine wpAny_bind (wpAny_newObj_type ?_ (by size_fits))
 dsimp only
 refine wpAny_bind ?_
 unfold newObj
 dsimp only
 rw [if_neg (by rw [sizeLine_eq];decide)]
 unfold newObjAsIs classHasDel
 refine wpAny_bind (wpAny_alloc (wpAny_bind (wpAny_bind (wpAny_load (Heap.get?_push_of_some _ (Heap.get?_push_of_some _ hC)) (wpAny_pure ?_)))))
 rw [e2]
 refine wpAny_pure (wpAny_pure ?_)
 show R _ _
 rw [Heap.size_push]
 exact hq
theorem zNw{us:List Value}(hu:zF8 us)(X:(kW w.params).In h)(hq:codeAny (model prog w) (A.under (.builtin "type.__call__" ⟨.ref 262::us,[]⟩)) (.call (.ref 199) ⟨.ref (h.objs.size+1)::us,[]⟩) (InitBack (h.objs.size+1) R) ⟨(h.push emptyDict).push (accO h.objs.size [] 0),gg,dd,t,os⟩):
  codeAny (model prog w) A (.call (.ref 262) ⟨us,[]⟩) R ⟨h,gg,dd,t,os⟩:=by
 obtain ⟨oc,od,cd,sl,hK,e1,e2,e4⟩:=zZ9 w.params
 have hC:=X _ _ hK
 have made:Looks (model prog w) h (Bind.madeBy (.ref 262)) (some "list.__new__"):=Looks.of_peek X (zQi _ _)
 have self:Looks (model prog w) h (isSubtype (.ref 262) (.ref 262)) true:=Looks.of_peek X (zWt _ _)
 have call:Looks (model prog w) h (specialOf (.ref 262) "__call__") (some (.builtin "type.__call__")):=Looks.of_peek X (zWr _ _)
 have typ:Looks (model prog w) h (isInstance (.ref 262) (.type "type")) true:=Looks.of_peek X (yAe _ _)
 have hi:Looks (model prog w) h (typeLookup (.ref 262) "__init__") (some (.ref 199)):=looks_findIn X (by kernel_rfl)
 have hb:∀self,Looks (model prog w) h (bindSpecial (.ref 199) self) (.ref 199,[self]):=fun self=>bind_fn X self (by kernel_rfl)
 refine codeAny_of_tree ?_
 show wpAny _ _ (callAny (.ref 262) _) _ _ _
 refine nd_load hC ?_
 show wpAny _ _ (callAny.viaDunder (.ref 262) _) _ _ _
 unfold callAny.viaDunder
 refine wpAny_bind (call.at ?_)
 dsimp only
 rw [tc_bind]
 refine wpAny_bind (wpAny_pure (wpAny_bind (wpAny_pure ?_)))
 refine wpAny_pure (a:=Fin.again (.call (.builtin "type.__call__") ⟨.ref 262::us,[]⟩)) (And.intro rfl ?_)
 refine codeAny_call_builtin_at (Code.quiet_builtin _ (by decide +kernel)) entry_typeCall (check_slot tc_kind tc_split typ (tc_args _ _ _) ?_)
 unfold Builtin.«type.__call__»
 have hm:Looks (model prog w) h (mroOf (.ref 262)) cd.mro:=((Looks.ld (part:=none) hC).andThen .now).andThen .now
 have e5:cd.mro.isEmpty=false:=by rw [e4];rfl
 repeat (first|rw [e5,if_neg Bool.false_ne_true]|with_reducible refine wpAny_call ?_|lk)
 refine zRt hu X ?_
 have k:∀b o,h.get? b=some o→((h.push emptyDict).push (accO h.objs.size [] 0)).get? b=some o:=fun b o e=>Heap.get?_push_of_some _ (Heap.get?_push_of_some _ e)
 have hx:((h.push emptyDict).push (accO h.objs.size [] 0)).get? (h.objs.size+1)=some (accO h.objs.size [] 0):=by heap_get
 have t1:Looks (model prog w) ((h.push emptyDict).push (accO h.objs.size [] 0)) (typeOf (.ref (h.objs.size+1))) (.ref 262):=(Looks.ld hx).andThen .now
 have s1:=self.keeps k
 have i1:=hi.keeps k
 have b1:=(hb (.ref (h.objs.size+1))).keeps k
 unfold isInstance callSpecial? specialOf
 repeat (first|with_reducible refine wpAny_call ?_|lk)
 refine codeAny_mono hq fun r s' z=>?_
 rcases r with e|(v|_|_|_)<;>first|exact z|exact z.elim|skip
 obtain ⟨rfl,z⟩:=z
 exact wpAny_pure (wpAny_pure z)
end
theorem zNu{us:List Value}{Q:Value→Shared→Prop}(hu:zF8 us)(F:Fr h₀ L s.heap m)(N:News h₀ L s.heap news)(X:(kW w.params).In h₀)(h:∀x dx h',Fr h₀ L h' m→News h₀ L h' ((x,accO dx [] 0)::(dx,emptyDict)::news)→(∀p∈news,p.1<dx)→dx<x→
   codeAny (model prog w) (A.under (.builtin "type.__call__" ⟨.ref 262::us,[]⟩)) (.call (.ref 199) ⟨.ref x::us,[]⟩) (InitBack x (fun r s'=>match r with | .ok (.ret v)=>Q v s' | .ok _=>False | .error e=>E e s')) {s with heap:=h'}):
  wpAny (model prog w) A (call (.ref 262) us) Q E s:=by
 obtain ⟨hh,g,d,t,os⟩:=s
 refine wpAny_call (zNw hu (X.keeps F.keep) (h _ hh.objs.size _ ((F.push _).push _) ?_ (fun p hp=>Heap.lt_size (N p hp).1) (lt_succ_self _)))
 have:=(N.push F emptyDict).push (F.push _) (accO hh.objs.size [] 0)
 rwa [Heap.size_push] at this
end
noncomputable def zDq{α:Type}(l:List α)(lo hi:Option Int):List α:=(l.drop (kms_lo lo l.length)).take (kms_hi hi l.length-kms_lo lo l.length)
theorem DRepL.pick{Z:List (Addr×Obj)}{l:List PyData}{vs:List Value}(h:DRepL Z l vs)(lo hi:Option Int):DRepL Z (zDq l lo hi) (kms_pick vs lo hi):=by
 unfold zDq kms_pick
 rw [←h.len]
 exact h.drop.take
inductive EvO{fn:Fn}{d n₀:Nat}(c:Cx fn d n₀)(E:Env)(ps:List (zA0×SV))(nx:List SO):Option Expr→Option Int→Prop
 |none:EvO c E ps nx none none
 |some {e:Expr} {i:Int} (h:Ev c E ps nx e (.d (.int i)) nx):EvO c E ps nx (some e) (some i)
def LstS(nx:List SO):SV→List PyData→Prop
 |.d x,l=>x = .list l
 |.r k,l=>nth nx k = .lst l
 |.v _,_=>False
section
variable {E:Env}{fn:Fn}{d n₀:Nat}{c:Cx fn d n₀}{ps:List (zA0×SV)}{nx nx' nx₁ nx₂:List SO}{z:Wd}{s:Shared}{e l r value:Expr}{pos px sp:Pos}{v v₁ v₂:SV}{x:zA0}{k:Nat}{lo hi:Option Expr}{a b:Option Int}
theorem zUs(h:EvO c E ps nx lo a)(O:On c ps nx z s){Q:Value→Shared→Prop}(k:∀z' s' v,z.Le z'→On c ps nx z' s'→IsPart v a→Q v s'):wpAny c.M c.A (evalPart lo E) Q noE s:=by
 induction h with
 |none=>exact wpAny_pure (k z s _ (.refl _) O .none)
 |some h=>exact h z s O _ fun z' s' x le O' r=>by obtain ⟨t,rfl⟩:=DRep.int_ r;exact k z' s' _ le O' (.int _ _)
theorem zI9(hl:EvO c E ps nx lo a)(hh:EvO c E ps nx hi b)(O:On c ps nx z s){Q:Value→Shared→Prop}(k:∀z' s' vl vu,z.Le z'→On c ps nx z' s'→IsPart vl a→IsPart vu b→Q (.ref s'.heap.objs.size) {s' with heap:=s'.heap.push {cls:=.type "slice",data:=.fields #[vl,vu,.none]}}):
  wpAny c.M c.A (eval (.Slice lo hi none sp) E) Q noE s:=
 wpAny_Slice (zUs hl O fun z₁ s₁ v₁ l₁ O₁ p₁=>zUs hh O₁ fun z₂ s₂ v₂ l₂ O₂ p₂=>wpAny_pure (k z₂ s₂ v₁ v₂ (l₁.trans l₂) O₂ p₁ p₂))
theorem LstS.at{l:List PyData}(h:LstS nx v l){val:Value}(r:SRep z v val){news:List (Addr×Obj)}(hZ:∀p∈z.Z,p∈news)(ho:zRn c z nx news):∃A vs n,val = .ref A∧(A,listOf vs.toArray n)∈news∧DRepL z.Z l vs:=by
 induction v with
 |d x=>subst h;obtain ⟨A,vs,n,rfl,hz,hr⟩:=DRep.list_ r;exact ⟨A,vs,n,rfl,hZ _ hz,hr⟩
 |r k=>
  obtain ⟨A,hA,rfl⟩:=r
  obtain ⟨ob,hm,ro⟩:=ho k A hA
  rw [show nth nx k = .lst l from h] at ro
  obtain ⟨vs,n,rfl,hr⟩:=ro
  exact ⟨A,vs,n,rfl,hm,hr⟩
 |v x=>exact h.elim
end
section
variable {E:Env}{fn:Fn}{d n₀:Nat}{c:Cx fn d n₀}{ps:List (zA0×SV)}{nx nx' nx₁ nx₂:List SO}{z:Wd}{s:Shared}{e o value:Expr}{pos tpos sp:Pos}{lo hi:Option Expr}{a b:Option Int}{l us:List PyData}{i:Int}{k dk:Nat}
theorem Ev.sliceA(hv:Ev c E ps nx value (.r k) nx₁)(hk:nth nx₁ k = .accO dk l)(hd:nth nx₁ dk=szA i)(hl:EvO c E ps nx₁ lo a)(hh:EvO c E ps nx₁ hi b)(hz:l.length≤100000)(hs:autoParam (∀A B,subscripted (.Slice lo hi none sp) false (.ref A) (.ref B)=operate [.ref B,.ref A] (getItem (.ref A) (.ref B))) zKr):Ev c E ps nx (.Subscript value (.Slice lo hi none sp) pos) (.d (.list (zDq l a b))) nx₁:=fun z s O Q q=>
 Subscript_ (hv z s O _ fun z₁ s₁ va l₁ O₁ r₁=>zI9 hl hh O₁ fun z₂ s₂ vl vu l₂ O₂ p₁ p₂=>by
  refine O₂.growZD fun m news F N hZ ho g=>?_
  obtain ⟨A,ha,rfl⟩:=r₁.mono l₂
  obtain ⟨ob,hm,ro⟩:=ho k A ha
  rw [hk] at ro
  obtain ⟨D,vs,n,hd',rfl,hr⟩:=ro
  obtain ⟨ob,hm',rb⟩:=ho dk D hd'
  rw [hd] at rb
  obtain ⟨t,u,rfl⟩:=zEm rb
  refine zAv (x:=.ofString "x") (px:=default) ?_
  refine zH9 F c.X N hm hm' p₁ p₂ (hr.len▸hz) (fun D h' F' N' lt=>?_) (hs _ _) (fun _=>rfl)
  refine g D _ h' s₂.toks F' N' (fun p hp=>ne_of_lt (lt p hp)) fun z₃ le hz3 O₃=>?_
  exact q z₃ _ _ ((l₁.trans l₂).trans le) O₃ (.list hz3 ((hr.pick a b).mono le.2)))
theorem Ex.setTail(hv:Ev c c.env ps nx value (.d (.list us)) nx₁)(ho:Ev c c.env ps nx₁ o (.r k) nx₁)(hl:EvO c c.env ps nx₁ lo a)(hk:nth nx₁ k = .accO dk l)(hd:nth nx₁ dk=szA i)(hz:l.length≤50000)(hu:us.length≤50000)(hs:autoParam (swapsWith value (some (.Subscript o (.Slice lo none none sp) tpos)) pos.line c.env=pure false) T0R):
  Ex c ps nx (.Assign [.Subscript o (.Slice lo none none sp) tpos] value pos) ps (upd nx₁ k (.accO dk (l.take (kms_lo a l.length)++us))):=fun z s O Q q=>by
 refine wpAny_Assign_Subscript (hv z s O _ fun z₁ s₁ v₁ l₁ O₁ r₁=>ho z₁ s₁ O₁ _ fun z₂ s₂ v₂ l₂ O₂ r₂=>zI9 hl .none O₂ fun z₃ s₃ vl vu l₃ O₃ p₁ p₂=>?_) hs
 obtain ⟨A,ha,rfl⟩:=r₂.mono l₃
 cases p₂
 refine O₃.obj ha fun m ob news g F N U ro hZ oth G=>?_
 rw [hk] at ro
 obtain ⟨D,vs,n,hd',rfl,hr⟩:=ro
 obtain ⟨ob,hm',rb⟩:=oth dk D hd'
 rw [hd] at rb
 obtain ⟨t,u,rfl⟩:=zEm rb
 obtain ⟨B,uv,n2,rfl,hb,hur⟩:=DRep.list_ (r₁.mono (l₂.trans l₃))
 refine zK1 F c.X N U hm' p₁ (hZ _ hb) ?_ (hr.len▸hz) (hur.len▸hu) fun h' n' F' N'=>q z₃ _ (G _ _ h' s₃.toks ⟨D,_,n',hd',rfl,?_⟩ F' N')
 ·rintro rfl
  have e:=(N _ (zA2 U)).1
  have e2:=(N _ (hZ _ hb)).1
  exact nomatch congrArg Obj.dict (Option.some.inj (e.symm.trans e2))
 ·rw [hr.len];exact (hr.take).append hur
theorem Ex.setSize{j:Int}(hv:Ev c c.env ps nx value (.d (.int j)) nx₁)(ho:Ev c c.env ps nx₁ o (.r k) nx₁)(hk:nth nx₁ k = .accO dk l)(hd:nth nx₁ dk = .attrs []∨nth nx₁ dk=szA i)(hs:autoParam (swapsWith value (some (.Attribute o (.ofString "_initial_size") tpos)) pos.line c.env=pure false) T0R):
  Ex c ps nx (.Assign [.Attribute o (.ofString "_initial_size") tpos] value pos) ps (upd nx₁ dk (szA j)):=fun z s O Q q=>by
 refine plainObj_wpAny_Assign_Attribute (hv z s O _ fun z₁ s₁ v₁ l₁ O₁ r₁=>ho z₁ s₁ O₁ _ fun z₂ s₂ v₂ l₂ O₂ r₂=>?_) hs
 obtain ⟨t,rfl⟩:=DRep.int_ r₁
 obtain ⟨A,ha,rfl⟩:=r₂
 refine O₂.obj ha fun _ _ _ _ _ _ _ ro _ _ _=>?_
 rw [hk] at ro
 obtain ⟨D,_,_,hD,_,_⟩:=ro
 refine O₂.obj hD fun m ob news g F N U ro _ oth G=>?_
 obtain ⟨ob',hm,ra⟩:=oth k A ha
 rw [hk] at ra
 obtain ⟨D',vs,n,hD',rfl,_⟩:=ra
 cases hD.symm.trans hD'
 rcases hd with hd|hd
 ·rw [hd] at ro
  obtain ⟨_,rfl,he⟩:=ro
  cases he
  exact zMc F c.X N hm U fun h' tk F' N'=>q z₂ _ (G _ _ h' _ ⟨_,rfl,.cons (sv:=.d (.int j)) DRep.int .nil⟩ F' N')
 ·rw [hd] at ro
  obtain ⟨t',u,rfl⟩:=zEm ro
  exact zO0 F c.X N hm U fun h' F' N'=>q z₂ _ (G _ _ h' _ ⟨_,rfl,.cons (sv:=.d (.int j)) DRep.int .nil⟩ F' N')
noncomputable def zOw:Fn:=⟨.ofString "_Accumulator.pop_from",zAl (zBw 17 2),214,.ref 213,fun _=>[],rfl⟩
noncomputable def zOx:Fn:=⟨.ofString "_Accumulator.reset",zAl (zBw 17 6),244,.ref 243,fun _=>[],rfl⟩
end
section
variable {l:List PyData}{k:Int}
theorem zJk{i:Nat}(hl:l.length≤49000)(hi:i≤l.length):zEa zOw 0 [(.ofString "self",.r 0),(.ofString "i",.d (.int i))] (zDt l k) (zAf (zBw 17 2)) (.d (.list (l.drop i))) (zDt (l.take i) k):=by
 intro c Q ret fin
 conv=>arg 5;arg 1;whnf
 have e:kms_lo (some (i:Int)) l.length=i:=by simp only [kms_lo];rw [if_neg (by omega)];omega
 have e1:zDq l (some (i:Int)) none=l.drop i:=by
  unfold zDq
  rw [e]
  exact List.take_of_length_le (by rw [length_drop];exact le_refl _)
 refine J.seq (Ex.assign (Ev.sliceA (.loc rfl) rfl rfl (.some (.loc rfl)) .none (by lia))) ?_
 refine J.seq (Ex.setTail (Ev.listD (xs:=[]) .nil) (.loc rfl) (.some (.loc rfl)) rfl rfl (by lia) (zero_le _)) ?_
 rw [e1,e,append_nil]
 exact J.ret (.loc rfl) fun z s x O r=>ret _ _ _ _ O r
theorem zU7{i:Nat}(hl:l.length≤49000)(hi:i≤l.length):Con 0 214 [.r 0,.d (.int i)] [] (zDt l k) (.d (.list (l.drop i))) (zDt (l.take i) k):=
 Con.enterN (fn:=zOw) (fun _=>rfl) [] [] (zJk hl hi) (fun _=>.nil) (fun P s a1 a2 X=>zAd X (fun _=>by kernel_rfl))
theorem zVa(hl:l.length≤49000):Con 0 214 [.r 0] [] (zDt l k) (.d (.list l)) (zDt [] k):=
 Con.enterN (fn:=zOw) (fun _=>rfl) [(.ofString "i",.int 0 576)] [(.ofString "i",.d (.int 0))] (zJk (i:=0) hl (zero_le _)) (fun _=>.cons .int .nil) (fun P s a1 X=>zAd X (fun _=>by kernel_rfl))
theorem zS3(hl:l.length≤50000):Con 0 244 [.r 0] [] (zDt l k) (.d .none) (zDt [] 0):=by
 refine Con.enterN (fn:=zOx) (fun _=>rfl) [(.ofString "startval",.none)] [(.ofString "startval",.d .none)] ?hbody (fun _=>.cons .none .nil) (fun P s a1 X=>zAd X (fun _=>by kernel_rfl))
 intro c Q ret fin
 conv=>arg 5;arg 1;whnf
 refine J.ift (EvB.cmp (.loc rfl) .non .isN) rfl (J.seq (Ex.assign (Ev.listD (xs:=[]) .nil)) (J.pop ?_))
 refine J.seq (Ex.setTail (.loc rfl) (.loc rfl) .none rfl rfl hl (zero_le _)) ?_
 exact J.seq (Ex.setSize .int (.loc rfl) rfl (.inr rfl)) (J.pop (fin rfl _))
theorem zS4{us:List PyData}(hl:l.length≤50000)(hu:us.length≤50000):Con 0 244 [.r 0,.d (.list us)] [] (zDt l k) (.d .none) (zDt us 0):=by
 refine Con.enterN (fn:=zOx) (fun _=>rfl) [] [] ?hbody (fun _=>.nil) (fun P s a1 a2 X=>zAd X (fun _=>by kernel_rfl))
 intro c Q ret fin
 conv=>arg 5;arg 1;whnf
 refine J.iff (EvB.cmp (.loc rfl) .non (.isX rfl)) rfl (J.pop ?_)
 refine J.seq (Ex.setTail (.loc rfl) (.loc rfl) .none rfl rfl hl hu) ?_
 exact J.seq (Ex.setSize .int (.loc rfl) rfl (.inr rfl)) (J.pop (fin rfl _))
end
section
variable {fn:Fn}{d n₀:Nat}{c:Cx fn d n₀}{ps:List (zA0×SV)}{nx nx':List SO}{z:Wd}{s:Shared}{k dk:Nat}{l:List PyData}{i:Int}
theorem On.objK(O:On c ps nx z s){a:Addr}(hk:z.as[k]? = some a){GL:Prop}(q:∀m o news g,Fr c.h₀ c.L s.heap m→News c.h₀ c.L s.heap news→UpdF a o news g→ORep c.w.params z (nth nx k) a o→(∀x sv,ps.lookup x=some sv→∃v,m x=some v∧SRep z sv v)→zRn c z nx news→
  (∀so o' h' tk',ORep c.w.params z so a o'→Fr c.h₀ c.L h' m→News c.h₀ c.L h' (g o')→On c ps (upd nx k so) z {s with heap:=h',toks:=tk'})→GL):GL:=by
 induction O with
 |@mk h tk gs m as os Z F K N O D G a0 Z0=>
  obtain ⟨o,e1,e2,e3⟩:=O.at hk
  refine q m o _ _ F N (zF6 hk e1 D.nd fun p hp=>?_) e2 K (fun j b hj=>?_) fun so o' h' tk' ho F' N'=>.mk F' K N' (O.upd hk ho) D G a0 Z0
  ·rcases mem_append.mp hp with hp|hp
   ·exact D.az a (mem_of_getElem? hk) p hp
   ·exact D.ar a (mem_of_getElem? hk) p hp
  ·obtain ⟨ob,f1,f2,f3⟩:=O.at hj
   exact ⟨ob,mem_append_left _ f3,f2⟩
theorem On.self_(O:On c ps nx z s){x:zA0}(h:ps.lookup x=some (.r k)):∃a,z.as[k]? = some a:=by
 induction O with
 |mk F K N O D G a0 Z0=>obtain ⟨v,_,a,e,_⟩:=K x _ h;exact ⟨a,e⟩
theorem zX8{oc:Value}{od cdd:Option Addr}{fd:FuncData}{osl ccs:Array (Option Value)}{ar:Arg}{cda:Addr}{ccl:Value}{vs:Array Value}{file:zA0}{tf:Tok}{body:List Stmt}{name:zA0}{p0 p1 apos pos:Pos}{pl:Sem Bool}{Q:Value→Shared→Prop}(O:On c ps nx z s)(hself:ps.lookup (.ofString "self")=some (.r k))(hk:nth nx k = .accO dk l)(hd:nth nx dk=szA i)(hf:∀P,(kW P).lookup fn.addr=some ⟨oc,od,.func fd,osl⟩)(hp:(fd.params.posonlyargs++fd.params.args).head? = some ar)(har:ar.arg = .ofString "self")(hcode:∀P,(kW P).lookup cda=some ⟨ccl,cdd,.fields vs,ccs⟩)(hvs:vs[2]? = some (.str file tf))(hfile:((pw.main.file:zA0)==file)=true)(hat:(name==("__class__" : zA0))=false)(hks:fn.scope.names.lookup ("super" : zA0)=some .globalImplicit)(hkc:fn.scope.names.lookup ("__class__" : zA0)=some .free)(hka:fn.scope.names.lookup (.ofString "self")=some .local)(h:∀m a D ws n t u news g so h',Fr c.h₀ c.L h' m→News c.h₀ c.L h' ((so,zX7 a)::news)→UpdF a (accO D ws n) news g→(D,zGb c.w.params (.int i t) u)∈news→DRepL z.Z l ws→(∀p∈news,p.1<so)→
   (∀l' ws' n' h' tk',DRepL z.Z l' ws'→Fr c.h₀ c.L h' m→News c.h₀ c.L h' (g (accO D ws' n'))→On c ps (upd nx k (.accO dk l')) z {s with heap:=h',toks:=tk'})→
   wpAny c.M c.A (getMethod (.ref so) name pl) (fun fx s₂=>wpAny c.M c.A (callWith pos fx.1 fx.2 (backTo pos (starEach [] (ksEnv fn.qual fn.scope c.L fn.addr (.ref cda) 186))) []) Q noE s₂) noE {s with heap:=h'})(he:autoParam (eval (.Call (.Attribute (.Call (.Name "super" p0) [] [] p1) name apos) [] [] pos) (ksEnv fn.qual fn.scope c.L fn.addr (.ref cda) 186)=(do
   let ov ←attributeBase (.Call (.Name "super" p0) [] [] p1) name (ksEnv fn.qual fn.scope c.L fn.addr (.ref cda) 186) (eval (.Call (.Name "super" p0) [] [] p1) (ksEnv fn.qual fn.scope c.L fn.addr (.ref cda) 186))
   standAt apos.atName
   let (f,first) ←holding [ov] (getMethod ov name pl)
   callWith pos f first (backTo pos (starEach [] (ksEnv fn.qual fn.scope c.L fn.addr (.ref cda) 186))) [])) T0R):
  _root_.PySem.wpAt c.M c.A (.func body (ksEnv fn.qual fn.scope c.L fn.addr (.ref cda) 186)) (eval (.Call (.Attribute (.Call (.Name "super" p0) [] [] p1) name apos) [] [] pos) (ksEnv fn.qual fn.scope c.L fn.addr (.ref cda) 186)) Q noE s:=by
 obtain ⟨a,ha⟩:=O.self_ hself
 refine O.objK ha fun m ob news g F N U ro K oth G=>?_
 rw [hk] at ro
 obtain ⟨D,ws,n,hD,rfl,hr⟩:=ro
 obtain ⟨ob,hm,rb⟩:=oth dk D hD
 rw [hd] at rb
 obtain ⟨t,u,rfl⟩:=zEm rb
 obtain ⟨v,hv,a',ha',rfl⟩:=K _ _ hself
 cases ha.symm.trans ha'
 obtain ⟨cd,hc,_⟩:=zPe c.w.params
 refine PySem.ks_wpAt_MethodCall (ks_node F c.X N c.T (hf _) hp (har▸hv) (zAh N (zA2 U) hm) (hcode _) hvs hfile rfl hc (by kernel_rfl) (by kernel_rfl) hat hks hkc (har▸hka) fn.hk (by decide +kernel) (by decide +kernel) fun so h' F' N' lt=>?_) he
 exact h m a D ws n t u news g so h' F' N' U hm hr lt fun l' ws' n' h' tk' r F' N'=>G _ _ h' tk' ⟨D,ws',n',hD,rfl,r⟩ F' N'
end
abbrev zXp(fn:Fn)(d:Nat)(binds:List (zA0×SV))(nx:List SO)(body:List Stmt)(r:SV)(nx':List SO):Prop:=
 ∀(c:Cx fn d nx.length) (Q:Flow→Shared→Prop),(∀ps' z s x,On c ps' nx' z s→SRep z r x→Q (.ret x) s)→(r = .d .none→∀ps' z s,On c ps' nx' z s→Q .next s)→∀z s,On c binds nx z s→_root_.PySem.wpAt c.M c.A (.func body c.env) (execs body c.env) Q noE s
section
variable {d:Nat}{vs:List SV}{kw:List (zA0×Value)}{nx nx':List SO}{r:SV}{binds:List (zA0×SV)}{st:Stmt}{name:zA0}{dV kV pm ct:Value}{cc:Addr}{fn:Fn}
theorem ConK.enterS(cs:List Value→List (zA0×Value))(hbody:zXp fn d binds nx (zAf st) r nx')(hK:∀P,(kW P).lookup fn.addr=some ⟨.type "function",none,.func (fnD st name fn.qual [(.ofString "__class__",cc)] dV kV pm fn.cdv ct),#[]⟩)(hb:∀z xs,SRepL z vs xs→BindR z binds (cs xs))(hbind:∀P (z:Wd) (s:Shared) (xs:List Value),SRepL z vs xs→(kW P).In s.heap→BindsTo s (fnX name fn.qual (zGe st) (zAf st) fn.scope [(.ofString "__class__",cc)] dV kV .none pm none fn.cdv ct) ⟨xs,kw⟩ (cs xs))(hcd:∀P,codeIn (kW P) fn.cdv fn.qual=true)(hcl:autoParam (fn.cl=fun _=>[(.ofString "__class__",cc)]) T0R)(hsc:autoParam (zAl st=fn.scope) T0R)(hloc:autoParam (((binds.map (·.1)).all fun x=>decide (fn.scope.names.lookup x=some .local))=true) T0R)(hnd:autoParam (zFp (binds.map (·.1))=true) T0R)(hcell:autoParam ((fn.scope.names.all fun x=>x.2 != .cell)=true) T0R)(hco:autoParam (fn.scope.isCoroutine=false) T0R)(hgen:autoParam (fn.scope.isGenerator=false) T0R):ConK d fn.addr vs kw nx r nx':=by
 intro fn₁ dc n₁ c z s as os R h m tk gs xs Q hd F N O D G hx k
 have bd:=hb _ _ hx
 refine Mine.enterS (s:=⟨h,gs,c.s₀.drawn,tk,c.s₀.os⟩) (cc:=cc) (name:=name) (st:=st) c.B F c.X N c.T fn₁.hk (lt_of_le_of_lt (Nat.le_add_right _ _) (lt_trans c.hdp (by decide))) (hK _) rfl rfl hsc (hcd _) (hbind _ ⟨as,z.Z⟩ _ xs hx (c.X.keeps F.keep)) ?_ (fun x hx=>by have:=all_eq_true.mp hcell x hx;simpa using this) hco hgen fn.hk ?_
 ·have h9:=hloc
  rw [←bd.names,List.all_map] at h9
  exact h9
 intro g L' h₁ FG F' N' B' X' T' l
 have hdp:=c.hdp
 have hun:=c.hun
 have hcl':fn.cl L'=[(.ofString "__class__",cc)]:=congrFun hcl L'
 let c':Cx fn d nx.length:={w:=c.w,p:=c.p,loose:=c.loose,mean:=c.mean,mg:=c.mg,mb:=c.mb,dp:=c.dp+1,un:=c.un+3,L:=L',outer:=envX fn₁.qual fn₁.scope c.L fn₁.addr fn₁.cdv (fn₁.cl c.L)::c.outer,A₀:=c.A,base:=c.base,h₀:=g,s₀:=c.s₀,as₀:=as,Z₀:=z.Z,R:=R,B:=B',X:=X',T:=T',hdp:=by lia,hun:=by lia,hn:=O.len.1}
 have hOn:On c' binds nx ⟨as,z.Z⟩ ⟨h₁,gs,c.s₀.drawn,tk+(cs xs).length,c.s₀.os⟩:=by
  refine On.mk (c:=c') F' (fun y sv e=>?_) N' O D G ?_ fun p hp=>hp
  ·rw [zEh (by rw [bd.names];exact zFq hnd)]
   exact bd.at y sv e
  ·show as.take nx.length=as
   rw [←O.len.1,take_length]
 have fin:∀{ps' z' s' x},On c' ps' nx' z' s'→SRep z' r x→LeaveK c.h₀ c.L m g (fun r s=>match r with | .ok (.ret v)=>Q v s | .ok _=>False | .error e=>noE e s) x s':=by
  rintro ps' z' s' x ⟨F₁,K₁,N₁,O₁,D₁,G₁,a₁,Z₁⟩ hr
  refine leaveK_ F₁ N₁ fun F₂ N₂=>?_
  refine k _ _ _ _ _ _ _ F₂ N₂ O₁ D₁ G₁ ⟨?_,Z₁⟩ hr
  exact ⟨_,by rw [show as=List.take nx.length _ from a₁.symm];exact (take_append_drop _ _).symm⟩
 have:=hbody c' (fun fl s'=>LeaveK c.h₀ c.L m g (fun r s=>match r with | .ok (.ret v)=>Q v s | .ok _=>False | .error e=>noE e s) (match fl with | .ret v=>v|_=>.none) s') (fun ps' z' s' x O' r'=>fin O' r') (fun hr ps' z' s' O'=>fin (x:=.none) O' (by rw [hr];exact .none)) _ _ hOn
 rw [←hcl']
 exact this
end
noncomputable def fnInit:Fn:=⟨.ofString "_Accumulator.__init__",zAl (zBw 17 0),199,.ref 198,fun _=>[(.ofString "__class__",186)],rfl⟩
noncomputable def zUe:Fn:=⟨.ofString "_Accumulator.pop",zAl (zBw 17 3),222,.ref 221,fun _=>[(.ofString "__class__",186)],rfl⟩
noncomputable def yDr:Fn:=⟨.ofString "_Accumulator.part_count",zAl (zBw 17 8),259,.ref 258,fun _=>[(.ofString "__class__",186)],rfl⟩
section
variable {l:List PyData}{k:Int}
theorem zLn{q a:Addr}{o:Obj}{news:List (Addr×Obj)}(h:∀p∈news,p.1<q)(hm:(a,o)∈news):q≠a:=Ne.symm (ne_of_lt (h _ hm))
theorem zYc(hl:l.length≤50000):Con 0 259 [.r 0] [] (zDt l k) (.d (.int l.length)) (zDt l k):=by
 refine (ConK.enterS (fn:=yDr) (binds:=[(.ofString "self",.r 0)]) (fun xs=>[(.ofString "self",xs.getD 0 default)]) ?_ (fun _=>rfl) (fun z xs h=>by obtain ⟨a,rfl,r⟩:=h.c1;exact .cons r .nil) (fun P z s xs h X=>by obtain ⟨a,rfl,r⟩:=h.c1;exact BindsTo.of_eq rfl) fun _=>rfl).con
 intro c Q ret fin z s O
 refine PySem.ks_wpAt_execs_cons (PySem.ks_wpAt_Return_some (zX8 (cda:=258) O rfl rfl rfl (fun _=>rfl) rfl rfl (fun _=>rfl) rfl rfl rfl rfl rfl rfl fun m a D ws n t u news g so h' F N U hm hr lt G=>?_))
 refine zR8 F c.X N (.head _) (.tail _ (zA2 U)) (.tail _ hm) fun q h2 F2 N2 lt2=>?_
 refine zOo N2 (.head _) (.inr rfl) (zOa F2 N2 (.head _) (.tail _ (.tail _ (zA2 U))) (hr.len▸le_trans hl (by decide)) fun t'=>?_)
 exact ret _ _ _ _ (G l ws n h2 _ hr F2 (by rw [zG7 U];exact fun p hp=>N2 p (.tail _ (.tail _ hp)))) (hr.len▸.int)
theorem EvB.go{fn:Fn}{d n₀:Nat}{c:Cx fn d n₀}{ps:List (zA0×SV)}{nx:List SO}{z:Wd}{s:Shared}{E:Env}{e:Expr}{b:Bool}{Q:Bool→Shared→Prop}(h:EvB c E ps nx e b nx)(O:On c ps nx z s)(q:∀z' s',On c ps nx z' s'→Q b s'):wpAny c.M c.A (isTrue e E (eval e E)) Q noE s:=h z s O Q fun z' s' _ O'=>q z' s' O'
theorem zGz{nx:List SO}{r:SV}{nx':List SO}(h:zXp zUe 1 [(.ofString "self",.r 0)] nx (zAf (zBw 17 3)) r nx'):Con 1 222 [.r 0] [] nx r nx':=
 (ConK.enterS (fn:=zUe) (fun xs=>[(.ofString "self",xs.getD 0 default)]) h (fun _=>rfl) (fun z xs h=>by obtain ⟨a,rfl,r⟩:=h.c1;exact .cons r .nil) (fun P z s xs h X=>by obtain ⟨a,rfl,r⟩:=h.c1;exact BindsTo.of_eq rfl) fun _=>rfl).con
theorem zU6{y:PyData}(hl:l.length≤49000):Con 1 222 [.r 0] [] (zDt (l++[y]) k) (.d y) (zDt l k):=zGz fun c Q ret fin z s O=>by
 have hn:(l++[y]).length≤50000:=by rw [length_append,length_singleton];lia
 refine PySem.ks_wpAt_execs_cons (wpAt_of_wpAny (wpAny_If (EvB.go (b:=false) ?_ O fun z₁ s₁ O₁=>?_)))
 ·have e:(((l++[y]).length:Int)==0)=false:=by rw [length_append,length_singleton];exact beq_eq_false_iff_ne.mpr (by lia)
  exact e▸EvB.cmp (Ev.meth (.loc rfl) (MethS.pc rfl rfl) .nil (CallS.con [0,1] (zYc (k:=k) hn) rfl rfl rfl rfl rfl) (.k zXk)) .int CmpS.eqI
 refine wpAny_execs_nil ?_
 refine PySem.ks_wpAt_execs_cons (PySem.ks_wpAt_Return_some (zX8 (cda:=221) O₁ rfl rfl rfl (fun _=>rfl) rfl rfl (fun _=>rfl) rfl rfl rfl rfl rfl rfl fun m a D ws n t u news g so h' F N U hm hr lt G=>?_))
 obtain ⟨ws,v,rfl,hv',hy⟩:=zF4 hr
 refine zR9 F c.X N (.head _) (.tail _ (zA2 U)) (.tail _ hm) fun q h2 F2 N2 lt2=>?_
 refine zOo N2 (.head _) (.inl rfl) (zOb F2 c.X N2 (.head _) (.tail (zLn lt2 (.tail _ (zA2 U))) (.tail (zLn lt (zA2 U)) U)) (.tail _ (.tail _ hm)) (hv'.len▸le_trans hl (by decide)) fun h3 n3 F3 N3=>?_)
 exact ret _ _ _ _ (G l ws n3 h3 _ hv' F3 fun p hp=>N3 p (.tail _ (.tail _ hp))) hy
theorem zYd:Con 1 222 [.r 0] [] (zDt [] k) (.d (.tuple [.str (.ofString ""),.str (.ofString "")])) (zDt [] k):=zGz fun c Q ret fin z s O=>by
 refine PySem.ks_wpAt_execs_cons (wpAt_of_wpAny (wpAny_If (EvB.go (b:=true) ?_ O fun z₁ s₁ O₁=>?_)))
 ·exact EvB.cmp (Ev.meth (.loc rfl) (MethS.pc rfl rfl) .nil (CallS.con [0,1] (zYc (l:=[]) (k:=k) (zero_le _)) rfl rfl rfl rfl rfl) (.k zXk)) .int (CmpS.eqI (i:=0) (j:=0))
 exact wpAny_execs_cons (wpAny_Return_some (Ev.tuple (xs:=[.str (.ofString ""),.str (.ofString "")]) (.cons .str (.cons .str .nil)) rfl z₁ s₁ O₁ _ fun z₂ s₂ x l₂ O₂ r=>ret _ _ _ _ O₂ r))
theorem zJ7{vs:List SV}(cs:List Value→List (zA0×Value))(hb:∀z xs,SRepL z (.r 0::vs) xs→BindR z [(.ofString "self",.r 0),(.ofString "initial_size",.d (.int k))] (cs xs))(hbind:∀P (z:Wd) (s:Shared) (xs:List Value),SRepL z (.r 0::vs) xs→(kW P).In s.heap→BindsTo s (fnX (.ofString "__init__") fnInit.qual (zGe (zBw 17 0)) (zAf (zBw 17 0)) fnInit.scope [(.ofString "__class__",186)] (.ref (nat_lit 191)) .none .none (.str (.ofString "cpy313.email.header") 431) none fnInit.cdv (.ref (nat_lit 192))) ⟨xs,[]⟩ (cs xs)):
  ConK 0 199 (.r 0::vs) [] [.accO 1 [],.attrs []] (.d .none) (zDt [] k):=by
 refine ConK.enterS (fn:=fnInit) cs ?_ (fun _=>rfl) hb hbind fun _=>rfl
 intro c Q ret fin z s O
 refine PySem.ks_wpAt_execs_cons (wpAt_of_wpAny (Ex.setSize (i:=0) (j:=k) (nx₁:=[.accO 1 [],.attrs []]) (l:=[]) (dk:=1) (.loc rfl) (.loc rfl) rfl (.inl rfl) rfl z s O _ fun z₁ s₁ O₁=>?_))
 refine PySem.ks_wpAt_execs_cons (PySem.ks_wpAt_Expr_any (zX8 (cda:=198) O₁ rfl rfl rfl (fun _=>rfl) rfl rfl (fun _=>rfl) rfl rfl rfl rfl rfl rfl fun m a D ws n t u news g so h' F N U hm hr lt G=>?_))
 cases hr.nil_
 refine zNj F c.X N (.head _) (.tail _ (zA2 U)) (.tail _ hm) fun q h2 F2 N2 lt2=>?_
 refine zOo N2 (.head _) (.inr rfl) (zMh F2 N2 (.head _) (.tail (zLn lt2 (.tail _ (zA2 U))) (.tail (zLn lt (zA2 U)) U)) fun h3 n3 F3 N3=>?_)
 exact wpAt_of_wpAny (wpAny_execs_nil (fin rfl _ _ _ (G [] [] n3 h3 _ .nil F3 fun p hp=>N3 p (.tail _ (.tail _ hp)))))
end
theorem Con.cls{d:Nat}{C fI:Addr}{vs:List SV}{so:SO}{nx':List SO}{mk:Addr→Obj}(hmk:∀P (z:Wd) x dx,z.as[1]? = some dx→ORep P z so x (mk dx))(hcall:∀(w:World) (A:Around) (h₀ h:Heap) (L:Addr) (m:zA0→Option Value) (news:List (Addr×Obj)) (s:Shared) (z:Wd) (xs:List Value) (Q:Value→Shared→Prop),Fr h₀ L s.heap m→(kW w.params).In h₀→News h₀ L s.heap news→SRepL z vs xs→
   (∀x dx h',Fr h₀ L h' m→News h₀ L h' ((x,mk dx)::(dx,emptyDict)::news)→(∀p∈news,p.1<dx)→dx<x→
    codeAny (model pw w) (A.under (.builtin "type.__call__" ⟨.ref C::xs,[]⟩)) (.call (.ref fI) ⟨.ref x::xs,[]⟩) (InitBack x (fun r s'=>match r with | .ok (.ret v)=>Q v s' | .ok _=>False | .error e=>noE e s')) {s with heap:=h'})→
   wpAny (model pw w) A (call (.ref C) xs) Q noE s)(K:ConK d fI (.r 0::vs) [] [so,.attrs []] (.d .none) nx'):Con (d+1) C vs [] [] (.r 0) nx':=by
 intro fn dc n₀ c z s as os R h m tk gs xs Q hd F N O D G hx k
 cases O
 induction dc with
 |zero=>exact absurd hd (not_lt_zero _)
 |succ dc=>
  have hdp:=c.hdp
  have hun:=c.hun
  let c':Cx fn dc n₀:={c with dp:=c.dp+1,un:=c.un+1,hdp:=by lia,hun:=by lia}
  refine hcall c.w c.A c.h₀ h c.L m (z.Z++R) _ ⟨[],z.Z⟩ xs Q F c.X N hx fun x dx h' F' N' l1 l2=>?_
  have le:Wd.Le ⟨[],z.Z⟩ ⟨[x,dx],z.Z⟩:=⟨⟨_,rfl⟩,fun _ h=>h⟩
  have l3:∀p∈z.Z++R,∀a∈[x,dx],p.1≠a:=fun p hp a ha=>by
   rcases mem_cons.mp ha with rfl|ha
   ·exact ne_of_lt (lt_trans (l1 p hp) l2)
   ·rw [mem_singleton.mp ha];exact ne_of_lt (l1 p hp)
  refine codeAny_mono (K fn dc n₀ c' ⟨[x,dx],z.Z⟩ c.s₀ [x,dx] [mk dx,emptyDict] R h' m tk gs (.ref x::xs) (fun v s'=>v = .none∧Q (.ref x) s') (Nat.lt_of_succ_lt_succ hd) F' N' (.cons (hmk _ _ _ _ rfl) (.cons ⟨[],rfl,.nil⟩ .nil))
   ⟨by simp [ne_of_gt l2],fun a ha p hp=>l3 p (mem_append_left _ hp) a ha,fun a ha p hp=>l3 p (mem_append_right _ hp) a ha,D.zr⟩ G (.cons ⟨x,rfl,rfl⟩ (hx.mono le))
   fun as' os' Z' h2 tk2 gs2 v F2 N2 O2 D2 G2 le2 r2=>⟨DRep.none_ r2,k as' os' Z' h2 tk2 gs2 (.ref x) F2 N2 O2 D2 G2 (le.trans le2) (SRep.mono (sv:=.r 0) le2 ⟨x,rfl,rfl⟩)⟩) ?_
  intro r s' hr
  induction r with
  |ok fl=>induction fl<;>exact hr
  |error e=>exact hr
theorem zNv{vs:List SV}{k:Int}(hv:∀z xs,SRepL z vs xs→zF8 xs)(K:ConK 0 199 (.r 0::vs) [] [.accO 1 [],.attrs []] (.d .none) (zDt [] k)):Con 1 262 vs [] [] (.r 0) (zDt [] k):=
 Con.cls (so:=.accO 1 []) (mk:=fun dx=>accO dx [] 0) (fun P z x dx h=>⟨dx,[],0,h,rfl,.nil⟩) (fun w A h₀ h L m news s z xs Q F X N hx h=>zNu (hv _ _ hx) F N X h) K
theorem yBf{k:Int}:Con 1 262 [.d (.int k)] [] [] (.r 0) (zDt [] k):=
 zNv (fun z xs h=>by obtain ⟨a,rfl,_⟩:=h.c1;exact .inr ⟨a,rfl⟩) (zJ7 (fun xs=>[(.ofString "self",xs.getD 0 default),(.ofString "initial_size",xs.getD 1 default)]) (fun z xs h=>by obtain ⟨a,b,rfl,r,q⟩:=h.c2;exact .cons r (.cons q .nil)) fun P z s xs h X=>by obtain ⟨a,b,rfl,_⟩:=h.c2;exact zAd X (fun _=>by kernel_rfl))
theorem zU4:Con 1 262 [] [] [] (.r 0) (zDt [] 0):=
 zNv (fun z xs h=>by rw [h.nil_];exact .inl rfl) (zJ7 (fun xs=>[(.ofString "self",xs.getD 0 default),(.ofString "initial_size",.int 0 557)]) (fun z xs h=>by obtain ⟨a,rfl,r⟩:=h.c1;exact .cons r (.cons .int .nil)) fun P z s xs h X=>by obtain ⟨a,rfl,_⟩:=h.c1;exact zAd X (fun _=>by kernel_rfl))
theorem AttrL.len{P:Params}{z:Wd}{es:List (zA0×SV)}{ens:List DictEntry}(h:AttrL P z es ens):ens.length=es.length:=by
 induction h with
 |nil=>rfl
 |cons _ _ ih=>exact congrArg (· + 1) ih
theorem zOy(P:Params):nsIn (kW P) mainGlobals (.ofString "_Accumulator")=some (some (.ref 262)):=by kernel_rfl
theorem yCq(P:Params):keepIn (kW P) (.ref 262)=true:=by kernel_rfl
theorem AttrL.put{P:Params}{z:Wd}{es:List (zA0×SV)}{ens:List DictEntry}{name:zA0}{sv:SV}{v:Value}{t:Tok}(h:AttrL P z es ens)(r:SRep z sv v)(hn:es.lookup name=none):
  AttrL P z (es++[(name,sv)]) (putL name (PyData.keyHash P name) (.str name t) v ens)∧putN name ens es.length=(es++[(name,sv)]).length:=by
 have key:AttrL P z (es++[(name,sv)]) (putL name (PyData.keyHash P name) (.str name t) v ens)∧ens.any (·.key.isStr name)=false:=by
  induction h with
  |nil=>exact ⟨.cons r .nil,rfl⟩
  |@cons y u sv' v' xs es' r' _ ih=>
   rw [lookup_cons] at hn
   cases q:name==y with
   |true=>rw [q] at hn;cases hn
   |false=>
    rw [q] at hn
    obtain ⟨a,b⟩:=ih hn
    have e:(Value.str y u).isStr name=false:=by
     show (y==name)=false
     rw [beq_eq_false_iff_ne] at q ⊢
     exact fun e=>q e.symm
    constructor
    ·unfold putL
     rw [if_neg (by rw [e];exact Bool.noConfusion)]
     exact .cons r' a
    ·rw [List.any_cons,e,b];rfl
 refine ⟨key.1,?_⟩
 unfold putN
 rw [key.2,length_append]
 rfl
theorem Ex.setI{fn:Fn}{d n₀:Nat}{c:Cx fn d n₀}{ps:List (zA0×SV)}{nx nx₁:List SO}{C:Addr}{es:List (zA0×SV)}{name:zA0}{o value:Expr}{v:SV}{tpos pos:Pos}{k dk:Nat}(hv:Ev c c.env ps nx value v nx₁)(ho:Ev c c.env ps nx₁ o (.r k) nx₁)(hk:nth nx₁ k = .inst C dk)(hd:nth nx₁ dk = .attrs es)(hn:es.lookup name=none)(hset:∀P,findIn (kW P) (.ref C) "__setattr__" = some (some (.builtin "object.__setattr__")))(hp:∀P,plainOver (kW P) C=true)(hh:∀P,hasDictIn (kW P) C=true)(ht:∀P,takerIn (kW P) C name=some none)(hz:autoParam (ble (es++[(name,v)]).length 1000=true) T0R)(hs:autoParam (swapsWith value (some (.Attribute o name tpos)) pos.line c.env=pure false) T0R):Ex c ps nx (.Assign [.Attribute o name tpos] value pos) ps (upd nx₁ dk (.attrs (es++[(name,v)]))):=fun z s O Q q=>by
 refine plainObj_wpAny_Assign_Attribute (hv z s O _ fun z₁ s₁ v₁ l₁ O₁ r₁=>ho z₁ s₁ O₁ _ fun z₂ s₂ v₂ l₂ O₂ r₂=>?_) hs
 obtain ⟨A,ha,rfl⟩:=r₂
 refine O₂.obj ha fun _ _ _ _ _ _ _ ro _ _ _=>?_
 rw [hk] at ro
 obtain ⟨D,hD,_⟩:=ro
 refine O₂.obj hD fun m ob news g F N U ro _ oth G=>?_
 obtain ⟨ob',hm,ra⟩:=oth k A ha
 rw [hk] at ra
 obtain ⟨D',hD',rfl⟩:=ra
 cases hD.symm.trans hD'
 rw [hd] at ro
 obtain ⟨ens,rfl,he⟩:=ro
 obtain ⟨p1,p2⟩:=he.put (t:=s₂.toks+1) (r₁.mono l₂) hn
 have hg:(getL name ens).isSome=true:=by rw [he.miss hn];rfl
 have hl:(putL name (PyData.keyHash c.w.params name) (.str name (s₂.toks+1)) v₁ ens).length≤1000:=by rw [p1.len];exact le_of_ble_eq_true hz
 refine set_dict F c.X N ⟨(N _ hm).1,rfl,rfl,(N _ (zA2 U)).1⟩ rfl (hset _) (hp _) (ht _) (hh _) hg rfl (zE9 U _) hl fun h' F' N'=>q z₂ _ (G _ _ h' _ ⟨_,congrArg (dictOf _) p2,p1⟩ F' N')
theorem zM3:∀{nx:List SO} {k:Nat} {so:SO},nth nx k=so→upd nx k so=nx
 |[],_,_,_=>rfl
 |_::_,0,_,e=>by rw [←e];rfl
 |a::r,k+1,_,e=>congrArg (a :: ·) (zM3 (nx:=r) e)
section
variable {fn:Fn}{d n₀:Nat}{c:Cx fn (d+1) n₀}{ps:List (zA0×SV)}{nx:List SO}{z:Wd}{s:Shared}{k dk tk:Nat}{qs:List (zA0×zA0)}{i:Int}{P cA:Addr}
theorem zZ6{elt:Expr}{xa xb:zA0}{pa pb pt px pos:Pos}{kt:Nat}{scope:Scope}{Q:Value→Shared→Prop}(V:Nat→Value→Prop)(O:On c ps nx z s)(hself:ps.lookup (.ofString "self")=some (.r k))(hk:nth nx k = .accO dk (pcs qs))(hd:nth nx dk=szA i)(ht:nth nx tk=zG1 P pos)(htl:tk<nx.length)(hcv:fn.cdv = .ref cA)(hcd:∀{h:Heap} {Pm:Params},(kW Pm).In h→CodeHd h cA P)(hx:fn.scope.names.lookup (.ofString "self")=some .local)(hco:scope.isCoroutine=false)(hfree:∀x∈scope.names,x.2≠.free)(hcell:∀y∈scope.names,y.2≠.cell)(h0:scope.names.lookup (".0" : zA0)=some NameKind.local)(hxa:scope.names.lookup xa=some .local)(hxb:scope.names.lookup xb=some .local)(hab:xa≠xb)(hkind:scope.kind = .function)(helt:∀(tx ty:Nat→Tok) (A':Around) E' (C c':Addr) (t:Shared) m₂ j,A'.handled=none→j<qs.length→Fr c.h₀ C t.heap m₂→m₂ xa=some (.str (qs.getD j default).1 (tx j))→m₂ xb=some (.str (qs.getD j default).2 (ty j))→
   wpAny c.M A' (eval elt (zHr scope C c' (c.env.qual++"<genexpr>."))) (fun y s₃=>V j y∧Keeps t s₃) E' t)(h:∀m a D ws n t u news q K h' tk' gs',Fr c.h₀ c.L h' m→News c.h₀ c.L h' news→AllBare gs'→c.L≤K→(∀p∈news,p.1≤K)→K<h'.objs.size→(a,accO D ws n)∈news→(D,zGb c.w.params (.int i t) u)∈news→m (.ofString "self")=some (.ref a)→
   Gen pw c.w c.A K q qs.length (fun j y=>∃i,(List.range qs.length)[j]? = some i∧V i y) ⟨h',gs',s.drawn,tk',s.os⟩→
   (∀h'' tk'' gs'',Fr c.h₀ c.L h'' m→News c.h₀ c.L h'' news→AllBare gs''→On c ps nx z ⟨h'',gs'',s.drawn,tk'',s.os⟩)→Q (.ref q) ⟨h',gs',s.drawn,tk',s.os⟩):
  wpAny c.M c.A (eval (.GeneratorExp elt [⟨.Tuple [.Name xa pa,.Name xb pb] kt pt,.Name (.ofString "self") px,[],0⟩] scope pos) c.env) Q noE s:=by
 induction O with
 |@mk h₁ tk₁ gs m as os Z F K₀ N O D G a0 Z0=>
 obtain ⟨v,hv,a,ha,rfl⟩:=K₀ _ _ hself
 have key:∀{j b},as[j]? = some b→∃ob,(b,ob)∈as.zip os++(Z++c.R)∧ORep c.w.params ⟨as,Z⟩ (nth nx j) b ob:=fun hj=>by
  obtain ⟨ob,_,f2,f3⟩:=O.at hj
  exact ⟨ob,mem_append_left _ f3,f2⟩
 obtain ⟨_,ham,ro⟩:=key ha
 rw [hk] at ro
 obtain ⟨Da,ws,n,hD,rfl,hr⟩:=ro
 obtain ⟨_,hm,rb⟩:=key hD
 rw [hd] at rb
 obtain ⟨t,u,rfl⟩:=zEm rb
 have hta:as[tk]? = some (as[tk]'(O.len.1▸htl)):=getElem?_eq_getElem _
 obtain ⟨ob,e1,e2,e3⟩:=O.at hta
 rw [ht] at e2
 obtain ⟨eP,tb,rfl,hT⟩:=e2
 rw [eP] at hta
 have U:=zF6 hta e1 D.nd (rest:=Z++c.R) fun p hp=>by
  rcases mem_append.mp hp with hp|hp
  ·exact D.az _ (mem_of_getElem? hta) p hp
  ·exact D.ar _ (mem_of_getElem? hta) p hp
 have hP:=zLt hr
 have el:=hP.length
 obtain ⟨Ts,tx,ty,hTs⟩:=(hP.mono' (Z':=as.zip os++(Z++c.R)) fun p hp=>mem_append_right _ (mem_append_left _ hp)).fns
 have hdp:=c.hdp
 refine zV1 (p:=c.p) (loose:=c.loose) (mean:=c.mean) (c:=cA) (P:=P) (fun j=>.str (qs.getD j default).1 (tx j)) (fun j=>.str (qs.getD j default).2 (ty j)) V Ts
  F c.X N c.T G rfl hcv (hcd c.X) U hT rfl ?r1 hco hfree hcell h0 hxa hxb hab hkind (fun x=>rfl) (nameX_L F hv ⟨rfl,rfl⟩ fn.hk hx rfl) ham hm hTs ?r5 ?_
 case r1=>exact lt_of_le_of_lt (Nat.le_add_right _ _) (lt_trans hdp (by decide))
 case r5=>
  intro A' E' C c' t m₂ j hA hj F₂ h1 h2
  exact helt tx ty A' E' C c' t m₂ j hA (el▸hj) F₂ h1 h2
 intro h9 tk9 gs9 q9 tb9 K9 F9 N9 hps9 G9 hL9 hK9 hKs9 Y9
 refine h m a Da ws n t u _ q9 K9 h9 tk9 gs9 F9 N9 G9 hL9 hK9 hKs9 (zJz U ham (zV3 N ham (zA2 U))) (zJz U hm (zSd N hm (zA2 U))) hv (el▸Y9) fun h'' tk'' gs'' F' N' G'=>?_
 have e:upd nx tk (zG1 P pos)=nx:=zM3 ht
 exact .mk F' K₀ N' (e▸O.upd hta ⟨rfl,tb9,rfl,hps9⟩) D G' a0 Z0
end
noncomputable def fnLenA:Fn:=⟨.ofString "_Accumulator.__len__",zAl (zBw 17 4),229,.ref 228,fun _=>[],rfl⟩
noncomputable def fnStrA:Fn:=⟨.ofString "_Accumulator.__str__",zAl (zBw 17 5),236,.ref 235,fun _=>[],rfl⟩
theorem yC0(P:Params):nsIn (kW P) mainGlobals (.ofString "sum")=some none:=by kernel_rfl
theorem yBc:bootBuiltins (.ofString "sum")=some (.builtin "sum"):=by kernel_rfl
section
variable {ps:List (zA0×zA0)}{k:Int}
theorem zE5(hs:zBq ps){j:Nat}(hj:j<ps.length):(ps.getD j default).1.length≤100∧(ps.getD j default).2.length≤100:=by
 rw [getD_eq_getElem?_getD,getElem?_eq_getElem hj]
 exact hs.2 _ (getElem_mem hj)
theorem zRe{n j:Nat}{p:Nat→Prop}(h:∃i,(List.range n)[j]? = some i∧p i):p j:=by
 obtain ⟨i,hi,e⟩:=h
 obtain ⟨hj,ei⟩:=List.getElem?_eq_some_iff.mp hi
 rw [List.getElem_range] at ei
 exact ei▸e
theorem zYa(hs:zBq ps)(h0:0≤k)(h1:k≤1000000):Con 1 229 [.r 0] [] (zDt (pcs ps) k++[zG1 224 zDf]) (.d (.int (k+(tlen ps:Int)))) (zDt (pcs ps) k++[zG1 224 zDf]):=by
 refine Con.enterN (fn:=fnLenA) (fun _=>rfl) [] [] ?hbody (fun _=>.nil) (fun P s a1 X=>BindsTo.of_eq rfl)
 intro c Q ret fin
 conv=>arg 5;arg 1;whnf
 intro z s O
 refine wpAny_execs_cons (wpAny_Return_some (Call_ (Ev.built yC0 yBc (by decide) rfl rfl z s O _ fun z₁ s₁ a l₁ O₁ r₁=>?_) rfl))
 subst r₁
 refine callWith_method1 (args_cons (zZ6 (tk:=2) (fun j y=>∃u,y = .int (((ps.getD j default).1.length:Int)+((ps.getD j default).2.length:Int)) u) O₁ rfl rfl rfl rfl (lt_succ_self 2) rfl zMj rfl rfl (by decide) (by decide) rfl rfl rfl (by decide) rfl ?helt ?h) rfl) (zAz rfl) (zBp rfl)
 case helt=>
  intro tx ty A' E' C c' t m₂ j hA hj F₂ h1 h2
  exact zVl F₂ c.X c.T h1 h2 (le_trans (zE5 hs hj).1 (by decide)) (le_trans (zE5 hs hj).2 (by decide))
 intro m a D ws n t u news q K h' tk' gs' F N G hL hK hKs ha hm hv Y R
 refine args_cons (Attribute_any_ (nameX_L F hv (zIj F c.X N ha hm rfl (args_nil ?_)) fnLenA.hk rfl rfl) rfl) rfl
 have hle:∀i,i<ps.length→0≤((ps.getD i default).1.length:Int)+((ps.getD i default).2.length:Int)∧((ps.getD i default).1.length:Int)+((ps.getD i default).2.length:Int)≤200:=fun i hi=>by
  have:=zE5 hs hi
  lia
 have hs1:=hs.1
 refine zR6 F N G hL hK hKs (zP2 Y (le_succ _)) (fun i=>((ps.getD i default).1.length:Int)+((ps.getD i default).2.length:Int)) (fun j v hv=>zRe hv) ⟨by lia,by lia⟩ ?h3 fun h8 tk8 gs8 t8 F8 N8 G8=>?_
 case h3=>
  intro j hj
  have a:=hle j hj
  have b:=zJm _ ps.length (j+1) hle hj
  constructor<;>constructor<;>lia
 rw [zH0 ps _ (le_refl _),take_length]
 exact ret _ _ _ _ (R h8 tk8 gs8 F8 N8 G8) .int
theorem zYf(hs:zBq ps):Con 1 236 [.r 0] [] (zDt (pcs ps) k++[zG1 231 zDh]) (.d (.str (zBe ps))) (zDt (pcs ps) k++[zG1 231 zDh]):=by
 refine Con.enterN (fn:=fnStrA) (fun _=>rfl) [] [] ?hbody (fun _=>.nil) (fun P s a1 X=>BindsTo.of_eq rfl)
 intro c Q ret fin
 conv=>arg 5;arg 1;whnf
 intro z s O
 obtain ⟨tE,hE⟩:=zOs c.w.params
 refine O.same fun m news F N hZ R=>?_
 refine wpAny_execs_cons (wpAny_Return_some (MethodCall_ (nameX_K F c.X (topRead_of c.T) hE (getMethod_builtin (typeIs_str s _ tE) PySem.F.plainAttrs_str PySem.F.slot_str_join PySem.F.type_str_join (fun a e=>by cases e) ?_) fnStrA.hk rfl rfl) rfl))
 refine callWith_method1 (args_cons (zZ6 (tk:=2) (fun j y=>∃u,y = .str ((ps.getD j default).1++(ps.getD j default).2) u) O rfl rfl rfl rfl (lt_succ_self 2) rfl zMk rfl rfl (by decide) (by decide) rfl rfl rfl (by decide) rfl ?helt ?h) rfl) (zAz rfl) (zBp rfl)
 case helt=>
  intro tx ty A' E' C c' t m₂ j hA hj F₂ h1 h2
  exact zVm F₂ c.X c.T h1 h2 (le_trans (zE5 hs hj).1 (by decide)) (le_trans (zE5 hs hj).2 (by decide))
 intro m a D ws n t u news q K h' tk' gs' F N G hL hK hKs ha hm hv Y R
 refine args_nil ?_
 have hmap:(List.range ps.length).map (fun i=>(ps.getD i default).1++(ps.getD i default).2)=ps.map zXj:=zQn zXj ps
 refine zMz F N G hL hK Y (fun i=>(ps.getD i default).1++(ps.getD i default).2) (fun j v hv=>zRe hv) ?h2 (le_trans hs.1 (by rw [sizeLine_eq];decide)) fun h8 tk8 gs8 t8 F8 N8 G8=>?_
 case h2=>
  rw [hmap]
  refine joinOk_of ?_
  have:=zG3 hs
  have e0:(Str.ofString "").length=0:=by decide
  rw [e0,zI4]
  omega
 rw [hmap]
 exact ret _ _ _ _ (R h8 tk8 gs8 F8 N8 G8) .str
end
theorem DRep.reads{Z:List (Addr×Obj)}{h:Heap}(hz:∀p∈Z,h.get? p.1=some p.2){x:PyData}{v:Value}(r:DRep Z x v):∃as,Reads h v x as:=
 DRep.rec (motive_1:=fun x v _=>∃as,Reads h v x as) (motive_2:=fun x v _=>∃as,ReadsAll h v x as) ⟨_,.none⟩ ⟨_,.bool _⟩ ⟨_,.int _ _⟩ ⟨_,.str _ _⟩ (fun m _ ⟨as,i⟩=>⟨_,.list (hz _ m) rfl rfl (by simpa using i)⟩) (fun m _ ⟨as,i⟩=>⟨_,.tuple (hz _ m) rfl rfl (by simpa using i)⟩) ⟨_,.nil⟩ (fun _ _ ⟨_,a⟩ ⟨_,b⟩=>⟨_,.cons a b⟩) r
theorem DRepL.reads{Z:List (Addr×Obj)}{h:Heap}(hz:∀p∈Z,h.get? p.1=some p.2){x:List PyData}{v:List Value}(r:DRepL Z x v):∃as,ReadsAll h v x as:=
 DRepL.rec (motive_1:=fun x v _=>∃as,Reads h v x as) (motive_2:=fun x v _=>∃as,ReadsAll h v x as) ⟨_,.none⟩ ⟨_,.bool _⟩ ⟨_,.int _ _⟩ ⟨_,.str _ _⟩ (fun m _ ⟨as,i⟩=>⟨_,.list (hz _ m) rfl rfl (by simpa using i)⟩) (fun m _ ⟨as,i⟩=>⟨_,.tuple (hz _ m) rfl rfl (by simpa using i)⟩) ⟨_,.nil⟩ (fun _ _ ⟨_,a⟩ ⟨_,b⟩=>⟨_,.cons a b⟩) r
def RdS(nx:List SO):SV→PyData→Prop
 |.d x,y=>x=y
 |.r k,y=>∃l,nth nx k = .lst l∧y = .list l
 |.v _,_=>False
section
variable {fn:Fn}{d n₀:Nat}{c:Cx fn d n₀}{ps:List (zA0×SV)}{nx nx' nx₁ nx₂:List SO}{z:Wd}{s:Shared}{e l r:Expr}{pos px:Pos}{v v₁ v₂:SV}{x:zA0}{k dk:Nat}{Q:Flow→Shared→Prop}{bs:List (List Stmt)}{rest:List Stmt}
theorem RdS.reads{y:PyData}{a:Value}(h:RdS nx v y)(O:On c ps nx z s)(r:SRep z v a):∃as,Reads s.heap a y as:=by
 induction v with
 |d x=>
  induction h
  refine O.same fun m news F N hZ _=>?_
  exact DRep.reads (fun p hp=>(N p (hZ p hp)).1) r
 |r k=>
  obtain ⟨l,hk,rfl⟩:=h
  obtain ⟨a,ha,rfl⟩:=r
  refine O.obj ha fun m o news g F N U ro hZ _ _=>?_
  rw [hk] at ro
  obtain ⟨vs,n,rfl,rv⟩:=ro
  obtain ⟨as,ra⟩:=DRepL.reads (fun p hp=>(N p (hZ p hp)).1) rv
  exact ⟨_,.list (N _ (zA2 U)).1 rfl rfl (by simpa using ra)⟩
 |v x=>exact h.elim
theorem CmpS.eqD{y₁ y₂:PyData}(h₁:RdS nx v₁ y₁)(h₂:RdS nx v₂ y₂)(s₁:SeqAt.shaped y₁=true)(s₂:SeqAt.shaped y₂=true):CmpS c ps nx .Eq v₁ v₂ (PyData.eqv y₁ y₂):=fun z s a b O r₁ r₂ Q q=>by
 obtain ⟨_,R₁⟩:=h₁.reads O r₁
 obtain ⟨_,R₂⟩:=h₂.reads O r₂
 have hun:=c.hun
 exact eq_dataH R₁ R₂ s₁ s₂ (by show c.un+64<cLine;rw [cLine_is];lia) (q _ O)
theorem CmpS.neD{y₁ y₂:PyData}(h₁:RdS nx v₁ y₁)(h₂:RdS nx v₂ y₂)(s₁:SeqAt.shaped y₁=true)(s₂:SeqAt.shaped y₂=true):CmpS c ps nx .NotEq v₁ v₂ (!PyData.eqv y₁ y₂):=fun z s a b O r₁ r₂ Q q=>by
 obtain ⟨_,R₁⟩:=h₁.reads O r₁
 obtain ⟨_,R₂⟩:=h₂.reads O r₂
 have hun:=c.hun
 exact ne_dataH R₁ R₂ s₁ s₂ (by show c.un+64<cLine;rw [cLine_is];omega) (q _ O)
end
noncomputable def zYu:Fn:=⟨.ofString "_Accumulator.push",zAl (zBw 17 1),206,.ref 205,fun _=>[],rfl⟩
theorem zK5{l:List PyData}{i:Int}{x y:zA0}(hl:l.length≤49000):ConK 0 206 [.r 0,.d (.str x),.d (.str y)] [] (zDt l i) (.d .none) (zDt (l++[.tuple [.str x,.str y]]) i):=by
 refine ConK.enterN (fn:=zYu) (fun _=>rfl) [] [] ?hbody (fun _=>.nil) (fun P s a1 a2 a3 X=>BindsTo.of_eq rfl)
 intro c Q ret fin
 conv=>arg 5;arg 1;whnf
 exact J.seq (Ex.expr (Ev.meth (.loc rfl) (MethS.appA rfl rfl) (.cons (.tuple (xs:=[_,_]) (.cons (.loc rfl) (.cons (.loc rfl) .nil))) .nil) (CallS.appA rfl rfl (le_trans hl (by decide))) .b)) (J.pop (fin rfl _))
theorem zU8{l:List PyData}{k:Int}{x y:zA0}(hl:l.length≤49000):Con 0 206 [.r 0,.d (.str x),.d (.str y)] [] (zDt l k) (.d .none) (zDt (l++[.tuple [.str x,.str y]]) k):=(zK5 hl).con
noncomputable abbrev aL(ps:List (zA0×zA0))(k:Nat):List SO:=[.accO 1 (pcs ps),szA k,zG1 224 zDf,zG1 231 zDh]
noncomputable def zGd(k:Nat)(ps:List (zA0×zA0)):Bool:=(k==0)&&((tlen ps==0) || Txt.isspace (zBe ps))
theorem zT4(k:Nat)(ps:List (zA0×zA0)):((((k:Nat):Int)==0)&&((!((k+tlen ps) != 0)) || Txt.isspace (zBe ps)))=zGd k ps:=by
 induction k with
 |zero=>simp [zGd,bne]
 |succ k=>rfl
theorem zIn:bootBuiltins (.ofString "str")=some (.type "str"):=by kernel_rfl
theorem zJ5(P:Params):nsIn (kW P) mainGlobals (.ofString "str")=some none:=by kernel_rfl
noncomputable def zYt:Fn:=⟨.ofString "_Accumulator.is_onlyws",zAl (zBw 17 7),251,.ref 250,fun _=>[],rfl⟩
section
variable {fn:Fn}{d n₀:Nat}{ns:List (zA0×SV)}{ps:List (zA0×zA0)}{k:Nat}
theorem yB3{c:Cx fn (d+2) n₀}(hs:zBq ps)(hk:k≤1000000):CallS c ns (aL ps k) (.ref 229) [.r 0] [] (.d (.int ((k+tlen ps:Nat):Int))) (aL ps k):=
 CallS.con [0,1,2] (zYa (k:=k) hs (natCast_nonneg k) (by (exact ofNat_le.mpr (by assumption)))) (zAg (by lia)) rfl rfl rfl rfl
theorem yB4{c:Cx fn (d+2) n₀}(hs:zBq ps):CallS c ns (aL ps k) (.ref 236) [.r 0] [] (.d (.str (zBe ps))) (aL ps k):=
 CallS.con [0,1,3] (zYf (k:=k) hs) (zAg (by lia)) rfl rfl rfl rfl
end
theorem zYb{ps:List (zA0×zA0)}{k:Nat}(hs:zBq ps)(hk:k≤1000000):Con 5 251 [.r 0] [] (aL ps k) (.d (.bool (zGd k ps))) (aL ps k):=by
 refine Con.enterN (fn:=zYt) (fun _=>rfl) [] [] ?hbody (fun _=>.nil) (fun P s a1 X=>BindsTo.of_eq rfl)
 intro c Q ret fin
 conv=>arg 5;arg 1;whnf
 have ht:=zG3 hs
 rw [←zT4] at ret
 exact J.ret (Ev.and (Ev.cmp (Ev.attrA (.loc rfl) rfl rfl) .int .eqI) fun _=>Ev.one (Ev.or (Ev.not (.loc rfl) (TruS.acc rfl rfl (yB3 hs hk) (by lia))) fun _=>
  Ev.one (Ev.meth (Ev.call (.built zJ5 zIn (by decide)) (.cons (.loc rfl) .nil) (CallS.strA rfl rfl (yB4 hs)) .t) (MethS.str PySem.F.slot_str_isspace PySem.F.type_str_isspace) .nil .isspace .b))) fun z s x O r=>ret _ _ _ _ O r
section
variable {E:Env}{fn:Fn}{d n₀:Nat}{c:Cx fn d n₀}{ns:List (zA0×SV)}{nx nx' nx₁ nx₂:List SO}{z:Wd}{s:Shared}{e o i value:Expr}{pos tpos px:Pos}{v v₁ v₂:SV}{x:zA0}{k dk:Nat}
theorem TruS.lst{l:List PyData}(hk:nth nx k = .lst l)(hl:l.length≤100000):TruS c ns nx (.r k) (l.length != 0):=fun z s a O hr Q q=>by
 obtain ⟨a,ha,rfl⟩:=hr
 refine O.obj ha fun m ob news g F N U ro _ _ G=>?_
 rw [hk] at ro
 obtain ⟨vs,n,rfl,rv⟩:=ro
 have hln:=rv.len
 refine wpAny_truthy_list ⟨_,(N _ (zA2 U)).1,rfl,n,rfl⟩ (by rw [size_toArray,hln];omega) ?_
 have e:(!vs.toArray.isEmpty)=(l.length != 0):=by
  rw [←hln]
  induction vs<;>rfl
 rw [e]
 exact q z _ (.refl _) (O.toks _)
theorem Ex.augLast{L:List PyData}{y t:zA0}(ho:Ev c c.env ns nx o (.r k) nx)(hi:Ev c c.env ns nx i (.d (.int (-1))) nx)(hk:nth nx k = .lst (L++[.str y]))(hv:Ev c c.env ns nx value (.d (.str t)) nx)(hs:y.length+t.length≤sizeLine)(ha:∀ov iv new,augStore i ov iv new=(do holding [new,ov,iv] (setItem ov iv new);release [new,ov,iv] [];pure .next):=by intros;rfl):Ex c ns nx (.AugAssign (.Subscript o i tpos) .Add value pos) ns (upd nx k (.lst (L++[.str (y++t)]))):=fun z s O Q q=>by
 refine wpAny_AugAssign_SubscriptAny (ho z s O _ fun z₁ s₁ a₁ l₁ O₁ r₁=>hi z₁ s₁ O₁ _ fun z₂ s₂ a₂ l₂ O₂ r₂=>?_) ha
 obtain ⟨a,ha,rfl⟩:=r₁.mono l₂
 obtain ⟨t₂,rfl⟩:=DRep.int_ r₂
 refine O₂.obj ha fun m ob news g F N U ro _ _ G=>?_
 rw [hk] at ro
 obtain ⟨vs,n,rfl,rv⟩:=ro
 obtain ⟨us,u,rfl,ru,rx⟩:=zF4 rv
 refine zPf N (zA2 U) (hv z₂ s₂ O₂ _ fun z₃ s₃ a₃ l₃ O₃ r₃=>?_)
 obtain ⟨ty,rfl⟩:=DRep.str_ rx
 obtain ⟨tt,rfl⟩:=DRep.str_ r₃
 refine PyProof.Rows.iadd_str (fun t' tk=>?_) hs
 have O₄:=O₃.toks tk
 obtain ⟨a',ha',e⟩:=SRep.mono l₃ (sv:=.r k) ⟨a,ha,rfl⟩
 cases e
 refine O₄.obj ha' fun m ob news g F N U ro _ _ G=>?_
 rw [hk] at ro
 obtain ⟨vs,n',rfl,rv⟩:=ro
 obtain ⟨us,u,rfl,ru,rx⟩:=zF4 rv
 exact zPg F N U fun h' F' N'=>q z₃ _ (G _ _ h' tk ⟨_,_,rfl,ru.append (.cons .str .nil)⟩ F' N')
theorem Ev.m1{k:Nat}:Ev c E ns nx (.UnaryOp .USub (.Constant (.int 1) k px) pos) (.d (.int (-1))) nx:=fun z s O Q q=>wpAny_UnaryOp (wpAny_Constant_int (neg_int (q z _ _ (.refl _) (On.toks (On.toks O _) _) .int)))
end
theorem f178_lines(P:Params):findIn (kW P) (.ref 178) (.ofString "_lines")=some none:=by kernel_rfl
theorem f178_cur(P:Params):findIn (kW P) (.ref 178) (.ofString "_current_line")=some none:=by kernel_rfl
theorem f178_max(P:Params):findIn (kW P) (.ref 178) (.ofString "_maxlen")=some none:=by kernel_rfl
theorem f178_spl(P:Params):findIn (kW P) (.ref 178) (.ofString "_splitchars")=some none:=by kernel_rfl
theorem d178(P:Params):hasDictIn (kW P) 178=true:=by kernel_rfl
theorem ga178(P:Params):findIn (kW P) (.ref 178) "__getattribute__" = some (some (.builtin "object.__getattribute__")):=by kernel_rfl
theorem zPo(P:Params):findIn (kW P) (.ref 178) (.ofString "newline")=some (some (.ref 140)):=by kernel_rfl
theorem zHz(P:Params):findIn (kW P) (.ref 178) (.ofString "_str")=some (some (.ref 126)):=by kernel_rfl
theorem zKg(P:Params):findIn (kW P) (.ref 178) (.ofString "add_transition")=some (some (.ref 147)):=by kernel_rfl
theorem zWb(P:Params):findIn (kW P) (.ref 178) (.ofString "_append_chunk")=some (some (.ref 175)):=by kernel_rfl
theorem zYp(P:Params):isFn (kW P) (.ref 140)=true:=by kernel_rfl
theorem zVq(P:Params):isFn (kW P) (.ref 126)=true:=by kernel_rfl
theorem zVr(P:Params):isFn (kW P) (.ref 147)=true:=by kernel_rfl
theorem yBp(P:Params):isFn (kW P) (.ref 175)=true:=by kernel_rfl
theorem zI5(P:Params)(n:zA0):plainGet (kW P) 178 n=true:=by kernel_rfl
theorem yDf(P:Params):keepIn (kW P) (.ref 140)=true:=by kernel_rfl
theorem yCm(P:Params):keepIn (kW P) (.ref 126)=true:=by kernel_rfl
theorem yCn(P:Params):keepIn (kW P) (.ref 147)=true:=by kernel_rfl
theorem yDx(P:Params):keepIn (kW P) (.ref 175)=true:=by kernel_rfl
noncomputable abbrev fmA(sg:zA0):List (zA0×SV):=[(.ofString "_maxlen",.d (.int 0)),(.ofString "_continuation_ws",.d (.str (.ofString " "))),(.ofString "_continuation_ws_len",.d (.int ((Str.ofString " ").length:Int))),(.ofString "_splitchars",.d (.str sg)),(.ofString "_lines",.r 2),(.ofString "_current_line",.r 3)]
noncomputable abbrev fmD(sg:zA0)(ls:List zA0)(l:List PyData)(k:Nat):List SO:=[.inst 178 1,.attrs (fmA sg),.lst (ls.map .str),.accO 4 l,szA k,zG1 224 zDf,zG1 231 zDh]
noncomputable abbrev fm(sg:zA0)(ls:List zA0)(ps:List (zA0×zA0))(k:Nat):List SO:=fmD sg ls (pcs ps) k
theorem zF3(qs:List (zA0×zA0))(p:zA0×zA0):pcs (qs++[p])=pcs qs++[.tuple [.str p.1,.str p.2]]:=map_append
section
variable {E:Env}{fn:Fn}{d n₀:Nat}{c:Cx fn (d+8) n₀}{ns:List (zA0×SV)}{sg:zA0}{ls:List zA0}{qs:List (zA0×zA0)}{p:zA0×zA0}{k:Nat}{o:Expr}{pos:Pos}
theorem zTu(h:qs.length≤49000):CallS c ns (fm sg ls (qs++[p]) k) (.ref 222) [.r 3] [] (.d (.tuple [.str p.1,.str p.2])) (fm sg ls qs k):=by
 show CallS c ns (fmD sg ls (pcs (qs++[p])) k) _ _ _ _ _
 rw [zF3]
 exact CallS.con [3,4] (zU6 (k:=k) (by rw [length_map];exact h)) (zAg (by lia)) rfl rfl rfl rfl
theorem zXs:CallS c ns (fm sg ls [] k) (.ref 222) [.r 3] [] (.d (.tuple [.str (.ofString ""),.str (.ofString "")])) (fm sg ls [] k):=
 CallS.con [3,4] (zYd (k:=k)) (zAg (by lia)) rfl rfl rfl rfl
theorem zNp{x y:zA0}(h:qs.length≤49000):CallS c ns (fm sg ls qs k) (.ref 206) [.r 3,.d (.str x),.d (.str y)] [] (.d .none) (fm sg ls (qs++[(x,y)]) k):=by
 show CallS c ns _ _ _ _ _ (fmD sg ls (pcs (qs++[(x,y)])) k)
 rw [zF3]
 exact CallS.con [3,4] (zK5 (i:=k) (by rw [length_map];exact h)).con (zAg (by lia)) rfl rfl rfl rfl
theorem zRl(h:qs.length≤49000):CallS c ns (fm sg ls qs k) (.ref 244) [.r 3] [] (.d .none) (fm sg ls [] 0):=
 CallS.con [3,4] (zS3 (k:=k) (l:=pcs qs) (by rw [length_map];(exact le_trans (by assumption) (le_of_ble_eq_true rfl)))) (zAg (by omega)) rfl rfl rfl rfl
theorem zXq(hs:zBq qs)(hk:k≤1000000):CallS c ns (fm sg ls qs k) (.builtin "len") [.r 3] [] (.d (.int ((k+tlen qs:Nat):Int))) (fm sg ls qs k):=by
 have:=zG3 hs
 exact CallS.lenA rfl rfl (CallS.con [3,4,5] (zYa (k:=k) hs (natCast_nonneg k) (by (exact ofNat_le.mpr (by assumption)))) (zAg (by lia)) rfl rfl rfl rfl) (by lia)
theorem zUw(hs:zBq qs):CallS c ns (fm sg ls qs k) (.type "str") [.r 3] [] (.d (.str (zBe qs))) (fm sg ls qs k):=
 CallS.strA rfl rfl (CallS.con [3,4,6] (zYf (k:=k) hs) (zAg (by lia)) rfl rfl rfl rfl)
theorem zXr(hs:zBq qs)(hk:k≤1000000):CallS c ns (fm sg ls qs k) (.ref 251) [.r 3] [] (.d (.bool (zGd k qs))) (fm sg ls qs k):=
 CallS.con [3,4,5,6] (zYb (k:=k) hs hk) (zAg (by lia)) rfl rfl rfl rfl
variable {l:List PyData}
theorem zC6(ho:Ev c c.env ns (fmD sg ls l k) o (.r 0) (fmD sg ls l k))(hev:autoParam (eval (.Attribute o (.ofString "_current_line") pos) c.env=(do
     let x ←eval o c.env
     standAt pos.atName
     let r ←holding [x] (getAttr x (.ofString "_current_line") true)
     letTemporaryGo o x r
     pure r)) T0R):Ev c c.env ns (fmD sg ls l k) (.Attribute o (.ofString "_current_line") pos) (.r 3) (fmD sg ls l k):=
 Ev.attr ho rfl rfl rfl rfl f178_cur d178 ga178 hev
theorem zF7(ho:Ev c c.env ns (fmD sg ls l k) o (.r 0) (fmD sg ls l k))(hev:autoParam (eval (.Attribute o (.ofString "_lines") pos) c.env=(do
     let x ←eval o c.env
     standAt pos.atName
     let r ←holding [x] (getAttr x (.ofString "_lines") true)
     letTemporaryGo o x r
     pure r)) T0R):Ev c c.env ns (fmD sg ls l k) (.Attribute o (.ofString "_lines") pos) (.r 2) (fmD sg ls l k):=
 Ev.attr ho rfl rfl rfl rfl f178_lines d178 ga178 hev
end
noncomputable def yDc:Fn:=⟨.ofString "_ValueFormatter.newline",zAl (zBw 16 3),140,.ref 139,fun _=>[],rfl⟩
noncomputable def yBu:Fn:=⟨.ofString "_ValueFormatter._str",zAl (zBw 16 1),126,.ref 125,fun _=>[],rfl⟩
noncomputable def yDs:Fn:=⟨.ofString "_ValueFormatter.add_transition",zAl (zBw 16 4),147,.ref 146,fun _=>[],rfl⟩
noncomputable def nlL(ls:List zA0)(rs:List (zA0×zA0))(k:Nat):List zA0:=if k+tlen rs=0 then ls else if zGd k rs=true then (match ls.getLast? with|some y=>ls.dropLast++[y++zBe rs]|none=>ls++[zBe rs]) else ls++[zBe rs]
theorem zPw{c:Cx yDc 8 7}{Q:Flow→Shared→Prop}{ns:List (zA0×SV)}{sg:zA0}{ls:List zA0}{rs:List (zA0×zA0)}{k:Nat}(hself:ns.lookup (.ofString "self")=some (.r 0))(hs:zBq rs)(hk:k≤1000000)(hl:ls.length≤1000)(hy:∀y∈ls,y.length≤100000)(fin:J c Q ns (fm sg (nlL ls rs k) [] 0) []):J c Q ns (fm sg ls rs k) [(zAf (zBw 16 3)).drop 2]:=by
 have ht:=zG3 hs
 have hll:(ls.map PyData.str).length=ls.length:=length_map ..
 have htc:=zXa hs
 conv=>arg 5;arg 1;whnf
 have hz:∀ls',ls'=nlL ls rs k→J c Q ns (fm sg ls' rs k) [(zAf (zBw 16 3)).drop 3]:=fun ls' e=>by
  subst e
  conv=>arg 5;arg 1;whnf
  exact J.seq (Ex.expr (Ev.meth (zC6 (.loc hself)) (MethS.reset rfl rfl) .nil (zRl (le_trans hs.1 (by decide))) (.k yDg))) (J.pop fin)
 refine J.ite (EvB.cmp (Ev.call (.built zD9 zD8 (by decide)) (.cons (zC6 (.loc hself)) .nil) (zXq hs hk) .b) .int .gtI) (fun hb=>?_) fun hb=>?_
 ·have hn:k+tlen rs≠0:=by have:=of_decide_eq_true hb;lia
  refine J.ite (EvB.and (EvB.plain (Ev.meth (zC6 (.loc hself)) (MethS.only rfl rfl) .nil (zXr hs hk) (.k yDz)) .bool) fun _=>EvB.and (EvB.plain (zF7 (.loc hself)) (TruS.lst rfl (by rw [hll];(exact le_trans (by assumption) (le_of_ble_eq_true rfl))))) fun _=>.andN) (fun hb=>?_) fun hb=>?_
  ·simp only [Bool.and_true,and_eq_true,bne_iff_ne] at hb
   obtain ⟨ho,hne⟩:=hb
   obtain ⟨L,y,rfl⟩:∃L y,ls=L++[y]:=⟨ls.dropLast,ls.getLast (fun e=>hne (by rw [e];rfl)),(List.dropLast_concat_getLast _).symm⟩
   refine J.seq (Ex.augLast (y:=y) (L:=L.map .str) (zF7 (.loc hself)) .m1 (by show SO.lst _=_;rw [map_append];rfl) (Ev.call (.built zJ5 zIn (by decide)) (.cons (zC6 (.loc hself)) .nil) (zUw hs) .t) (by have:=hy y (by simp);rw [sizeLine_eq];lia)) (J.pop (J.pop ?_))
   have e:(L++[y++zBe rs])=nlL (L++[y]) rs k:=by unfold nlL;rw [if_neg hn,if_pos ho];simp
   have:=hz _ e
   rw [fm,fmD,map_append] at this
   exact this
  ·refine J.seq (Ex.expr (Ev.meth (zF7 (.loc hself)) (.append rfl) (.cons (Ev.call (.built zJ5 zIn (by decide)) (.cons (zC6 (.loc hself)) .nil) (zUw hs) .t) .nil) (CallS.append rfl (by rw [hll];(exact le_trans (by assumption) (le_of_ble_eq_true rfl)))) .b)) (J.pop (J.pop ?_))
   have e:ls++[zBe rs]=nlL ls rs k:=by
    unfold nlL
    rw [if_neg hn]
    split
    ·rename_i ho
     have hle:ls=[]:=by
      simp only [ho,Bool.true_and,Bool.and_true,bne_eq_false_iff_eq] at hb
      rw [hll] at hb
      exact List.length_eq_zero_iff.mp hb
     rw [hle];rfl
    ·rfl
   have:=hz _ e
   rw [fm,fmD,map_append] at this
   exact this
 ·have hn:k+tlen rs=0:=by have:=of_decide_eq_false hb;lia
  exact J.pop (hz _ (by unfold nlL;rw [if_pos hn]))
section
variable {sg:zA0}{ls:List zA0}{rs:List (zA0×zA0)}{k:Nat}
theorem zPv{ps₀:List (zA0×zA0)}{p:zA0×zA0}(hs:zBq rs)(hk:k≤1000000)(hl:ls.length≤1000)(hy:∀y∈ls,y.length≤100000)(hp:SeqAt.shaped (.tuple [.str p.1,.str p.2])=true)(qs:List (zA0×zA0))(pop:∀{fn:Fn} {n₀:Nat} (c:Cx fn 8 n₀) ns,CallS c ns (fm sg ls ps₀ k) (.ref 222) [.r 3] [] (.d (.tuple [.str p.1,.str p.2])) (fm sg ls qs k))(hq:(PyData.eqv (.tuple [.str p.1,.str p.2]) (.tuple [.str (.ofString " "),.str (.ofString "")])=true∧rs=qs)∨(PyData.eqv (.tuple [.str p.1,.str p.2]) (.tuple [.str (.ofString " "),.str (.ofString "")])=false∧qs.length≤49000∧rs=qs++[p])):
  Con 8 140 [.r 0] [] (fm sg ls ps₀ k) (.d .none) (fm sg (nlL ls rs k) [] 0):=by
 refine Con.enterN (fn:=yDc) (fun _=>rfl) [] [] ?hbody (fun _=>.nil) (fun P s a1 X=>BindsTo.of_eq rfl)
 intro c Q ret fin
 conv=>arg 5;arg 1;whnf
 refine J.seq (Ex.assign (Ev.meth (zC6 (.loc rfl)) (MethS.popA rfl rfl) .nil (pop c _) (.k yCp))) ?_
 refine J.ite (EvB.cmp (.loc rfl) (.tuple (xs:=[_,_]) (.cons .str (.cons .str .nil))) (.neD rfl rfl hp (by kernel_rfl))) (fun hb=>?_) fun hb=>?_
 ·rcases hq with ⟨e,_⟩|⟨_,hz,rfl⟩
  ·rw [e] at hb;cases hb
  ·refine J.seq (Ex.expr (Ev.starPush [3,4] (zC6 (.loc rfl)) rfl rfl (.loc rfl) rfl (zK5 (l:=pcs qs) (i:=k) (by rw [length_map];exact hz)) rfl rfl rfl rfl rfl)) (J.pop ?_)
   have:=zPw (c:=c) (Q:=Q) (ns:=(.ofString "end_of_line",.d (.tuple [.str p.1,.str p.2]))::[(.ofString "self",.r 0)]) (sg:=sg) rfl hs hk hl hy (fin rfl _)
   rw [fm,zF3] at this
   exact this
 ·rcases hq with ⟨_,rfl⟩|⟨e,_⟩
  ·exact J.pop (zPw (c:=c) (Q:=Q) rfl hs hk hl hy (fin rfl _))
  ·rw [e] at hb;cases hb
theorem yAm(hk:k≤1000000)(hl:ls.length≤1000)(hy:∀y∈ls,y.length≤100000):Con 8 140 [.r 0] [] (fm sg ls [] k) (.d .none) (fm sg (nlL ls [(.ofString "",.ofString "")] k) [] 0):=
 zPv (p:=(.ofString "",.ofString "")) ⟨by decide,by decide⟩ hk hl hy (by kernel_rfl) [] (fun c ns=>zXs (d:=0)) (.inr ⟨by decide,by decide,rfl⟩)
theorem yAn(hs:zBq rs)(hk:k≤1000000)(hl:ls.length≤1000)(hy:∀y∈ls,y.length≤100000):Con 8 140 [.r 0] [] (fm sg ls (rs++[(.ofString " ",.ofString "")]) k) (.d .none) (fm sg (nlL ls rs k) [] 0):=
 zPv (p:=(.ofString " ",.ofString "")) hs hk hl hy (by kernel_rfl) rs (fun c ns=>zTu (d:=0) (le_trans hs.1 (by decide))) (.inl ⟨by decide,rfl⟩)
theorem zX0{ls':List zA0}{ps₀:List (zA0×zA0)}{sep:zA0}(C:Con 8 140 [.r 0] [] (fm sg ls ps₀ k) (.d .none) (fm sg ls' [] 0))(hj:JoinOk sep ls'=true):Con 9 126 [.r 0,.d (.str sep)] [] (fm sg ls ps₀ k) (.d (.str (Txt.join sep ls'))) (fm sg ls' [] 0):=by
 refine Con.enterN (fn:=yBu) (fun _=>rfl) [] [] ?hbody (fun _=>.nil) (fun P s a1 a2 X=>BindsTo.of_eq rfl)
 intro c Q ret fin
 conv=>arg 5;arg 1;whnf
 refine J.seq (Ex.expr (Ev.meth (.loc rfl) (MethS.inst rfl rfl zPo zYp (fun P=>zI5 P _) rfl) .nil (CallS.con [0,1,2,3,4,5,6] C rfl rfl rfl rfl rfl) (.k yDf))) ?_
 exact J.ret (Ev.meth (.loc rfl) (MethS.str PySem.F.slot_str_join PySem.F.type_str_join) (.cons (zF7 (d:=1) (.loc rfl)) .nil) (CallS.join rfl hj) .b) fun z s x O r=>ret _ _ _ _ O r
theorem yE7(h:rs.length≤49000):Con 8 147 [.r 0] [] (fm sg ls rs k) (.d .none) (fm sg ls (rs++[(.ofString " ",.ofString "")]) k):=by
 refine Con.enterN (fn:=yDs) (fun _=>rfl) [] [] ?hbody (fun _=>.nil) (fun P s a1 X=>BindsTo.of_eq rfl)
 intro c Q ret fin
 conv=>arg 5;arg 1;whnf
 exact J.seq (Ex.expr (Ev.meth (zC6 (d:=0) (.loc rfl)) (MethS.push rfl rfl) (.cons .str (.cons .str .nil)) (zNp h) (.k yAf))) (J.pop (fin rfl _))
end
section
variable {fn:Fn}{d n₀:Nat}{c c':Cx fn d n₀}{ps ps':List (zA0×SV)}{nx nx' nx₁ nx₂:List SO}{z:Wd}{s:Shared}{e l r:Expr}{pos px:Pos}{v v₁ v₂:SV}{x:zA0}{Q Q₁:Flow→Shared→Prop}{bs after:List (List Stmt)}{rest body orelse:List Stmt}{k:Nat}
theorem J.breakF{next:Shared→Prop}(q:LQ Q Q₁ next (wpB c Q after))(h:Sub c' c)(k:J c Q ps nx after):J c' Q₁ ps nx ((.Break pos::rest)::bs):=J.brk fun z s O=>q.br s (k z s (h.on _ _ _ _ O))
theorem J.forStr{X:Type}{y:zA0}(hy:y.cps.all (· < 128)=true)(J₀:Nat→X→Prop)(S:Nat→X→List (zA0×SV))(T:Nat→X→List SO)(x₀:X)(hx₀:J₀ 0 x₀)(h:Ev c c.env ps nx e (.d (.str y)) nx')(hl:Less n₀ ps nx' (S 0 x₀) (T 0 x₀))(turn:∀i w,i<y.cps.size→J₀ i w→∀(c':Cx fn d n₀) Q₁,Sub c' c→LQ Q Q₁ (Nxt c' (J₀ (i+1)) (S (i+1)) (T (i+1))) (wpB c Q (rest::bs))→J c' Q₁ ((x,.d (.str ⟨#[y.cps.getD i 0]⟩))::S i w) (T i w) [body])(done:∀w,J₀ y.cps.size w→J c Q (S y.cps.size w) (T y.cps.size w) (orelse::rest::bs))(hx:autoParam (fn.scope.names.lookup x=some .local) T0R)(hs:autoParam (∀x,foldedSetIterable e c.env x=pure x) T0I):J c Q ps nx ((.For (.Name x px) e body orelse pos::rest)::bs):=fun z s O=>by
 refine wpAny_execs_cons (wpAny_For (h z s O _ fun z₁ s₁ v l₁ O₁ r₁=>?_) hs)
 obtain ⟨t,rfl⟩:=DRep.str_ r₁
 refine wpAny_pyIter_ascii hy ?_
 have O₂:=On.hide O₁ (o:={cls:=.type "str_ascii_iterator",data:=.fields #[.str y t,.int 0 0]}) rfl s₁.toks
 obtain ⟨z₃,O₃⟩:=On.less O₂ hl
 obtain ⟨fR,fZ⟩:=O₁.freshR
 refine zFk (Walks.strAscii rfl _ y t) (fun i h hi=>let ⟨o,ho,_⟩:=hi;⟨o,ho⟩) (fun b hb=>.inl (mem_singleton.mp hb)) fR fZ (fun i=>.d (.str ⟨#[y.cps.getD i 0]⟩)) ?_ J₀ S T x₀ hx₀ O₃ ⟨_,Heap.get?_push_size _ rfl,rfl,rfl⟩ turn done (fun s h=>h) (fun f s hf h=>by induction f<;>first|exact h|exact absurd rfl hf) hx
 rintro i v z _ hi ⟨c,u,hc,rfl⟩
 have:y.cps.getD i 0=c:=by rw [Array.getD_eq_getD_getElem?,hc];rfl
 rw [this]
 exact .str
theorem J.forList{X:Type}{y:List PyData}(J₀:Nat→X→Prop)(S:Nat→X→List (zA0×SV))(T:Nat→X→List SO)(x₀:X)(hx₀:J₀ 0 x₀)(h:Ev c c.env ps nx e (.d (.list y)) nx')(hl:Less n₀ ps nx' (S 0 x₀) (T 0 x₀))(turn:∀i w,i<y.length→J₀ i w→∀(c':Cx fn d n₀) Q₁,Sub c' c→LQ Q Q₁ (Nxt c' (J₀ (i+1)) (S (i+1)) (T (i+1))) (wpB c Q (rest::bs))→J c' Q₁ ((x,.d (y.getD i .none))::S i w) (T i w) [body])(done:∀w,J₀ y.length w→J c Q (S y.length w) (T y.length w) (orelse::rest::bs))(hx:autoParam (fn.scope.names.lookup x=some .local) T0R)(hs:autoParam (∀x,foldedSetIterable e c.env x=pure x) T0I):J c Q ps nx ((.For (.Name x px) e body orelse pos::rest)::bs):=fun z s O=>by
 refine wpAny_execs_cons (wpAny_For (h z s O _ fun z₁ s₁ v l₁ O₁ r₁=>?_) hs)
 obtain ⟨a,vs,n,rfl,hz,rv⟩:=DRep.list_ r₁
 refine O₁.growZ fun m news F N hZ _=>?_
 have hls:s₁.heap.IsList a vs.toArray:=⟨_,(N _ (hZ _ hz)).1,rfl,n,rfl⟩
 have hne:a≠s₁.heap.objs.size:=ne_of_lt (Heap.lt_size (N _ (hZ _ hz)).1)
 refine wpAny_pyIter_list hls ?_
 have O₂:=On.hide O₁ (o:={cls:=.type "list_iterator",data:=.fields #[.ref a,.int 0 0]}) rfl s₁.toks
 obtain ⟨z₃,O₃⟩:=On.less O₂ hl
 obtain ⟨fR,fZ⟩:=O₁.freshR
 have W:=Walks.list (prog:=pw) (w:=c.w) (A:=c.A) rfl s₁.heap.objs.size a hne vs.toArray
 rw [show vs.toArray.size=y.length from rv.len] at W
 refine zFk W (fun i h hi=>let ⟨⟨o,ho,_⟩,_⟩:=hi;⟨o,ho⟩) (fun b hb=>?_) fR fZ (fun i=>.d (y.getD i .none)) ?_ J₀ S T x₀ hx₀ O₃ ⟨⟨_,Heap.get?_push_size _ rfl,rfl,rfl⟩,hls.at fun o e=>Heap.get?_push_of_some _ e⟩ turn done (fun s h=>h) (fun f s hf h=>by induction f<;>first|exact h|exact absurd rfl hf) hx
 ·rcases mem_cons.mp hb with rfl|hb
  ·exact .inl rfl
  ·rw [mem_singleton.mp hb];exact .inr ⟨_,hz⟩
 ·rintro i v z hZ' hi hv
  have hyi:y[i]? = some (y.getD i .none):=by rw [getD_eq_getElem?_getD,getElem?_eq_getElem hi];rfl
  obtain ⟨v',e,r'⟩:=rv.at hyi
  have:v'=v:=by
   have e2:vs[i]? = some v:=by simpa using hv
   rw [e] at e2
   exact Option.some.inj e2
  subst this
  exact r'.mono fun q hq=>hZ' q hq
end
section
variable {fn:Fn}{d n₀:Nat}{c:Cx fn d n₀}{ns:List (zA0×SV)}{nx nx' nx₁ nx₂:List SO}{z:Wd}{s:Shared}{e o i value slice:Expr}{pos tpos px:Pos}{v v₁ v₂:SV}{x:zA0}{k dk:Nat}
theorem TruS.text{y:zA0}(hl:y.length≤100000):TruS c ns nx (.d (.str y)) (y.length != 0):=fun z s a O hr Q q=>by
 obtain ⟨t,rfl⟩:=DRep.str_ hr
 refine PySem.P.truthy_str (by lia) ?_
 have e:((y.length:Int) != 0)=(y.length != 0):=by cases y.length<;>rfl
 rw [e]
 exact q z _ (.refl _) (O.toks _)
theorem SubS.tup{l:List PyData}{y:PyData}{j:Nat}(hj:l[j]? = some y)(hl:l.length≤1000)(hs:autoParam (∀a u,subscripted slice false (.ref a) (.int j u)=operate [.ref a,.int j u] (getItem (.ref a) (.int j u))) zKr):SubS c ns nx value slice (.d (.tuple l)) (.d (.int j)) (.d y):=fun z s a₁ a₂ O h1 h2 Q q=>by
 obtain ⟨a,vs,rfl,hz,rv⟩:=DRep.tuple_ h1
 obtain ⟨t,rfl⟩:=DRep.int_ h2
 refine O.same fun m news F N hZ _=>?_
 obtain ⟨v,hv,rv'⟩:=rv.at hj
 have hjl:=(List.getElem?_eq_some_iff.mp hv).1
 have hln:=rv.len
 refine zAv (x:=.ofString "x") (px:=default) ?_
 refine kim_tup N (hZ _ hz) rfl rfl (by (exact natCast_nonneg _)) (by omega) (j:=j) ?_ hv (q _ _ O rv') (hs _ _) (fun _=>rfl)
 unfold seqIndex?
 have e1:¬((j:Int)<0):=by lia
 simp [e1,hjl]
theorem SubS.text{y:zA0}{j:Int}(h0:fitsSsize j=true)(h1:-(y.length:Int)≤j)(h2:j<(y.length:Int))(hs:autoParam (∀t u,subscripted slice false (.str y t) (.int j u)=operate [.str y t,.int j u] (getItem (.str y t) (.int j u))) zKr):SubS c ns nx value slice (.d (.str y)) (.d (.int j)) (.d (.str (Txt.item y j))):=fun z s a₁ a₂ O r1 r2 Q q=>by
 obtain ⟨t,rfl⟩:=DRep.str_ r1
 obtain ⟨u,rfl⟩:=DRep.int_ r2
 refine zAv (x:=.ofString "x") (px:=default) ?_
 exact item_str h0 h1 h2 (fun _=>q _ _ (O.toks _) .str) (hs _ _) (fun _=>rfl)
theorem CallS.range3{a b st:Int}(h:st≠0)(hp:Builtin.divisionGoesByPylong (b-a) st=false):CallS c ns nx (.type "range") [.d (.int a),.d (.int b),.d (.int st)] [] (.r nx.length) (nx++[zEs a b st]):=fun z s xs O hx Q q=>by
 obtain ⟨_,_,_,rfl,r1,r2,r3⟩:=hx.c3
 obtain ⟨t,rfl⟩:=DRep.int_ r1
 obtain ⟨u,rfl⟩:=DRep.int_ r2
 obtain ⟨v,rfl⟩:=DRep.int_ r3
 refine O.grow fun m news F N _ g=>?_
 refine g (zEs a b st) _ _ s.toks (fun z' _=>⟨t,u,v,rfl⟩) (F.push _) (N.push F _) fun z' le O' r=>?_
 exact call_range_3 h (q z' _ _ le O' r) (.inl hp)
theorem CallS.range1{b:Int}:CallS c ns nx (.type "range") [.d (.int b)] [] (.r nx.length) (nx++[zEs 0 b 1]):=fun z s xs O hx Q q=>by
 obtain ⟨_,rfl,r1⟩:=hx.c1
 obtain ⟨t,rfl⟩:=DRep.int_ r1
 refine O.grow fun m news F N _ g=>?_
 refine call_range_1 ?_
 exact g (zEs 0 b 1) _ _ _ (fun z' _=>⟨_,_,_,rfl⟩) (F.push _) (N.push F _) fun z' le O' r=>q z' _ _ le O' r
theorem BinS.pred{j:Nat}(h:1≤j):BinS c ns nx .Sub (.d (.int (j:Nat))) (.d (.int 1)) (.d (.int (j-1:Nat))) nx:=by
 have e:((j-1:Nat):Int)=(j:Int)-1:=by lia
 rw [e]
 exact .subI
end
theorem zAq:bootBuiltins (.ofString "range")=some (.type "range"):=by kernel_rfl
noncomputable def yDb:Fn:=⟨.ofString "_ValueFormatter._append_chunk",zAl (zBw 16 8),175,.ref 174,fun _=>[],rfl⟩
noncomputable def zK3(ch:zA0)(ps:List (zA0×zA0))(i:Nat):Bool:=
 (Txt.isspace ch&&(((ps.getD i default).1.length != 0)&&(Txt.item (ps.getD i default).1 0==ch))) || (((ps.getD (i-1) default).2.length != 0)&&(Txt.item (ps.getD (i-1) default).2 (-1)==ch))
noncomputable abbrev zL0(sg:zA0)(j:Nat):zA0:=⟨#[sg.cps.getD j 0]⟩
section
variable {fn:Fn}{d n₀:Nat}{c:Cx fn (d+8) n₀}{ns:List (zA0×SV)}{sg:zA0}{ls:List zA0}{qs:List (zA0×zA0)}{p:zA0×zA0}{k:Nat}{o:Expr}{pos:Pos}
theorem yDj(h:qs.length≤49000):CallS c ns (fm sg ls qs k) (.ref 259) [.r 3] [] (.d (.int (qs.length:Int))) (fm sg ls qs k):=by
 have:=CallS.con (c:=c) (ps:=ns) (nx:=fm sg ls qs k) [3,4] (zYc (k:=k) (l:=pcs qs) (by rw [length_map];(exact le_trans (by assumption) (le_of_ble_eq_true rfl)))) (zAg (by lia)) rfl rfl rfl rfl
 rw [length_map] at this
 exact this
theorem zTt{value slice:Expr}{j:Nat}(hj:j<qs.length)(hl:qs.length≤1000)(hs:autoParam (∀a u,subscripted slice false (.ref a) (.int j u)=operate [.ref a,.int j u] (getItem (.ref a) (.int j u))) zKr):
  SubS c ns (fm sg ls qs k) value slice (.r 3) (.d (.int j)) (.d (.tuple [.str (qs.getD j default).1,.str (qs.getD j default).2])):=by
 refine SubS.accI rfl rfl (by rw [length_map];(exact le_trans (by assumption) (le_of_ble_eq_true rfl))) ?_ hs
 rw [getElem?_map,getElem?_eq_getElem hj,getD_eq_getElem?_getD,getElem?_eq_getElem hj]
 rfl
theorem yB5{l:List PyData}(ho:Ev c c.env ns (fmD sg ls l k) o (.r 0) (fmD sg ls l k))(hev:autoParam (eval (.Attribute o (.ofString "_maxlen") pos) c.env=(do
     let x ←eval o c.env
     standAt pos.atName
     let r ←holding [x] (getAttr x (.ofString "_maxlen") true)
     letTemporaryGo o x r
     pure r)) T0R):Ev c c.env ns (fmD sg ls l k) (.Attribute o (.ofString "_maxlen") pos) (.d (.int 0)) (fmD sg ls l k):=
 Ev.attr ho rfl rfl rfl rfl f178_max d178 ga178 hev
theorem yB6{l:List PyData}(ho:Ev c c.env ns (fmD sg ls l k) o (.r 0) (fmD sg ls l k))(hev:autoParam (eval (.Attribute o (.ofString "_splitchars") pos) c.env=(do
     let x ←eval o c.env
     standAt pos.atName
     let r ←holding [x] (getAttr x (.ofString "_splitchars") true)
     letTemporaryGo o x r
     pure r)) T0R):Ev c c.env ns (fmD sg ls l k) (.Attribute o (.ofString "_splitchars") pos) (.d (.str sg)) (fmD sg ls l k):=
 Ev.attr ho rfl rfl rfl rfl f178_spl d178 ga178 hev
end
section
variable {E:Env}{fn:Fn}{d n₀:Nat}{c:Cx fn d n₀}{ps:List (zA0×SV)}{nx nx' nx₁ nx₂:List SO}{z:Wd}{s:Shared}{e l r value:Expr}{pos px sp:Pos}{v v₁ v₂:SV}{x:zA0}{k:Nat}{lo hi:Option Expr}{a b:Option Int}
theorem Ev.sliceL{l:List PyData}(hv:Ev c E ps nx value v nx₁)(hL:LstS nx₁ v l)(hl:EvO c E ps nx₁ lo a)(hh:EvO c E ps nx₁ hi b)(hz:l.length≤100000)(hs:autoParam (∀A B,subscripted (.Slice lo hi none sp) false (.ref A) (.ref B)=operate [.ref B,.ref A] (getItem (.ref A) (.ref B))) zKr):Ev c E ps nx (.Subscript value (.Slice lo hi none sp) pos) (.d (.list (zDq l a b))) nx₁:=fun z s O Q q=>
 Subscript_ (hv z s O _ fun z₁ s₁ va l₁ O₁ r₁=>zI9 hl hh O₁ fun z₂ s₂ vl vu l₂ O₂ p₁ p₂=>by
  refine O₂.growZD fun m news F N hZ ho g=>?_
  obtain ⟨A,vs,n,rfl,hm,hr⟩:=hL.at (c:=c) (r₁.mono l₂) hZ ho
  refine zAv (x:=.ofString "x") (px:=default) ?_
  refine kms_slice_lit F N ⟨_,(N _ hm).1,rfl,n,rfl⟩ p₁ p₂ rfl (fun D h' F' N' lt=>?_) (hs _ _) (fun _=>rfl) (by rw [size_toArray,hr.len,sizeLine_eq];(exact le_trans (by assumption) (le_of_ble_eq_true rfl)))
  refine g D _ h' s₂.toks F' N' (fun p hp=>ne_of_lt (lt p hp)) fun z₃ le hz3 O₃=>?_
  exact q z₃ _ _ ((l₁.trans l₂).trans le) O₃ (.list hz3 ((hr.pick a b).mono le.2)))
theorem Ev.sliceT{y:zA0}(hv:Ev c E ps nx value (.d (.str y)) nx₁)(hl:EvO c E ps nx₁ lo a)(hh:EvO c E ps nx₁ hi b)(hz:y.length≤100000)(hs:autoParam (∀t B,subscripted (.Slice lo hi none sp) false (.str y t) (.ref B)=operate [.ref B,.str y t] (getItem (.str y t) (.ref B))) zKr):Ev c E ps nx (.Subscript value (.Slice lo hi none sp) pos) (.d (.str (Txt.slice y a b))) nx₁:=fun z s O Q q=>
 Subscript_ (hv z s O _ fun z₁ s₁ va l₁ O₁ r₁=>zI9 hl hh O₁ fun z₂ s₂ vl vu l₂ O₂ p₁ p₂=>by
  obtain ⟨t,rfl⟩:=DRep.str_ r₁
  refine O₂.same fun m news F N _ g=>?_
  have hy:y.length≤sizeLine:=by rw [sizeLine_eq];(exact le_trans (by assumption) (le_of_ble_eq_true rfl))
  have fin:=fun h' t' tk F' N'=>q z₂ _ (.str (Txt.slice y a b) t') (l₁.trans l₂) (g h' tk F' N') DRep.str
  refine zAv (x:=.ofString "x") (px:=default) ?_
  induction p₁<;>induction p₂
  ·exact slice_strN_nn F N fin (hs _ _) (fun _=>rfl) hy
  ·exact slice_strN_ns F N fin (hs _ _) (fun _=>rfl) hy
  ·exact slice_strN_sn F N fin (hs _ _) (fun _=>rfl) hy
  ·exact slice_strN_ss F N fin (hs _ _) (fun _=>rfl) hy)
theorem BinS.addL{l₁ l₂:List PyData}(h₁:LstS nx v₁ l₁)(h₂:LstS nx v₂ l₂)(hz:l₁.length+l₂.length≤100000):BinS c ps nx .Add v₁ v₂ (.d (.list (l₁++l₂))) nx:=fun z s a₁ a₂ O r₁ r₂ Q q=>by
 refine O.growZD fun m news F N hZ ho g=>?_
 obtain ⟨A,vs,n,rfl,hm,hr⟩:=h₁.at (c:=c) r₁ hZ ho
 obtain ⟨B,us,n',rfl,hm',hr'⟩:=h₂.at (c:=c) r₂ hZ ho
 refine PyProof.Rows.add_arrays F N ⟨_,(N _ hm).1,rfl,n,rfl⟩ ⟨_,(N _ hm').1,rfl,n',rfl⟩ (fun h' F' N'=>?_) (by rw [size_toArray,size_toArray,sizeLine_eq,hr.len,hr'.len];(exact le_trans (by assumption) (le_of_ble_eq_true rfl)))
 refine g _ _ h' s.toks F' N' (fun p hp=>ne_of_lt (Heap.lt_size (N p hp).1)) fun z₃ le hz3 O₃=>?_
 exact q z₃ _ _ le O₃ (.list hz3 ((hr.append hr').mono le.2))
theorem SubS.last{slice:Expr}{l:List PyData}{y:PyData}(hL:LstS nx v (l++[y]))(hz:l.length≤10000)(hs:autoParam (∀A u,subscripted slice false (.ref A) (.int (-1) u)=operate [.ref A,.int (-1) u] (getItem (.ref A) (.int (-1) u))) zKr):SubS c ps nx value slice v (.d (.int (-1))) (.d y):=fun z s a₁ a₂ O h1 h2 Q q=>by
 refine O.growZD fun m news F N hZ ho g=>?_
 obtain ⟨A,vs,n,rfl,hm,hr⟩:=hL.at (c:=c) h1 hZ ho
 obtain ⟨t,rfl⟩:=DRep.int_ h2
 obtain ⟨us,u,rfl,ru,ry⟩:=zF4 hr
 have hln:=ru.len
 refine zAv (x:=.ofString "x") (px:=default) ?_
 refine zW4 N hm (by simp) (by simp;lia) (fun v' e=>?_) (hs _ _) (fun _=>rfl)
 have:(us++[u])[(us++[u]).length-1]? = some u:=by simp
 rw [this] at e
 cases e
 exact q _ _ O ry
end
section
variable {E:Env}{fn:Fn}{d n₀:Nat}
noncomputable def Cx.cmp(c:Cx fn d n₀)(R Z:List (Addr×Obj))(as:List Addr)(n:Nat)(h:as.length=n):Cx fn d n:={c with R:=R,Z₀:=Z,as₀:=as,hn:=h}
noncomputable def Cx.rr(c:Cx fn d n₀)(R:List (Addr×Obj)):Cx fn d n₀:={c with R:=R}
variable {c:Cx fn d n₀}{ps:List (zA0×SV)}{nx nx' nx₁ nx₂:List SO}{z:Wd}{s:Shared}{e l r iter elt:Expr}{pos px:Pos}{v v₁ v₂:SV}{x:zA0}{k:Nat}{R' Z RR:List (Addr×Obj)}{as:List Addr}{h':Heap}{tk:Nat}
theorem On.lenA(O:On c ps nx z s):z.as.length=nx.length:=by induction O with|mk F K N O D G a0 Z0=>exact O.len.1
theorem On.cmp(O:On c ps nx z s)(hk:∀b o,s.heap.get? b=some o→h'.get? b=some o)(hR:∀q∈R',q∈c.R∨(s.heap.objs.size≤q.1∧h'.get? q.1=some q.2))(hl:z.as.length=nx.length):On (c.cmp R' z.Z z.as nx.length hl) ps nx z {s with heap:=h',toks:=tk}:=by
 induction O with
 |@mk h t gs m as os Z F K N O D G a0 Z0=>
  have low:∀p∈as.zip os++(Z++c.R),p.1<h.objs.size:=fun p hp=>Heap.lt_size (N p hp).1
  have asin:∀a∈as,a<h.objs.size:=fun a ha=>by
   obtain ⟨i,hi⟩:=getElem?_of_mem ha
   obtain ⟨o,_,_,e3⟩:=O.at hi
   exact low (a,o) (mem_append_left _ e3)
  have N':=N.grown hk
  refine .mk (c:=c.cmp R' Z as nx.length hl) (F.keeps hk) K (fun p hp=>?_) O ⟨D.nd,D.az,fun a ha p hp=>?_,fun p hp q hq=>?_⟩ G ?_ fun p hp=>hp
  ·rcases mem_append.mp hp with hp|hp
   ·exact N' p (mem_append_left _ hp)
   rcases mem_append.mp hp with hp|hp
   ·exact N' p (mem_append_right _ (mem_append_left _ hp))
   rcases hR p hp with hp|⟨a,b⟩
   ·exact N' p (mem_append_right _ (mem_append_right _ hp))
   ·refine ⟨b,fun e=>lt_irrefl _ (lt_of_lt_of_le (F.ns.lt:c.L<h.objs.size) (e▸a)),?_⟩
    show c.h₀.get? p.1=none
    cases e:c.h₀.get? p.1 with
    |none=>rfl
    |some o=>exact absurd (Heap.lt_size (F.keep _ _ e)) (Nat.not_lt.mpr a)
  ·rcases hR p hp with hp|⟨q,_⟩
   ·exact D.ar a ha p hp
   ·exact Ne.symm (ne_of_lt (lt_of_lt_of_le (asin a ha) q))
  ·rcases hR q hq with hq|⟨a,_⟩
   ·exact D.zr p hp q hq
   ·exact ne_of_lt (lt_of_lt_of_le (low p (mem_append_right _ (mem_append_left _ hp))) a)
  ·show as.take nx.length=as
   rw [←O.len.1,take_length]
theorem On.reR(O:On c ps nx z s){a:Addr}{o₀:Obj}(ha:(a,o₀)∈c.R)(hk:∀b o,b≠a→s.heap.get? b=some o→h'.get? b=some o)(hR:∀q∈R',h'.get? q.1=some q.2∧∃o,(q.1,o)∈c.R):On (c.rr R') ps nx z {s with heap:=h',toks:=tk}:=by
 induction O with
 |@mk hh t gs m as os Z' F K N O D G a0 Z0=>
  have hp:=N _ (mem_append_right _ (mem_append_right _ ha))
  have old:∀b o,c.h₀.get? b=some o→b≠a:=fun b o e q=>by have h2:c.h₀.get? a=none:=hp.2.2;rw [q,h2] at e;cases e
  refine .mk (c:=c.rr R') ⟨F.ns.at' fun o e=>hk _ o (Ne.symm hp.2.1) e,fun b o e=>hk b o (old b o e) (F.keep b o e),F.above⟩ K (fun q hq=>?_) O ⟨D.nd,D.az,fun a' ha' q hq=>?_,fun p hp q hq=>?_⟩ G a0 Z0
  ·rcases mem_append.mp hq with hq|hq
   ·obtain ⟨e1,b,e⟩:=N q (mem_append_left _ hq)
    exact ⟨hk _ _ (fun e=>D.ar q.1 (of_mem_zip (a:=q.1) (b:=q.2) hq).1 _ ha e.symm) e1,b,e⟩
   rcases mem_append.mp hq with hq|hq
   ·obtain ⟨e1,b,e⟩:=N q (mem_append_right _ (mem_append_left _ hq))
    exact ⟨hk _ _ (D.zr q hq _ ha) e1,b,e⟩
   ·obtain ⟨g,o,ho⟩:=hR q hq
    exact ⟨g,(N (q.1,o) (mem_append_right _ (mem_append_right _ ho))).2⟩
  ·obtain ⟨g,o,ho⟩:=hR q hq
   exact D.ar a' ha' (q.1,o) ho
  ·obtain ⟨g,o,ho⟩:=hR q hq
   exact D.zr p hp (q.1,o) ho
theorem On.atR(O:On c ps nx z s){p:Addr×Obj}(h:p∈c.R):s.heap.get? p.1=some p.2∧p.1≠c.L∧c.h₀.get? p.1=none:=by
 induction O with|mk F K N O D G a0 Z0=>exact N p (mem_append_right _ (mem_append_right _ h))
theorem On.atZ(O:On c ps nx z s){p:Addr×Obj}(h:p∈c.Z₀):s.heap.get? p.1=some p.2∧p∈z.Z:=by
 induction O with|mk F K N O D G a0 Z0=>exact ⟨(N p (mem_append_right _ (mem_append_left _ (Z0 p h)))).1,Z0 p h⟩
theorem On.back{hl:as.length=nx'.length}{C D:Addr}{oC oD:Obj}(O:On (c.cmp ((C,oC)::(D,oD)::c.R) Z as nx'.length hl) ps nx z s)(hk:∀b o,b≠C→s.heap.get? b=some o→h'.get? b=some o)(hDC:D≠C)(hR:∀q∈c.R,q.1≠C∧q.1≠D)(hz:∀q∈c.Z₀,q∈Z)(ha:as.take n₀=c.as₀)(hn:n₀≤nx'.length):
  On c ps nx ⟨z.as,(D,oD)::z.Z⟩ {s with heap:=h',toks:=tk}:=by
 induction O with
 |@mk hh t gs m as' os Z' F K N O D' G a0 Z0=>
  have hp:=N _ (mem_append_right _ (mem_append_right _ (.head _)))
  have old:∀b o,c.h₀.get? b=some o→b≠C:=fun b o e q=>by have h2:c.h₀.get? C=none:=hp.2.2;rw [q,h2] at e;cases e
  have le:Wd.Le ⟨as',Z'⟩ ⟨as',(D,oD)::Z'⟩:=⟨⟨[],by simp⟩,fun _ h=>.tail _ h⟩
  refine .mk (c:=c) ⟨F.ns.at' fun o e=>hk _ o (Ne.symm hp.2.1) e,fun b o e=>hk b o (old b o e) (F.keep b o e),F.above⟩ (fun y sv e=>let ⟨v,a,b⟩:=K y sv e;⟨v,a,b.mono le⟩) (fun q hq=>?_) (O.mono le) ⟨D'.nd,fun a ha q hq=>?_,fun a ha q hq=>D'.ar a ha q (.tail _ (.tail _ hq)),fun p hp q hq=>?_⟩ G ?_ fun q hq=>.tail _ (Z0 q (hz q hq))
  ·have g:∀{q:Addr×Obj},q∈as'.zip os++(Z'++(C,oC)::(D,oD)::c.R)→q.1≠C→h'.get? q.1=some q.2∧q.1≠c.L∧c.h₀.get? q.1=none:=fun hq e=>⟨hk _ _ e (N _ hq).1,(N _ hq).2⟩
   rcases mem_append.mp hq with hq|hq
   ·exact g (mem_append_left _ hq) fun e=>D'.ar q.1 (of_mem_zip (a:=q.1) (b:=q.2) hq).1 _ (.head _) e.symm
   rcases mem_append.mp hq with hq|hq
   ·rcases mem_cons.mp hq with rfl|hq
    ·exact g (mem_append_right _ (mem_append_right _ (.tail _ (.head _)))) hDC
    ·exact g (mem_append_right _ (mem_append_left _ hq)) (D'.zr q hq _ (.head _))
   ·exact g (mem_append_right _ (mem_append_right _ (.tail _ (.tail _ hq)))) (hR q hq).1
  ·rcases mem_cons.mp hq with rfl|hq
   ·exact D'.ar a ha _ (.tail _ (.head _))
   ·exact D'.az a ha q hq
  ·rcases mem_cons.mp hp with rfl|hp
   ·exact Ne.symm (hR q hq).2
   ·exact D'.zr p hp q (.tail _ (.tail _ hq))
  ·have a1:=congrArg (List.take n₀) (show as'.take nx'.length=as from a0)
   rw [take_take,min_eq_left hn] at a1
   exact a1.trans ha
def NsAt(z:Wd)(o:Obj)(cs:List (zA0×SV)):Prop:=∃m,LCg.NsObj o m∧∀x sv,cs.lookup x=some sv→∃v,m x=some v∧SRep z sv v
def SrcG(PI:Obj→Prop)(c:Cx fn d n₀)(ps:List (zA0×SV))(nx:List SO)(v:SV)(n:Nat)(V:Nat→PyData):Prop:=
 ∀z s val,On c ps nx z s→SRep z v val→∀(Q:Value→Shared→Prop) (E':Value→Shared→Prop),(∀o fp P St,o.isFreed=false→Walks pw c.w c.A s.heap.objs.size fp [s.heap.objs.size] n P St→(∀i h,St i h→∃o,h.get? s.heap.objs.size=some o∧PI o)→(∀b∈fp,b=s.heap.objs.size∨∃o,(b,o)∈z.Z)→
  (∀i val (z':Wd),(∀q∈z.Z,q∈z'.Z)→i<n→P i val→DRep z'.Z (V i) val)→St 0 (s.heap.push o)→Q (.ref s.heap.objs.size) {s with heap:=s.heap.push o})→wpAny c.M c.A (pyIter val) Q E' s
abbrev SrcS(c:Cx fn d n₀)(ps:List (zA0×SV))(nx:List SO)(v:SV)(n:Nat)(V:Nat→PyData):Prop:=SrcG (fun _=>True) c ps nx v n V
abbrev yD5(o:Obj):Prop:=o.cls = .type "list_iterator"∧∃l,∃i:Nat,o.data = .fields #[.ref l,.int i 0]
theorem SrcG.list{y:List PyData}:SrcG yD5 c ps nx (.d (.list y)) y.length fun i=>y.getD i .none:=fun z s val O r Q E' k=>by
 obtain ⟨a,vs,n,rfl,hz,rv⟩:=DRep.list_ r
 refine O.growZ fun m news F N hZ _=>?_
 have hls:s.heap.IsList a vs.toArray:=⟨_,(N _ (hZ _ hz)).1,rfl,n,rfl⟩
 have hne:a≠s.heap.objs.size:=ne_of_lt (Heap.lt_size (N _ (hZ _ hz)).1)
 refine wpAny_pyIter_list hls ?_
 have W:=Walks.list (prog:=pw) (w:=c.w) (A:=c.A) rfl s.heap.objs.size a hne vs.toArray
 rw [show vs.toArray.size=y.length from rv.len] at W
 refine k _ _ _ _ rfl W (fun i h hi=>let ⟨⟨o,ho,a,b⟩,_⟩:=hi;⟨o,ho,a,_,_,b⟩) (fun b hb=>?_) ?_ ⟨⟨_,Heap.get?_push_size _ rfl,rfl,rfl⟩,hls.at fun o e=>Heap.get?_push_of_some _ e⟩
 ·rcases mem_cons.mp hb with rfl|hb
  ·exact .inl rfl
  ·rw [mem_singleton.mp hb];exact .inr ⟨_,hz⟩
 ·rintro i v z' hZ' hi hv
  have hyi:y[i]? = some (y.getD i .none):=by rw [getD_eq_getElem?_getD,getElem?_eq_getElem hi];rfl
  obtain ⟨v',e,r'⟩:=rv.at hyi
  have e2:vs[i]? = some v:=by simpa using hv
  rw [e] at e2
  cases e2
  exact r'.mono fun q hq=>hZ' q hq
theorem SrcS.list{y:List PyData}:SrcS c ps nx (.d (.list y)) y.length fun i=>y.getD i .none:=fun z s val O r Q E' k=>SrcG.list z s val O r Q E' fun o fp P St a b h=>k o fp P St a b fun i hh st=>let ⟨o,ho,_⟩:=h i hh st;⟨o,ho,trivial⟩
theorem SrcS.str{y:zA0}(hy:y.cps.all (· < 128)=true):SrcS c ps nx (.d (.str y)) y.cps.size fun i=>.str ⟨#[y.cps.getD i 0]⟩:=fun z s val O r Q E' k=>by
 obtain ⟨t,rfl⟩:=DRep.str_ r
 refine wpAny_pyIter_ascii hy ?_
 refine k _ _ _ _ rfl (Walks.strAscii rfl _ y t) (fun i h hi=>let ⟨o,ho,_⟩:=hi;⟨o,ho,trivial⟩) (fun b hb=>.inl (mem_singleton.mp hb)) ?_ ⟨_,Heap.get?_push_size _ rfl,rfl,rfl⟩
 rintro i v z' _ hi ⟨c,u,hc,rfl⟩
 have:y.cps.getD i 0=c:=by rw [Array.getD_eq_getD_getElem?,hc];rfl
 show DRep z'.Z (.str ⟨#[y.cps.getD i 0]⟩) _
 rw [this]
 exact .str
theorem SrcS.range{a b st:Int}{n:Nat}(hk:nth nx k=zEs a b st)(hsm:Builtin.Range.small a b st=true)(hsz:Builtin.Range.rangeSize a b st=(n:Int)):SrcS c ps nx (.r k) n fun i=>.int (a+(i:Nat)*st):=fun z s val O r Q E' q=>by
 obtain ⟨ra,hra,rfl⟩:=r
 refine O.obj hra fun m o news g F N U ro _ _ _=>?_
 rw [hk] at ro
 obtain ⟨t,u,v,rfl⟩:=ro
 refine wpAny_pyIter_range (N _ (zA2 U)).1 hsm ?_
 refine q {cls:=.type "range_iterator",data:=.fields #[rawInt a,rawInt (Builtin.Range.rangeSize a b st),rawInt st]} _ _ _ rfl (Walks.range rfl _ a st n) (fun i h hi=>⟨_,hi,trivial⟩) (fun b hb=>.inl (mem_singleton.mp hb)) ?_ ?_
 ·rintro i v z' _ _ ⟨t,rfl⟩
  exact .int
 ·show IsRangeIter _ _ _ _ _
  rw [hsz]
  simpa using Heap.get?_push_size _ rfl
theorem NsAt.mono{z z':Wd}{o:Obj}{cs:List (zA0×SV)}(h:NsAt z o cs)(l:z.Le z'):NsAt z' o cs:=let ⟨m,a,b⟩:=h;⟨m,a,fun x sv e=>let ⟨v,p,q⟩:=b x sv e;⟨v,p,q.mono l⟩⟩
theorem NsAt.set{z:Wd}{o':Obj}{cs:List (zA0×SV)}{x:zA0}{v:Value}{sv:SV}{m:zA0→Option Value}(hm:LCg.NsObj o' (fun y=>if y=x then some v else m y))(h:∀x sv,cs.lookup x=some sv→∃v,m x=some v∧SRep z sv v)(hv:SRep z sv v):NsAt z o' ((x,sv)::cs):=
 ⟨_,hm,fun y sv' e=>by
  rw [lookup_cons] at e
  cases q:y==x with
  |true=>rw [q] at e;cases e;exact ⟨v,if_pos (beq_iff_eq.mp q),hv⟩
  |false=>rw [q] at e;obtain ⟨v',a,b⟩:=h y sv' e;exact ⟨v',(if_neg fun h=>by rw [beq_iff_eq.mpr h] at q;cases q).trans a,b⟩⟩
theorem NsAt.tail{z:Wd}{o:Obj}{cs:List (zA0×SV)}{p:zA0×SV}(h:NsAt z o (p::cs))(hp:cs.lookup p.1=none):NsAt z o cs:=let ⟨m,a,b⟩:=h;⟨m,a,fun x sv e=>b x sv (by
 rw [lookup_cons]
 cases q:x==p.1 with
 |true=>rw [beq_iff_eq.mp q,hp] at e;cases e
 |false=>exact e)⟩
def zM6(c:Cx fn d n₀)(ps:List (zA0×SV))(nx:List SO)(RR Z:List (Addr×Obj)){as:List Addr}(hl:as.length=nx.length)(E:Env)(tg:Expr)(PI:Obj→Prop)(V:Nat→PyData)(cs:List (zA0×SV))(nm:Nat→List (zA0×SV))(n:Nat)(I D C:Addr):Prop:=
 ∀i oI oC ys z s v (Q:Unit→Shared→Prop),i<n→PI oI→DRep z.Z (V i) v→On (c.cmp ((I,oI)::(C,oC)::(D,LCg.lst ys)::RR) Z as nx.length hl) ps nx z s→NsAt z oC cs→
  (∀s' oC',On (c.cmp ((I,oI)::(C,oC')::(D,LCg.lst ys)::RR) Z as nx.length hl) ps nx z s'→NsAt z oC' (nm i)→Q () s')→wpAny c.M c.A (letOwnedTupleGo tg (.ref I) v) (fun _ s₁=>wpAny c.M c.A (assign tg E v) Q noE s₁) noE s
theorem zHb{I D C:Addr}{oI oC oD:Obj}{n:Nat}{hl:as.length=n}{cs:List (zA0×SV)}{sv:SV}{val:Value}(hC:E.locals=C)(hx:E.kindOf x=some .local)(hp:(E.scope.kind == .class || (E.scope.kind == .module&&E.locals != E.globals))=false)(hIC:I≠C)(hDC:D≠C)(hRR:∀q∈RR,q.1≠C)(O:On (c.cmp ((I,oI)::(C,oC)::(D,oD)::RR) Z as n hl) ps nx z s)(hn:NsAt z oC cs)(r:SRep z sv val){Q:Unit→Shared→Prop}(k:∀s' oC',On (c.cmp ((I,oI)::(C,oC')::(D,oD)::RR) Z as n hl) ps nx z s'→NsAt z oC' ((x,sv)::cs)→Q () s'):wpAny c.M c.A (assign (.Name x px) E val) Q noE s:=by
 obtain ⟨m,hm,hcs⟩:=hn
 have hns:s.heap.Ns E.locals m:=by rw [hC];exact hm.ns (O.atR (.tail _ (.head _))).1
 refine wpAny_assign_Name (wpAny_storeName_local hx hns (fun h₃ hn₃ hs₃=>?_) hp)
 rw [hC] at hn₃ hs₃
 obtain ⟨oC₃,eC₃,hoC₃⟩:=LCg.ns_obj hn₃
 refine k _ oC₃ (On.reR (c:=c.cmp ((I,oI)::(C,oC)::(D,oD)::RR) Z as n hl) (R':=(I,oI)::(C,oC₃)::(D,oD)::RR) (h':=h₃) (tk:=s.toks+1) (a:=C) (o₀:=oC) O (.tail _ (.head _)) (fun b o e=>hs₃.extBut b o e) fun q hq=>?_) (NsAt.set hoC₃ hcs r)
 rcases mem_cons.mp hq with rfl|hq
 ·exact ⟨hs₃.extBut _ _ hIC (O.atR (.head _)).1,_,.head _⟩
 rcases mem_cons.mp hq with rfl|hq
 ·exact ⟨eC₃,_,.tail _ (.head _)⟩
 rcases mem_cons.mp hq with rfl|hq
 ·exact ⟨hs₃.extBut _ _ hDC (O.atR (.tail _ (.tail _ (.head _)))).1,_,.tail _ (.tail _ (.head _))⟩
 ·exact ⟨hs₃.extBut _ _ (hRR q hq) (O.atR (.tail _ (.tail _ (.tail _ hq)))).1,_,.tail _ (.tail _ (.tail _ hq))⟩
theorem zEf{sc:Scope}{cl:List (zA0×Addr)}{C:Addr}{E:Env}(h:sc.kind = .function):((compEnvC sc cl C E).scope.kind == .class || ((compEnvC sc cl C E).scope.kind == .module&&(compEnvC sc cl C E).locals != (compEnvC sc cl C E).globals))=false:=by
 show (sc.kind == .class || (sc.kind == .module&&_))=false
 rw [h];rfl
theorem zCr{PI:Obj→Prop}{V:Nat→PyData}{cs:List (zA0×SV)}{n:Nat}{I D C:Addr}{hl:as.length=nx.length}(hC:E.locals=C)(hx:E.kindOf x=some .local)(hp:(E.scope.kind == .class || (E.scope.kind == .module&&E.locals != E.globals))=false)(hIC:I≠C)(hDC:D≠C)(hRR:∀q∈RR,q.1≠C):zM6 c ps nx RR Z hl E (.Name x px) PI V cs (fun i=>(x,.d (V i))::cs) n I D C:=
 fun i oI oC ys z s v Q _ _ r O hn k=>wpAny_pure (zHb hC hx hp hIC hDC hRR O hn (sv:=.d (V i)) r k)
theorem zZf{gens:List Comprehension}{scope:Scope}{lpos p:Pos}{dd n:Nat}{step:Sem Fin}{I D C:Addr}{fp:List Addr}{P:Nat→Value→Prop}{St:Nat→Heap→Prop}{oI oC:Obj}{ys:List Value}{hl:as.length=nx.length}{R:Result→Shared→Prop}{tg:Expr}{PI:Obj→Prop}{nm:Nat→List (zA0×SV)}(V:Nat→PyData)(cs:List (zA0×SV))(f:Nat→List PyData)(hturn:compTurn (.ListComp elt gens scope lpos) dd (.ref I) (.ref D) E=(standAt p >>= fun _=>pyNext (.ref I) >>= fun r=>match r with
   |none=>pure (.done .next)
   |some v=>letOwnedTupleGo tg (.ref I) v >>= fun _=>assign tg E v >>= fun _=>step))(W:Walks pw c.w c.A I fp [I] n P St)(hob:∀i h,St i h→∃o,h.get? I=some o∧PI o)(hfp:∀b∈fp,b=I∨∃o,(b,o)∈Z)(hV:∀i val (z':Wd),(∀q∈Z,q∈z'.Z)→i<n→P i val→DRep z'.Z (V i) val)(hB:zM6 c ps nx RR Z hl E tg PI V cs nm n I D C)(hIC:I≠C)(hID:I≠D)(hDC:D≠C)(hRR:∀q∈RR,q.1≠I∧q.1≠C∧q.1≠D)(hxc:∀i z oC,NsAt z oC (nm i)→NsAt z oC cs)(hst:St 0 s.heap)(O:On (c.cmp ((I,oI)::(C,oC)::(D,LCg.lst ys)::RR) Z as nx.length hl) ps nx z s)(hoC:NsAt z oC cs)(hys:DRepL z.Z (f 0) ys)(body:∀i oI oC ys z s,i<n→On (c.cmp ((I,oI)::(C,oC)::(D,LCg.lst ys)::RR) Z as nx.length hl) ps nx z s→NsAt z oC (nm i)→DRepL z.Z (f i) ys→
   wpAny c.M c.A step (fun fl s'=>fl = .again (.compLoop (.ListComp elt gens scope lpos) dd (.ref I) (.ref D) E)∧∃oC' ys' z',On (c.cmp ((I,oI)::(C,oC')::(D,LCg.lst ys')::RR) Z as nx.length hl) ps nx z' s'∧NsAt z' oC' (nm i)∧DRepL z'.Z (f (i+1)) ys') noE s)(fin:∀oC ys z s,On (c.cmp ((C,oC)::(D,LCg.lst ys)::RR) Z as nx.length hl) ps nx z s→NsAt z oC cs→DRepL z.Z (f n) ys→R (.ok .next) s):
  codeAny c.M c.A (.compLoop (.ListComp elt gens scope lpos) dd (.ref I) (.ref D) E) R s:=by
 refine codeAny_loop rfl (fun k s'=>∃i ys oI oC z,k=n-i∧i≤n∧St i s'.heap∧On (c.cmp ((I,oI)::(C,oC)::(D,LCg.lst ys)::RR) Z as nx.length hl) ps nx z s'∧NsAt z oC cs∧DRepL z.Z (f i) ys) ?_ n ⟨0,ys,oI,oC,z,rfl,zero_le _,hst,O,hoC,hys⟩
 rintro k s' ⟨i,ys,oI,oC,z,rfl,hi,st,O,⟨m,hm,hcs⟩,hys⟩
 show wpAny _ c.A ((compTurn (.ListComp elt gens scope lpos) dd (.ref I) (.ref D) E).onRaise (fun x=>do noteFrame x E;theTreesLotGoes x)) _ _ _
 refine wpAny_noted ?_
 rw [hturn]
 refine wpAny_bind (wpAny_standAt (wpAny_bind ?_))
 have tl:∀{q:Addr×Obj} {oI oC oD},q∈RR→q∈(c.cmp ((I,oI)::(C,oC)::(D,oD)::RR) Z as nx.length hl).R:=fun h=>.tail _ (.tail _ (.tail _ h))
 rcases lt_or_eq_of_le hi with hlt|rfl
 ·refine W.item i _ _ _ hlt st fun v h₂ tk₂ hv st₂ hk₂=>?_
  have hk₂':∀b o,b≠I→s'.heap.get? b=some o→h₂.get? b=some o:=fun b o e=>hk₂ b o (fun q=>e (mem_singleton.mp q))
  obtain ⟨o₂,ho₂,hPI⟩:=hob _ _ st₂
  dsimp only
  have O₂:=On.reR (R':=(I,o₂)::(C,oC)::(D,LCg.lst ys)::RR) (h':=h₂) (tk:=tk₂) O (.head _) hk₂' fun q hq=>by
   rcases mem_cons.mp hq with rfl|hq
   ·exact ⟨ho₂,_,.head _⟩
   rcases mem_cons.mp hq with rfl|hq
   ·exact ⟨hk₂' _ _ (Ne.symm hIC) (O.atR (.tail _ (.head _))).1,_,.tail _ (.head _)⟩
   rcases mem_cons.mp hq with rfl|hq
   ·exact ⟨hk₂' _ _ (Ne.symm hID) (O.atR (.tail _ (.tail _ (.head _)))).1,_,.tail _ (.tail _ (.head _))⟩
   ·exact ⟨hk₂' _ _ (hRR q hq).1 (O.atR (tl hq)).1,_,tl hq⟩
  have zin:∀q∈Z,q∈z.Z:=fun q hq=>(O.atZ (p:=q) hq).2
  refine wpAny_bind (wpAny_mono (hB i o₂ oC ys z _ v (fun _ s₃=>wpAny c.M c.A step _ _ s₃) hlt hPI (hV i v z zin hlt hv) O₂ ⟨m,hm,hcs⟩ fun s₃ oC₃ O₃ n₃=>?_) (fun _ _ h=>wpAny_bind (wpAny_mono h (fun _ _ h=>h) fun _ _ e=>e.elim)) fun _ _ e=>e.elim)
  have st₃:St (i+1) s₃.heap:=W.frame _ _ _ st₂ fun b hb o' e=>by
   have h1:=O₂.atR (p:=(I,o₂)) (.head _)
   have h2:=O₃.atR (p:=(I,o₂)) (.head _)
   rcases hfp b hb with rfl|⟨ob,hz⟩
   ·exact h2.1.trans (h1.1.symm.trans e)
   ·exact (O₃.atZ (p:=(b,ob)) hz).1.trans ((O₂.atZ (p:=(b,ob)) hz).1.symm.trans e)
  refine wpAny_mono (body i o₂ oC₃ ys z _ hlt O₃ n₃ hys) (fun fl s₄ h₄=>?_) fun _ _ e=>e.elim
  obtain ⟨rfl,oC',ys',z',O₄,n₄,y₄⟩:=h₄
  refine ⟨rfl,n-(i+1),by lia,i+1,ys',o₂,oC',z',rfl,hlt,W.frame _ _ _ st₃ fun b hb o' e=>?_,O₄,hxc _ _ _ n₄,y₄⟩
  have h1:=O₃.atR (p:=(I,o₂)) (.head _)
  have h2:=O₄.atR (p:=(I,o₂)) (.head _)
  rcases hfp b hb with rfl|⟨ob,hz⟩
  ·exact h2.1.trans (h1.1.symm.trans e)
  ·exact (O₄.atZ (p:=(b,ob)) hz).1.trans ((O₃.atZ (p:=(b,ob)) hz).1.symm.trans e)
 ·refine W.done _ _ _ st fun h₂ tk₂ hk₂=>?_
  have hk₂':∀b o,b≠I→s'.heap.get? b=some o→h₂.get? b=some o:=fun b o e=>hk₂ b o (fun q=>e (mem_singleton.mp q))
  dsimp only
  refine wpAny_pure (fin oC ys z _ (On.reR (R':=(C,oC)::(D,LCg.lst ys)::RR) O (.head _) hk₂' fun q hq=>?_) ⟨m,hm,hcs⟩ hys)
  rcases mem_cons.mp hq with rfl|hq
  ·exact ⟨hk₂' _ _ (Ne.symm hIC) (O.atR (.tail _ (.head _))).1,_,.tail _ (.head _)⟩
  rcases mem_cons.mp hq with rfl|hq
  ·exact ⟨hk₂' _ _ (Ne.symm hID) (O.atR (.tail _ (.tail _ (.head _)))).1,_,.tail _ (.tail _ (.head _))⟩
  ·exact ⟨hk₂' _ _ (hRR q hq).1 (O.atR (tl hq)).1,_,tl hq⟩
theorem On.uncmp{Z':List (Addr×Obj)}{as':List Addr}{n:Nat}{h₁:as.length=n}{h₂:as'.length=n}(O:On (c.cmp R' Z as n h₁) ps nx z s)(hZ:∀q∈Z',q∈Z)(ha:as'=as):On (c.cmp R' Z' as' n h₂) ps nx z s:=by
 subst ha
 induction O with
 |mk F K N O D G a0 Z0=>exact .mk (c:=c.cmp R' Z' as' n h₂) F K N O D G a0 fun p hp=>Z0 p (hZ p hp)
theorem On.le_cmp{n:Nat}{hl:as.length=n}(O:On (c.cmp R' Z as n hl) ps nx z s):Wd.Le ⟨as,Z⟩ z:=by
 induction O with
 |@mk h t gs m as' os Z' F K N O D G a0 Z0=>exact ⟨⟨as'.drop n,by rw [show as=as'.take n from a0.symm];exact (take_append_drop _ _).symm⟩,Z0⟩
theorem On.as0(O:On c ps nx z s):z.as.take n₀=c.as₀∧n₀≤nx.length∧∀p∈c.Z₀,p∈z.Z:=by
 induction O with
 |@mk h t gs m as os Z F K N O D G a0 Z0=>exact ⟨a0,by rw [←c.hn,←a0,length_take,←O.len.1];exact Nat.min_le_right _ _,Z0⟩
theorem yBa{n:Nat}{hl:as.length=n}{I C D:Addr}{oI oC:Obj}{ys:List Value}{y:Value}(O:On (c.cmp ((I,oI)::(C,oC)::(D,LCg.lst ys)::RR) Z as n hl) ps nx z s)(hID:I≠D)(hDC:D≠C)(hRR:∀q∈RR,q.1≠D)(hz:ys.length≤100000){Q:Value→Shared→Prop}(k:∀s',On (c.cmp ((I,oI)::(C,oC)::(D,LCg.lst (ys++[y]))::RR) Z as n hl) ps nx z s'→Q .none s'):wpAny c.M c.A (call (.builtin "list.append") [.ref D,y]) Q noE s:=by
 have zD:=(O.atR (p:=(D,LCg.lst ys)) (.tail _ (.tail _ (.head _)))).1
 refine append_at (hsz:=by rw [size_toArray,sizeLine_eq];exact le_trans hz (by decide)) zD fun h₅ hs₅ hD₅=>k _ (On.reR (R':=(I,oI)::(C,oC)::(D,LCg.lst (ys++[y]))::RR) (h':=h₅) (tk:=s.toks) (a:=D) O (.tail _ (.tail _ (.head _))) (fun b o e=>hs₅.extBut b o e) fun q hq=>?_)
 rcases mem_cons.mp hq with rfl|hq
 ·exact ⟨hs₅.extBut _ _ hID (O.atR (.head _)).1,_,.head _⟩
 rcases mem_cons.mp hq with rfl|hq
 ·exact ⟨hs₅.extBut _ _ (Ne.symm hDC) (O.atR (.tail _ (.head _))).1,_,.tail _ (.head _)⟩
 rcases mem_cons.mp hq with rfl|hq
 ·exact ⟨hD₅.trans (congrArg some (LCg.lst_snoc ys y)),_,.tail _ (.tail _ (.head _))⟩
 ·exact ⟨hs₅.extBut _ _ (hRR q hq) (O.atR (.tail _ (.tail _ (.tail _ hq)))).1,_,.tail _ (.tail _ (.tail _ hq))⟩
theorem zOl{cpos:Pos}{use:Option (Value→Sem Unit)}{Q:Value→Shared→Prop}{ifs:List Expr}{gs:List Comprehension}{scope:Scope}{cl:List (zA0×Addr)}{lpos:Pos}{step:Addr→Addr→Addr→Sem Fin}{n:Nat}{V:Nat→PyData}{tg:Expr}{PI:Obj→Prop}{nm:Nat→List (zA0×SV)}(f:Nat→List PyData)(hturn:∀I D C,compTurn (.ListComp elt (⟨tg,iter,ifs,0⟩::gs) scope lpos) 0 (.ref I) (.ref D) (compEnvC scope cl C E)=(standAt iter.pos >>= fun _=>pyNext (.ref I) >>= fun r=>match r with
   |none=>pure (.done .next)
   |some v=>letOwnedTupleGo tg (.ref I) v >>= fun _=>assign tg (compEnvC scope cl C E) v >>= fun _=>step I D C))(h:Ev c E ps nx iter v nx₁)(src:SrcG PI c ps nx₁ v n V)(hf:f 0=[])(body:∀I D C Z as (hl:as.length=nx₁.length) i oI oC ys z s,I≠C∧I≠D∧D≠C→(∀q∈c.R,q.1≠I∧q.1≠C∧q.1≠D)→(as.take n₀=c.as₀∧n₀≤nx₁.length)→i<n→On (c.cmp ((I,oI)::(C,oC)::(D,LCg.lst ys)::c.R) Z as nx₁.length hl) ps nx₁ z s→NsAt z oC (nm i)→DRepL z.Z (f i) ys→
   wpAny c.M c.A (step I D C) (fun fl s'=>fl = .again (.compLoop (.ListComp elt (⟨tg,iter,ifs,0⟩::gs) scope lpos) 0 (.ref I) (.ref D) (compEnvC scope cl C E))∧∃oC' ys' z',On (c.cmp ((I,oI)::(C,oC')::(D,LCg.lst ys')::c.R) Z as nx₁.length hl) ps nx₁ z' s'∧NsAt z' oC' (nm i)∧DRepL z'.Z (f (i+1)) ys') noE s)(hclos:closureFor scope E=pure cl)(hcell:∀y∈scope.names,y.2≠.cell)(hkind:scope.kind = .function)(hnames:∀y∈scope.names,y.2 = .local→scope.names.lookup y.1=some .local)(hB:∀(I D C:Addr) (Z:List (Addr×Obj)) (as:List Addr) (hl:as.length=nx₁.length),I≠C→D≠C→(∀q∈c.R,q.1≠C)→zM6 c ps nx₁ c.R Z hl (compEnvC scope cl C E) tg PI V [] nm n I D C)(hs:∀x,foldedSetIterable iter E x=pure x)(O:On c ps nx z s)(post:∀C D oC ys Z as (hl:as.length=nx₁.length) z₄ s₄,On (c.cmp ((C,oC)::(D,LCg.lst ys)::c.R) Z as nx₁.length hl) ps nx₁ z₄ s₄→D≠C→(∀q∈c.R,q.1≠C∧q.1≠D)→(∀q∈c.Z₀,q∈Z)→as.take n₀=c.as₀→n₀≤nx₁.length→(∃m,LCg.NsObj oC m)→DRepL z₄.Z (f n) ys→z.Le z₄→compPost c.M c.A noE use Q (.ref D) C (.ok .next) s₄):
  wpAny c.M c.A (comprehension (.ListComp elt (⟨tg,iter,ifs,0⟩::gs) scope lpos) scope E cpos (newList []) false (eval iter E) use) Q noE s:=by
 refine wpAny_comprehension_free rfl hs hclos hkind hnames (h z s O _ fun z₁ s₁ xv l₁ O₁ r₁=>?_)
 refine src z₁ s₁ xv O₁ r₁ _ _ fun o fp P St hfr W hob hfp hV st=>?_
 refine wpAny_newObj_type (wpAny_newFunctionEnv hcell (by intro y hy;simp at hy) (fun h₁ hns₁ hsb₁=>?_) hkind)
 dsimp only at hns₁ hsb₁ ⊢
 generalize hHp:s₁.heap.push o=hp at st hns₁ hsb₁ ⊢
 have hI:hp.objs.size=s₁.heap.objs.size+1:=by rw [←hHp,Heap.size_push]
 generalize hH2:hp.push {cls:=.type "list",dict:=none,data:=.seq ([]:List Value).toArray}=H2 at hns₁ hsb₁ ⊢
 have hC:H2.objs.size=hp.objs.size+1:=by rw [←hH2,Heap.size_push]
 have low:∀b,b<hp.objs.size→b≠H2.objs.size:=fun b hb=>by rw [hC];exact ne_of_lt (lt_succ_of_lt hb)
 have hDC:hp.objs.size≠H2.objs.size:=by rw [hC];exact ne_of_lt (lt_succ_self _)
 have hIlt:s₁.heap.objs.size<hp.objs.size:=by rw [hI];exact lt_succ_self _
 have old:∀b o,hp.get? b=some o→h₁.get? b=some o:=fun b o e=>hsb₁.extBut b o (low b (Heap.lt_size e)) (Heap.get?_push_of_some _ (hH2▸Heap.get?_push_of_some _ e))
 have hacc:h₁.get? hp.objs.size=some (LCg.lst []):=hsb₁.extBut _ _ hDC (Heap.get?_push_of_some _ (hH2▸Heap.get?_push_size _ rfl))
 obtain ⟨oC,eC,hoC⟩:=LCg.ns_obj hns₁
 have hl:=O₁.lenA
 have a0:=O₁.as0
 have fR:∀q∈c.R,q.1<s₁.heap.objs.size:=fun q hq=>Heap.lt_size (O₁.atR hq).1
 have O₂:=On.cmp (R':=(s₁.heap.objs.size,o)::(H2.objs.size,oC)::(hp.objs.size,LCg.lst [])::c.R) (h':=h₁) (tk:=s₁.toks+([]:List (Str×Value)).length) O₁ (fun b o e=>old b o (hHp▸Heap.get?_push_of_some _ e)) (fun q hq=>by
  rcases mem_cons.mp hq with rfl|hq
  ·exact .inr ⟨le_refl _,old _ _ (hHp▸Heap.get?_push_size _ hfr)⟩
  rcases mem_cons.mp hq with rfl|hq
  ·exact .inr ⟨le_of_lt (by rw [hC];exact lt_succ_of_lt hIlt),eC⟩
  rcases mem_cons.mp hq with rfl|hq
  ·exact .inr ⟨le_of_lt hIlt,hacc⟩
  ·exact .inl hq) hl
 have hRR:∀q∈c.R,q.1≠s₁.heap.objs.size∧q.1≠H2.objs.size∧q.1≠hp.objs.size:=fun q hq=>⟨ne_of_lt (fR q hq),low _ (lt_trans (fR q hq) hIlt),ne_of_lt (lt_trans (fR q hq) hIlt)⟩
 have ne:s₁.heap.objs.size≠H2.objs.size∧s₁.heap.objs.size≠hp.objs.size∧hp.objs.size≠H2.objs.size:=⟨low _ hIlt,ne_of_lt hIlt,hDC⟩
 have st₁:St 0 h₁:=W.frame _ _ _ st fun b _ o e=>old b o e
 have loop:∀s₃:Shared,s₃ = {s₁ with heap:=h₁,toks:=s₁.toks+([]:List (Str×Value)).length}→
   codeAny c.M c.A (.compLoop (.ListComp elt (⟨tg,iter,ifs,0⟩::gs) scope lpos) 0 (.ref s₁.heap.objs.size) (.ref hp.objs.size) (compEnvC scope cl H2.objs.size E)) (compPost c.M c.A noE use Q (.ref hp.objs.size) H2.objs.size) s₃:=by
  rintro s₃ rfl
  refine zZf (c:=c) (nx:=nx₁) (RR:=c.R) (hl:=hl) V [] f (hturn _ _ _) W hob hfp hV (hB _ _ _ _ _ hl ne.1 ne.2.2 fun q hq=>(hRR q hq).2.1) ne.1 ne.2.1 ne.2.2 hRR (fun _ _ _ ⟨m,a,_⟩=>⟨m,a,fun _ _ e=>nomatch e⟩) st₁ O₂ ⟨_,hoC,fun _ _ e=>nomatch e⟩ (hf▸.nil) (fun i oI oC ys z s hi O n r=>body _ _ _ _ _ hl i oI oC ys z s ne hRR ⟨a0.1,a0.2.1⟩ hi O n r) ?_
  rintro oC ys z₄ s₄ O₄ ⟨m,hm,_⟩ r₄
  exact post _ _ _ _ _ _ hl z₄ s₄ O₄ hDC (fun q hq=>(hRR q hq).2) a0.2.2 a0.1 a0.2.1 ⟨m,hm⟩ r₄ (l₁.trans O₄.le_cmp)
 exact codeAny_compStart_list (loop _ rfl) (W.self 0 _ _ _ st₁ (loop _ rfl))
theorem Ev.compG{ifs:List Expr}{gs:List Comprehension}{scope:Scope}{cl:List (zA0×Addr)}{lpos:Pos}{step:Addr→Addr→Addr→Sem Fin}{n:Nat}{V:Nat→PyData}{tg:Expr}{PI:Obj→Prop}{nm:Nat→List (zA0×SV)}(f:Nat→List PyData)(hturn:∀I D C,compTurn (.ListComp elt (⟨tg,iter,ifs,0⟩::gs) scope lpos) 0 (.ref I) (.ref D) (compEnvC scope cl C E)=(standAt iter.pos >>= fun _=>pyNext (.ref I) >>= fun r=>match r with
   |none=>pure (.done .next)
   |some v=>letOwnedTupleGo tg (.ref I) v >>= fun _=>assign tg (compEnvC scope cl C E) v >>= fun _=>step I D C))(h:Ev c E ps nx iter v nx₁)(src:SrcG PI c ps nx₁ v n V)(hf:f 0=[])(body:∀I D C Z as (hl:as.length=nx₁.length) i oI oC ys z s,I≠C∧I≠D∧D≠C→(∀q∈c.R,q.1≠I∧q.1≠C∧q.1≠D)→(as.take n₀=c.as₀∧n₀≤nx₁.length)→i<n→On (c.cmp ((I,oI)::(C,oC)::(D,LCg.lst ys)::c.R) Z as nx₁.length hl) ps nx₁ z s→NsAt z oC (nm i)→DRepL z.Z (f i) ys→
   wpAny c.M c.A (step I D C) (fun fl s'=>fl = .again (.compLoop (.ListComp elt (⟨tg,iter,ifs,0⟩::gs) scope lpos) 0 (.ref I) (.ref D) (compEnvC scope cl C E))∧∃oC' ys' z',On (c.cmp ((I,oI)::(C,oC')::(D,LCg.lst ys')::c.R) Z as nx₁.length hl) ps nx₁ z' s'∧NsAt z' oC' (nm i)∧DRepL z'.Z (f (i+1)) ys') noE s)(hclos:closureFor scope E=pure cl)(hcell:∀y∈scope.names,y.2≠.cell)(hkind:scope.kind = .function)(hnames:∀y∈scope.names,y.2 = .local→scope.names.lookup y.1=some .local)(hB:∀(I D C:Addr) (Z:List (Addr×Obj)) (as:List Addr) (hl:as.length=nx₁.length),I≠C→D≠C→(∀q∈c.R,q.1≠C)→zM6 c ps nx₁ c.R Z hl (compEnvC scope cl C E) tg PI V [] nm n I D C)(hs:∀x,foldedSetIterable iter E x=pure x):
  Ev c E ps nx (.ListComp elt (⟨tg,iter,ifs,0⟩::gs) scope lpos) (.d (.list (f n))) nx₁:=fun z s O Q k=>by
 rw [eval_ListComp]
 refine zOl f hturn h src hf body hclos hcell hkind hnames hB hs O ?_
 rintro C D oC ys Z as hl z₄ s₄ O₄ hDC hR hz ha hn ⟨m,hm⟩ r₄ l₄
 refine ⟨m,hm.ns (O₄.atR (.head _)).1,fun h'' hs''=>?_⟩
 have O₅:=On.back (c:=c) (hl:=hl) (h':=h'') (tk:=s₄.toks) O₄ (fun b o e=>hs''.extBut b o e) hDC hR hz ha hn
 have le:Wd.Le z₄ ⟨z₄.as,(D,LCg.lst ys)::z₄.Z⟩:=⟨⟨[],by simp⟩,fun _ h=>.tail _ h⟩
 exact k _ _ _ (l₄.trans le) O₅ (.list (n:=ys.length) (.head _) (r₄.mono le.2))
end
section
set_option maxHeartbeats 400000
section
variable {E:Env}{fn:Fn}{d n₀:Nat}
variable {c:Cx fn d n₀}{ps:List (zA0×SV)}{nx nx' nx₁ nx₂:List SO}{z:Wd}{s:Shared}{e l r iter elt:Expr}{pos px:Pos}{v v₁ v₂:SV}{x:zA0}{k:Nat}{R' Z RR:List (Addr×Obj)}{as:List Addr}{h':Heap}{tk:Nat}
theorem On.frzR{R:List (Addr×Obj)}{n:Nat}{hl:as.length=n}{C D:Addr}{oC oD:Obj}(O:On (c.cmp ((C,oC)::(D,oD)::R) Z as n hl) ps nx z s)(hR:∀q∈(C,oC)::R,q.1≠D):On (c.cmp ((C,oC)::R) Z as n hl) ps nx ⟨z.as,(D,oD)::z.Z⟩ s:=by
 induction O with
 |@mk hh t gs m as' os Z' F K N O D' G a0 Z0=>
  have le:Wd.Le ⟨as',Z'⟩ ⟨as',(D,oD)::Z'⟩:=⟨⟨[],by simp⟩,fun _ h=>.tail _ h⟩
  have up:∀q∈(C,oC)::R,q∈(C,oC)::(D,oD)::R:=fun q hq=>by
   rcases mem_cons.mp hq with rfl|hq
   ·exact .head _
   ·exact .tail _ (.tail _ hq)
  refine .mk (c:=c.cmp ((C,oC)::R) Z as n hl) F (fun y sv e=>let ⟨v,a,b⟩:=K y sv e;⟨v,a,b.mono le⟩) (fun q hq=>?_) (O.mono le) ⟨D'.nd,fun a ha q hq=>?_,fun a ha q hq=>D'.ar a ha q (up q hq),fun p hp q hq=>?_⟩ G a0 fun q hq=>.tail _ (Z0 q hq)
  ·rcases mem_append.mp hq with hq|hq
   ·exact N q (mem_append_left _ hq)
   rcases mem_append.mp hq with hq|hq
   ·rcases mem_cons.mp hq with rfl|hq
    ·exact N _ (mem_append_right _ (mem_append_right _ (.tail _ (.head _))))
    ·exact N q (mem_append_right _ (mem_append_left _ hq))
   ·exact N q (mem_append_right _ (mem_append_right _ (up q hq)))
  ·rcases mem_cons.mp hq with rfl|hq
   ·exact D'.ar a ha _ (.tail _ (.head _))
   ·exact D'.az a ha q hq
  ·rcases mem_cons.mp hp with rfl|hp
   ·exact Ne.symm (hR q hq)
   ·exact D'.zr p hp q (up q hq)
theorem On.dropR{hl:as.length=nx'.length}{C:Addr}{oC:Obj}(O:On (c.cmp ((C,oC)::c.R) Z as nx'.length hl) ps nx z s)(hk:∀b o,b≠C→s.heap.get? b=some o→h'.get? b=some o)(hR:∀q∈c.R,q.1≠C)(hz:∀q∈c.Z₀,q∈Z)(ha:as.take n₀=c.as₀)(hn:n₀≤nx'.length):On c ps nx z {s with heap:=h',toks:=tk}:=by
 induction O with
 |@mk hh t gs m as' os Z' F K N O D' G a0 Z0=>
  have hp:=N _ (mem_append_right _ (mem_append_right _ (.head _)))
  have old:∀b o,c.h₀.get? b=some o→b≠C:=fun b o e q=>by have h2:c.h₀.get? C=none:=hp.2.2;rw [q,h2] at e;cases e
  have g:∀{q:Addr×Obj},q∈as'.zip os++(Z'++(C,oC)::c.R)→q.1≠C→h'.get? q.1=some q.2∧q.1≠c.L∧c.h₀.get? q.1=none:=fun hq e=>⟨hk _ _ e (N _ hq).1,(N _ hq).2⟩
  refine .mk (c:=c) ⟨F.ns.at' fun o e=>hk _ o (Ne.symm hp.2.1) e,fun b o e=>hk b o (old b o e) (F.keep b o e),F.above⟩ K (fun q hq=>?_) O ⟨D'.nd,D'.az,fun a ha q hq=>D'.ar a ha q (.tail _ hq),fun p hp q hq=>D'.zr p hp q (.tail _ hq)⟩ G ?_ fun q hq=>Z0 q (hz q hq)
  ·rcases mem_append.mp hq with hq|hq
   ·exact g (mem_append_left _ hq) fun e=>D'.ar q.1 (of_mem_zip (a:=q.1) (b:=q.2) hq).1 _ (.head _) e.symm
   rcases mem_append.mp hq with hq|hq
   ·exact g (mem_append_right _ (mem_append_left _ hq)) (D'.zr q hq _ (.head _))
   ·exact g (mem_append_right _ (mem_append_right _ (.tail _ hq))) (hR q hq)
  ·have a1:=congrArg (List.take n₀) (show as'.take nx'.length=as from a0)
   rw [take_take,min_eq_left hn] at a1
   exact a1.trans ha
theorem zK7{ifs:List Expr}{gs:List Comprehension}{scope:Scope}{cl:List (zA0×Addr)}{lpos py spos:Pos}{y:zA0}{step:Addr→Addr→Addr→Sem Fin}{n:Nat}{V:Nat→PyData}{tg:Expr}{PI:Obj→Prop}{nm:Nat→List (zA0×SV)}(f:Nat→List PyData)(hturn:∀I D C,compTurn (.ListComp elt (⟨tg,iter,ifs,0⟩::gs) scope lpos) 0 (.ref I) (.ref D) (compEnvC scope cl C c.env)=(standAt iter.pos >>= fun _=>pyNext (.ref I) >>= fun r=>match r with
   |none=>pure (.done .next)
   |some v=>letOwnedTupleGo tg (.ref I) v >>= fun _=>assign tg (compEnvC scope cl C c.env) v >>= fun _=>step I D C))(h:Ev c c.env ps nx iter v nx₁)(src:SrcG PI c ps nx₁ v n V)(hf:f 0=[])(body:∀I D C Z as (hl:as.length=nx₁.length) i oI oC ys z s,I≠C∧I≠D∧D≠C→(∀q∈c.R,q.1≠I∧q.1≠C∧q.1≠D)→(as.take n₀=c.as₀∧n₀≤nx₁.length)→i<n→On (c.cmp ((I,oI)::(C,oC)::(D,LCg.lst ys)::c.R) Z as nx₁.length hl) ps nx₁ z s→NsAt z oC (nm i)→DRepL z.Z (f i) ys→
   wpAny c.M c.A (step I D C) (fun fl s'=>fl = .again (.compLoop (.ListComp elt (⟨tg,iter,ifs,0⟩::gs) scope lpos) 0 (.ref I) (.ref D) (compEnvC scope cl C c.env))∧∃oC' ys' z',On (c.cmp ((I,oI)::(C,oC')::(D,LCg.lst ys')::c.R) Z as nx₁.length hl) ps nx₁ z' s'∧NsAt z' oC' (nm i)∧DRepL z'.Z (f (i+1)) ys') noE s)(hclos:closureFor scope c.env=pure cl)(hcell:∀y∈scope.names,y.2≠.cell)(hkind:scope.kind = .function)(hnames:∀y∈scope.names,y.2 = .local→scope.names.lookup y.1=some .local)(hB:∀(I D C:Addr) (Z:List (Addr×Obj)) (as:List Addr) (hl:as.length=nx₁.length),I≠C→D≠C→(∀q∈c.R,q.1≠C)→zM6 c ps nx₁ c.R Z hl (compEnvC scope cl C c.env) tg PI V [] nm n I D C)(hs:∀x,foldedSetIterable iter c.env x=pure x)(hsw:swapsWith (.ListComp elt (⟨tg,iter,ifs,0⟩::gs) scope lpos) (some (.Name y py)) spos.line c.env=pure true)(hy:fn.scope.names.lookup y=some .local):
  Ex c ps nx (.Assign [.Name y py] (.ListComp elt (⟨tg,iter,ifs,0⟩::gs) scope lpos) spos) ((y,.d (.list (f n)))::ps) nx₁:=fun z s O Q k=>by
 rw [exec_Assign_Name_used _ _ _ _ hsw]
 refine wpAny_bind (wpAny_standAt (wpAny_bind ?_))
 show wpAny _ c.A (do let _ ←comprehension (.ListComp elt (⟨tg,iter,ifs,0⟩::gs) scope lpos) scope c.env _ (newList []) false (eval iter c.env) (some (assign (.Name y py) c.env))) _ _ s
 refine wpAny_bind (wpAny_mono (zOl (Q:=fun _ s'=>Q .next s') f hturn h src hf body hclos hcell hkind hnames hB hs O ?_) (fun _ s' hq=>wpAny_pure (wpAny_pure hq)) fun _ _ e=>e.elim)
 rintro C D oC ys Z as hl z₄ s₄ O₄ hDC hR hz ha hn ⟨m,hm⟩ r₄ l₄
 have O₅:=O₄.frzR fun q hq=>by
  rcases mem_cons.mp hq with rfl|hq
  ·exact Ne.symm hDC
  ·exact (hR q hq).2
 show wpAny _ c.A (assign (.Name y py) c.env (.ref D)) _ _ _
 have le:∀q∈z₄.Z,q∈(D,LCg.lst ys)::z₄.Z:=fun _ h=>.tail _ h
 refine wpAny_assign_Name (zB5 (c:=c.cmp ((C,oC)::c.R) Z as nx₁.length hl) O₅ (v:=.d (.list (f n))) (.list (n:=ys.length) (.head _) (r₄.mono le)) (fun s₅ O₆=>?_) hy)
 exact ⟨m,hm.ns (O₆.atR (.head _)).1,fun h'' hs''=>k _ _ (On.dropR (hl:=hl) (h':=h'') (tk:=s₅.toks) O₆ (fun b o e=>hs''.extBut b o e) (fun q hq=>(hR q hq).1) hz ha hn)⟩
end
end
section
variable {E:Env}{fn:Fn}{d n₀ n₁:Nat}
structure CompAt(c:Cx fn d n₀)(c':Cx fn d n₁)(C:Addr)(cs:List (zA0×SV)):Prop where
 ns:∃oC,(C,oC)∈c'.R∧NsAt ⟨c'.as₀,c'.Z₀⟩ oC cs
 L:c'.L=c.L
 A:c'.as₀.take n₀=c.as₀
variable {c:Cx fn d n₀}{c':Cx fn d n₁}{ps cs:List (zA0×SV)}{nx nx' nx₁ nx₂:List SO}{z:Wd}{s:Shared}{e l r iter elt ct:Expr}{pos px:Pos}{v v₁ v₂:SV}{x y:zA0}{k:Nat}{R' Z RR:List (Addr×Obj)}{as:List Addr}{h':Heap}{tk:Nat}{C:Addr}{sc:Scope}{cl:List (zA0×Addr)}{lpos:Pos}{ifs:List Expr}
theorem On.as0Le(O:On c ps nx z s):Wd.Le ⟨c.as₀,c.Z₀⟩ z:=⟨⟨z.as.drop n₀,by rw [←O.as0.1];exact (take_append_drop _ _).symm⟩,O.as0.2.2⟩
theorem Ev.cloc(h:CompAt c c' C cs)(e:cs.lookup x=some v)(hx:autoParam ((compEnvC sc cl C E).kindOf x=some .local) T0R)(hk:autoParam (sc.kind = .function) T0R)(hd:autoParam ((x==("__debug__" : Str))=false) T0R):Ev c' (compEnvC sc cl C E) ps nx (.Name x px) v nx:=fun z s O Q k=>by
 obtain ⟨oC,hR,m,hm,hcs⟩:=h.ns
 obtain ⟨val,e1,r⟩:=hcs x v e
 exact wpAny_Name (wpAny_loadName_local (env:=compEnvC sc cl C E) hk hx (hm.ns (O.atR hR).1) e1 (k _ _ _ (.refl _) O (r.mono O.as0Le))) hd
theorem Ev.cglob{g:Value}(e:∀P,nsIn (kW P) mainGlobals x=some (some g))(hx:autoParam ((compEnvC sc cl C E).kindOf x=some .globalImplicit) T0R)(hg:autoParam (E.globals=mainGlobals) T0R)(hk:autoParam (sc.kind = .function) T0R)(hd:autoParam ((x==("__debug__" : Str))=false) T0R):Ev c (compEnvC sc cl C E) ps nx (.Name x px) (.v g) nx:=by
 rintro z s O Q k
 have O':=O
 induction O with
 |mk F K N O D G a0 Z0=>
  refine Name_function_global (env:=compEnvC sc cl C E) hk hx (loadGlobal_global (env:=compEnvC sc cl C E) ?_ (mg_of c.X (topRead_of c.T).g (e _)) (k _ _ _ (.refl _) O' rfl)) hd
  rw [show (compEnvC sc cl C E).globals=mainGlobals from hg]
  exact (topRead_of c.T).g.keeps F.keep
theorem Ev.cbuilt{g:Value}(e:∀P,nsIn (kW P) mainGlobals x=some none)(hv:bootBuiltins x=some g)(hn:x≠"__name__")(hx:autoParam ((compEnvC sc cl C E).kindOf x=some .globalImplicit) T0R)(hg:autoParam (E.globals=mainGlobals) T0R)(hb:autoParam (E.builtins=builtinsNs) T0R)(hk:autoParam (sc.kind = .function) T0R)(hd:autoParam ((x==("__debug__" : Str))=false) T0R):Ev c (compEnvC sc cl C E) ps nx (.Name x px) (.v g) nx:=by
 rintro z s O Q k
 have O':=O
 induction O with
 |mk F K N O D G a0 Z0=>
  refine Name_function_global (env:=compEnvC sc cl C E) hk hx (loadGlobal_builtin (env:=compEnvC sc cl C E) ?_ (mg_none_of c.X (topRead_of c.T).g (e _)) ?_ (((topRead_of c.T).builtins x hn).trans hv) (k _ _ _ (.refl _) O' rfl)) hd
  ·rw [show (compEnvC sc cl C E).globals=mainGlobals from hg]
   exact (topRead_of c.T).g.keeps F.keep
  ·rw [show (compEnvC sc cl C E).builtins=builtinsNs from hb]
   exact (topRead_of c.T).b.keeps F.keep
structure LessO(n:Nat)(ps:List (zA0×SV))(nx nx':List SO):Prop where
 ho:nx.take nx'.length=nx'
 lo:(ps.all fun p=>p.2.lo nx'.length)=true
 lo':(nx'.all fun o=>o.lo nx'.length)=true
 ge:ble n nx'.length=true
theorem On.lessO(O:On c ps nx z s)(h:LessO n₀ ps nx nx'):On c ps nx' ⟨z.as.take nx'.length,z.Z⟩ s:=O.trimO h.ho h.lo h.lo' h.ge
inductive EltS(c:Cx fn d n₀)(E:Env)(ps:List (zA0×SV))(nx:List SO)(elt:Expr):List Expr→Option PyData→Prop
 |one {y:PyData} {nx':List SO} (h:Ev c E ps nx elt (.d y) nx') (l:LessO n₀ ps nx' nx):EltS c E ps nx elt [] (some y)
 |no {ct:Expr} {nx':List SO} (h:EvB c E ps nx ct false nx') (l:LessO n₀ ps nx' nx):EltS c E ps nx elt [ct] none
 |yes {ct:Expr} {y:PyData} {nx' nx₂:List SO} (h:EvB c E ps nx ct true nx') (k:Ev c E ps nx' elt (.d y) nx₂) (l:LessO n₀ ps nx₂ nx):EltS c E ps nx elt [ct] (some y)
theorem EltS.ift{b:Bool}{y:PyData}(h:EvB c E ps nx ct b nx')(k:b=true→Ev c E ps nx' elt (.d y) nx')(l:LessO n₀ ps nx' nx):EltS c E ps nx elt [ct] (if b then some y else none):=by
 induction b with
 |true=>exact .yes h (k rfl) l
 |false=>exact .no h l
noncomputable def accN(g:Nat→Option PyData):Nat→List PyData
 |0=>[]
 |i+1=>accN g i++(g i).toList
theorem zKt(g:Nat→Option PyData):∀n,(accN g n).length≤n
 |0=>le_refl _
 |n+1=>by
  have h:=zKt g n
  show (accN g n++(g n).toList).length≤_
  cases g n<;>simp<;>omega
theorem zBr{g:Nat→Option PyData}{f:Nat→PyData}:∀{n:Nat},(∀i,i<n→g i=some (f i))→accN g n=(List.range n).map f
 |0,_=>rfl
 |n+1,h=>by
  rw [accN,zBr fun i hi=>h i (lt_succ_of_lt hi),h n (lt_succ_self n),range_succ,map_append]
  rfl
theorem zO4{Z:List (Addr×Obj)}{n:Nat}{hl:as.length=n}(O:On (c.cmp R' Z as n hl) ps nx z s)(h:z.as.length=n):as=z.as:=by
 obtain ⟨t,e⟩:=O.le_cmp.1
 have e2:=congrArg List.length e
 rw [length_append,h] at e2
 have:t=[]:=List.eq_nil_of_length_eq_zero (by have:=hl;show t.length=0;simp only at e2;lia)
 rw [e,this,append_nil]
theorem zQ1{n:Nat}{oC:Obj}{z':Wd}(h:NsAt z oC cs)(l:Wd.Le ⟨z.as,z.Z⟩ z')(hl:z.as.length=n):NsAt ⟨z'.as.take n,z'.Z⟩ oC cs:=by
 refine NsAt.mono h ⟨⟨[],?_⟩,l.2⟩
 obtain ⟨t,e⟩:=l.1
 rw [append_nil,e,List.take_append_of_le_length (by show n≤z.as.length;rw [hl];exact le_refl _),←hl,take_length]
theorem zVk{I C D:Addr}{oI oC:Obj}{ys:List Value}{res:List PyData}{y:PyData}{code:Code}{hl:as.length=nx₁.length}{hll:z.as.length=nx₁.length}{z':Wd}{F:Env}(hID:I≠D)(hDC:D≠C)(hRR:∀q∈RR,q.1≠I∧q.1≠C∧q.1≠D)(hyl:ys.length≤100000)(O:On (c.cmp ((I,oI)::(C,oC)::(D,LCg.lst ys)::RR) z.Z z.as nx₁.length hll) ps nx' z' s)(l:Wd.Le ⟨z.as,z.Z⟩ z')(hZ:∀q∈Z,q∈z.Z)(has:as=z.as)(h:Ev (c.cmp ((I,oI)::(C,oC)::(D,LCg.lst ys)::RR) z.Z z.as nx₁.length hll) F ps nx' elt (.d y) nx₂)(lo:LessO nx₁.length ps nx₂ nx₁)(n:NsAt z oC cs)(r:DRepL z.Z res ys):
  wpAny c.M c.A (eval elt F >>= fun v=>call (.builtin "list.append") [.ref D,v] >>= fun _=>pure ()) (fun _ s''=>wpAny c.M c.A (again code) (fun fl s'=>fl = .again code∧∃oC' ys' z',On (c.cmp ((I,oI)::(C,oC')::(D,LCg.lst ys')::RR) Z as nx₁.length hl) ps nx₁ z' s'∧NsAt z' oC' cs∧DRepL z'.Z (res++[y]) ys') noE s'') noE s:=
 wpAny_bind (h z' _ O _ fun z₂ s₂ val l₂ O₂ r₂=>wpAny_bind (yBa O₂ hID hDC (fun q hq=>(hRR q hq).2.2) hyl fun s'' O''=>wpAny_pure (wpAny_pure ⟨rfl,oC,ys++[val],_,(On.lessO O'' lo).uncmp hZ has,zQ1 n (l.trans l₂) hll,(r.mono (l.trans l₂).2).append (.cons r₂ .nil)⟩)))
theorem zDw{n:Nat}{tg:Expr}{nm:Nat→List (zA0×SV)}(g:Nat→Option PyData)(hn:n≤100000)(turn:∀i,i<n→∀(c':Cx fn d nx₁.length) (C:Addr),CompAt c c' C (nm i)→EltS c' (compEnvC sc cl C E) ps nx₁ elt ifs (g i)):
  ∀I D C Z as (hl:as.length=nx₁.length) i oI oC ys z s,I≠C∧I≠D∧D≠C→(∀q∈c.R,q.1≠I∧q.1≠C∧q.1≠D)→(as.take n₀=c.as₀∧n₀≤nx₁.length)→i<n→On (c.cmp ((I,oI)::(C,oC)::(D,LCg.lst ys)::c.R) Z as nx₁.length hl) ps nx₁ z s→NsAt z oC (nm i)→DRepL z.Z (accN g i) ys→
   wpAny c.M c.A (zNg elt tg iter ifs sc lpos cl E I D C) (fun fl s'=>fl = .again (.compLoop (.ListComp elt [⟨tg,iter,ifs,0⟩] sc lpos) 0 (.ref I) (.ref D) (compEnvC sc cl C E))∧∃oC' ys' z',On (c.cmp ((I,oI)::(C,oC')::(D,LCg.lst ys')::c.R) Z as nx₁.length hl) ps nx₁ z' s'∧NsAt z' oC' (nm i)∧DRepL z'.Z (accN g (i+1)) ys') noE s:=by
 intro I D C Z as hl i oI oC ys z s ne hRR ha hi O n r
 have hll:=O.lenA
 have O₁:=On.cmp (R':=(I,oI)::(C,oC)::(D,LCg.lst ys)::c.R) (h':=s.heap) (tk:=s.toks) O (fun _ _ h=>h) (fun q hq=>.inl hq) hll
 have le:=O.le_cmp
 have hzas:=zO4 O hll
 have T:=turn i hi ((c.cmp ((I,oI)::(C,oC)::(D,LCg.lst ys)::c.R) z.Z z.as nx₁.length hll)) C ⟨⟨oC,.tail _ (.head _),n⟩,rfl,by show z.as.take n₀=c.as₀;rw [←hzas];exact ha.1⟩
 have hyl:ys.length≤100000:=by rw [r.len];exact le_trans (zKt g i) (le_trans (le_of_lt hi) hn)
 unfold zNg
 rw [accN]
 generalize eg:g i=gi at T
 induction T with
 |one h lo=>
  refine wpAny_bind (wpAny_tests_nil ?_)
  exact wpAny_bind (zVk ne.2.1 ne.2.2 hRR hyl O₁ (.refl _) le.2 hzas h lo n r)
 |no h lo=>
  refine wpAny_bind (wpAny_tests_one (h z _ O₁ _ fun z' s' l' O'=>?_))
  exact wpAny_pure ⟨rfl,oC,ys,_,(On.lessO O' lo).uncmp le.2 hzas,zQ1 n l' hll,(append_nil _).symm▸r.mono l'.2⟩
 |yes h k lo=>
  refine wpAny_bind (wpAny_tests_one (h z _ O₁ _ fun z' s' l' O'=>?_))
  exact wpAny_bind (zVk ne.2.1 ne.2.2 hRR hyl O' l' le.2 hzas k lo n r)
theorem Ev.comp{n:Nat}{V:Nat→PyData}{out:List PyData}(g:Nat→Option PyData)(ho:accN g n=out)(hn:n≤100000)(h:Ev c E ps nx iter v nx₁)(src:SrcS c ps nx₁ v n V)(turn:∀i,i<n→∀(c':Cx fn d nx₁.length) (C:Addr),CompAt c c' C [(x,.d (V i))]→EltS c' (compEnvC sc cl C E) ps nx₁ elt ifs (g i))(hclos:closureFor sc E=pure cl)(hx:autoParam (sc.names.lookup x=some .local) T0R)(hcell:autoParam (∀y∈sc.names,y.2≠.cell) T0D)(hkind:autoParam (sc.kind = .function) T0R)(hnames:autoParam (∀y∈sc.names,y.2 = .local→sc.names.lookup y.1=some .local) T0D)(hs:autoParam (∀x,foldedSetIterable iter E x=pure x) T0I):
  Ev c E ps nx (.ListComp elt [⟨.Name x px,iter,ifs,0⟩] sc lpos) (.d (.list out)) nx₁:=
 ho▸Ev.compG (step:=zNg elt (.Name x px) iter ifs sc lpos cl E) (accN g) (fun _ _ _=>rfl) h src rfl (zDw g hn turn) hclos hcell hkind hnames (fun _ _ _ _ _ _ a b r=>zCr rfl (lookup_relabel_local hx) (zEf hkind) a b r) hs
theorem zGi{n:Nat}{V:Nat→PyData}{out:List PyData}{py spos:Pos}(g:Nat→Option PyData)(ho:accN g n=out)(hn:n≤100000)(h:Ev c c.env ps nx iter v nx₁)(src:SrcS c ps nx₁ v n V)(turn:∀i,i<n→∀(c':Cx fn d nx₁.length) (C:Addr),CompAt c c' C [(x,.d (V i))]→EltS c' (compEnvC sc cl C c.env) ps nx₁ elt ifs (g i))(hclos:closureFor sc c.env=pure cl)(hx:autoParam (sc.names.lookup x=some .local) T0R)(hcell:autoParam (∀y∈sc.names,y.2≠.cell) T0D)(hkind:autoParam (sc.kind = .function) T0R)(hnames:autoParam (∀y∈sc.names,y.2 = .local→sc.names.lookup y.1=some .local) T0D)(hs:autoParam (∀x,foldedSetIterable iter c.env x=pure x) T0I)(hsw:autoParam (swapsWith (.ListComp elt [⟨.Name x px,iter,ifs,0⟩] sc lpos) (some (.Name y py)) spos.line c.env=pure true) T0R)(hy:autoParam (fn.scope.names.lookup y=some .local) T0R):
  Ex c ps nx (.Assign [.Name y py] (.ListComp elt [⟨.Name x px,iter,ifs,0⟩] sc lpos) spos) ((y,.d (.list out))::ps) nx₁:=
 ho▸zK7 (step:=zNg elt (.Name x px) iter ifs sc lpos cl c.env) (accN g) (fun _ _ _=>rfl) h src rfl (zDw g hn turn) hclos hcell hkind hnames (fun _ _ _ _ _ _ a b r=>zCr rfl (lookup_relabel_local hx) (zEf hkind) a b r) hs hsw hy
noncomputable def zM7(g:Nat→Nat→PyData)(m:Nat→Nat):Nat→List PyData
 |0=>[]
 |i+1=>zM7 g m i++(List.range (m i)).map (g i)
theorem zKs{g:Nat→Nat→PyData}{m:Nat→Nat}{b:Nat}:∀{n:Nat},(∀i,i<n→m i≤b)→(zM7 g m n).length≤n*b
 |0,_=>by simp [zM7]
 |n+1,h=>by
  rw [zM7,length_append,length_map,length_range,Nat.succ_mul]
  exact Nat.add_le_add (zKs fun i hi=>h i (lt_succ_of_lt hi)) (h n (lt_succ_self n))
theorem Ev.comp2{n:Nat}{V:Nat→PyData}{out:List PyData}{m:Nat→Nat}{V₁:Nat→Nat→PyData}{v₁:Nat→SV}{i₁:Expr}{py:Pos}(g:Nat→Nat→PyData)(ho:zM7 g m n=out)(hn:n≤300)(hm:∀i,i<n→m i≤300)(h:Ev c E ps nx iter v nx₁)(src:SrcS c ps nx₁ v n V)(h2:∀i,i<n→∀(c':Cx fn d nx₁.length) (C:Addr),CompAt c c' C [(x,.d (V i))]→Ev c' (compEnvC sc cl C E) ps nx₁ i₁ (v₁ i) nx₁)(src2:∀i,i<n→∀(c':Cx fn d nx₁.length),SrcS c' ps nx₁ (v₁ i) (m i) (V₁ i))(turn:∀i j,i<n→j<m i→∀(c':Cx fn d nx₁.length) (C:Addr),CompAt c c' C [(y,.d (V₁ i j)),(x,.d (V i))]→EltS c' (compEnvC sc cl C E) ps nx₁ elt [] (some (g i j)))(hclos:closureFor sc E=pure cl)(hx:autoParam (sc.names.lookup x=some .local) T0R)(hy:autoParam (sc.names.lookup y=some .local) T0R)(hxy:autoParam ((y==x)=false) T0R)(hcell:autoParam (∀y∈sc.names,y.2≠.cell) T0D)(hkind:autoParam (sc.kind = .function) T0R)(hnames:autoParam (∀y∈sc.names,y.2 = .local→sc.names.lookup y.1=some .local) T0D)(hs:autoParam (∀x,foldedSetIterable iter E x=pure x) T0I)(hs₁:∀C x,foldedSetIterable i₁ (compEnvC sc cl C E) x=pure x:=by intro _ _;rfl):
  Ev c E ps nx (.ListComp elt [⟨.Name x px,iter,[],0⟩,⟨.Name y py,i₁,[],0⟩] sc lpos) (.d (.list out)) nx₁:=by
 refine ho▸Ev.compG (step:=zX6 elt (.Name x px) iter (.Name y py) i₁ sc lpos cl E) (zM7 g m) (fun _ _ _=>zXc _ _ _) h src rfl ?_ hclos hcell hkind hnames (fun _ _ _ _ _ _ a b r=>zCr rfl (lookup_relabel_local hx) (zEf hkind) a b r) hs
 intro I D C Z as hl i oI oC ys z s ne hRR ha hi O n r
 have hll:=O.lenA
 have O₁:=On.cmp (R':=(I,oI)::(C,oC)::(D,LCg.lst ys)::c.R) (h':=s.heap) (tk:=s.toks) O (fun _ _ h=>h) (fun q hq=>.inl hq) hll
 have le:=O.le_cmp
 have hzas:=zO4 O hll
 have ha':z.as.take n₀=c.as₀:=by rw [←hzas];exact ha.1
 unfold zX6
 refine wpAny_bind (h2 i hi ((c.cmp ((I,oI)::(C,oC)::(D,LCg.lst ys)::c.R) z.Z z.as nx₁.length hll)) C ⟨⟨oC,.tail _ (.head _),n⟩,rfl,ha'⟩ z _ O₁ _ fun z' s' xv l' O' r'=>?_)
 refine wpAny_bind (wpAny_standAt (wpAny_bind (wpAny_of_eq (hs₁ C _) ?_)))
 refine wpAny_bind (wpAny_holding ?_)
 refine src2 i hi _ z' s' xv O' r' _ _ fun o fp P St hfr W hob hfp hV st=>?_
 have hl':=O'.lenA
 have has':z.as=z'.as:=zO4 O' hl'
 have low:∀q∈(I,oI)::(C,oC)::(D,LCg.lst ys)::c.R,q.1≠s'.heap.objs.size:=fun q hq=>ne_of_lt (Heap.lt_size (O'.atR hq).1)
 have hIC:=Ne.symm (low _ (.tail _ (.head _)))
 have hID:=Ne.symm (low _ (.tail _ (.tail _ (.head _))))
 have hRR':∀q∈(I,oI)::c.R,q.1≠s'.heap.objs.size∧q.1≠C∧q.1≠D:=fun q hq=>by
  rcases mem_cons.mp hq with rfl|hq
  ·exact ⟨low _ (.head _),ne.1,ne.2.1⟩
  ·exact ⟨low _ (.tail _ (.tail _ (.tail _ hq))),(hRR q hq).2⟩
 have O₂:=On.cmp (R':=(s'.heap.objs.size,o)::(C,oC)::(D,LCg.lst ys)::(I,oI)::c.R) (h':=s'.heap.push o) (tk:=s'.toks) O' (fun b o e=>Heap.get?_push_of_some _ e) (fun q hq=>by
  rcases mem_cons.mp hq with rfl|hq
  ·exact .inr ⟨le_refl _,Heap.get?_push_size _ hfr⟩
  rcases mem_cons.mp hq with rfl|hq
  ·exact .inl (.tail _ (.head _))
  rcases mem_cons.mp hq with rfl|hq
  ·exact .inl (.tail _ (.tail _ (.head _)))
  rcases mem_cons.mp hq with rfl|hq
  ·exact .inl (.head _)
  ·exact .inl (.tail _ (.tail _ (.tail _ hq)))) hl'
 refine wpAny_bind (wpAny_runOwn ?_)
 show codeAny c.M c.A _ _ _
 have key:∀R:Result→Shared→Prop,(∀s₄,wpAny c.M c.A (again (.compLoop (.ListComp elt [⟨.Name x px,iter,[],0⟩,⟨.Name y py,i₁,[],0⟩] sc lpos) 0 (.ref I) (.ref D) (compEnvC sc cl C E)))
    (fun fl s'=>fl = .again (.compLoop (.ListComp elt [⟨.Name x px,iter,[],0⟩,⟨.Name y py,i₁,[],0⟩] sc lpos) 0 (.ref I) (.ref D) (compEnvC sc cl C E))∧∃oC' ys' z',On (c.cmp ((I,oI)::(C,oC')::(D,LCg.lst ys')::c.R) Z as nx₁.length hl) ps nx₁ z' s'∧NsAt z' oC' [(x,.d (V i))]∧DRepL z'.Z (zM7 g m (i+1)) ys') noE s₄→R (.ok .next) s₄)→
   codeAny c.M c.A (.compLoop (.ListComp elt [⟨.Name x px,iter,[],0⟩,⟨.Name y py,i₁,[],0⟩] sc lpos) 1 (.ref s'.heap.objs.size) (.ref D) (compEnvC sc cl C E)) R {s' with heap:=s'.heap.push o,toks:=s'.toks}:=by
  intro R hR
  refine zZf (c:=c) (nx:=nx₁) (RR:=(I,oI)::c.R) (hl:=hl') (V₁ i) [(x,.d (V i))] (fun j=>zM7 g m i++(List.range j).map (g i)) (yCw _ _ _) W hob hfp hV (zCr rfl (lookup_relabel_local hy) (zEf hkind) hIC ne.2.2 fun q hq=>(hRR' q hq).2.1) hIC hID ne.2.2 hRR' (fun _ _ _ h=>h.tail (by show (match y==x with|true=>_|false=>_)=_;rw [hxy];rfl)) st O₂ (NsAt.mono n (l'.trans (.refl _))) (by
   show DRepL z'.Z (zM7 g m i++[]) ys
   rw [append_nil]
   exact r.mono l'.2) (fun j oI₁ oC₁ ys₁ z₁ s₁ hj O₁ n₁ r₁=>?_) (fun oC₄ ys₄ z₄ s₄ O₄ n₄ r₄=>hR _ ?_)
  ·have hll₁:=O₁.lenA
   have O₃:=On.cmp (R':=(s'.heap.objs.size,oI₁)::(C,oC₁)::(D,LCg.lst ys₁)::(I,oI)::c.R) (h':=s₁.heap) (tk:=s₁.toks) O₁ (fun _ _ h=>h) (fun q hq=>.inl hq) hll₁
   have has₁:=zO4 O₁ hll₁
   have hyl:ys₁.length≤100000:=by
    have b1:=zKs (g:=g) (m:=m) (b:=300) (n:=i) fun q hq=>hm q (lt_trans hq hi)
    have b2:=hm i hi
    have b3:i*300≤300*300:=Nat.mul_le_mul_right _ (by lia)
    rw [r₁.len,length_append,length_map,length_range]
    lia
   have T:=turn i j hi hj (c.cmp ((s'.heap.objs.size,oI₁)::(C,oC₁)::(D,LCg.lst ys₁)::(I,oI)::c.R) z₁.Z z₁.as nx₁.length hll₁) C ⟨⟨oC₁,.tail _ (.head _),n₁⟩,rfl,by show z₁.as.take n₀=c.as₀;rw [←has₁,←has'];exact ha'⟩
   unfold yAs
   rw [range_succ,map_append,←append_assoc]
   cases T with
   |one h lo=>exact wpAny_bind (zVk hID ne.2.2 hRR' hyl O₃ (.refl _) O₁.le_cmp.2 has₁ h lo n₁ r₁)
  ·have hl₄:=O₄.lenA
   have O₅:=On.cmp (R':=(I,oI)::(C,oC₄)::(D,LCg.lst ys₄)::c.R) (h':=s₄.heap) (tk:=s₄.toks) O₄ (fun _ _ h=>h) (fun q hq=>by
    rcases mem_cons.mp hq with rfl|hq
    ·exact .inl (.tail _ (.tail _ (.head _)))
    rcases mem_cons.mp hq with rfl|hq
    ·exact .inl (.head _)
    rcases mem_cons.mp hq with rfl|hq
    ·exact .inl (.tail _ (.head _))
    ·exact .inl (.tail _ (.tail _ (.tail _ hq)))) hl₄
   have has₄:=zO4 O₄ hl₄
   exact wpAny_pure ⟨rfl,oC₄,ys₄,z₄,O₅.uncmp (fun q hq=>O₄.le_cmp.2 _ (l'.2 _ (le.2 _ hq))) (hzas.trans (has'.trans has₄)),n₄,r₄⟩
 exact zMo (key _ fun _ h=>h) (W.self 0 _ _ _ st (key _ fun _ h=>h))
end
noncomputable def zOi(x y:Str):Int:=b2i (decide (y.cps.toList<x.cps.toList))-b2i (decide (x.cps.toList<y.cps.toList))
theorem yAx{prog:Program}{w:World}{A:Around}{E:Value→Shared→Prop}{s:Shared}{env:Env}{body orelse:List Stmt}{hs:List ExceptHandler}{pos:Pos}{Q:Flow→Shared→Prop}(h:wpAny (model prog w) A (execs body env) (fun f s'=>match f with | .next=>wpAny (model prog w) A (execs orelse env) Q E s'|f=>Q f s') (fun _ _=>False) s):
  wpAny (model prog w) A (exec (.Try body hs orelse [] pos) env) Q E s:=by
 rw [arm_exec_Try]
 refine wpAny_bind (wpAny_standAt ?_)
 unfold tryStmt
 rw [if_pos (by decide)]
 refine wpAny_bind (wpAny_attempt (wpAny_mono h (fun f s' hf=>?_) fun _ _ x=>x.elim))
 induction f<;>first|exact hf|exact wpAny_pure hf
section
variable {E:Env}{fn:Fn}{d n₀:Nat}{c:Cx fn d n₀}{ps:List (zA0×SV)}{nx nx' nx₁:List SO}{z:Wd}{s:Shared}{e:Expr}{pos px py tp:Pos}{v:SV}{x y:zA0}{k:Nat}{Q:Flow→Shared→Prop}{bs:List (List Stmt)}{body rest:List Stmt}
theorem CmpS.gtT{i j:zA0}:CmpS c ps nx .Gt (.d (.str i)) (.d (.str j)) (decide (j.cps.toList<i.cps.toList)):=fun z s a b O h1 h2 Q k=>by
 obtain ⟨t,rfl⟩:=DRep.str_ h1
 obtain ⟨u,rfl⟩:=DRep.str_ h2
 exact PySem.P.gt_str (k _ O)
theorem BinS.subB{i j:Bool}:BinS c ps nx .Sub (.d (.bool i)) (.d (.bool j)) (.d (.int (b2i i-b2i j))) nx:=fun z s a b O h1 h2 Q k=>by
 cases DRep.bool_ h1
 cases DRep.bool_ h2
 exact PyProof.Rows.sub_bool (k z _ _ (.refl _) (O.toks _) .int)
theorem CallS.index{i j:zA0}(h:0≤Txt.find i j):CallS c ps nx (.builtin "str.index") [.d (.str i),.d (.str j)] [] (.d (.int (Txt.find i j))) nx:=fun z s xs O hx Q q=>by
 obtain ⟨_,_,rfl,r,r'⟩:=hx.c2
 obtain ⟨t,rfl⟩:=DRep.str_ r
 obtain ⟨t',rfl⟩:=DRep.str_ r'
 refine PyProof.Rows.index_or rfl (fun e=>?_) fun _ _=>q z _ _ (.refl _) (O.toks _) .int
 rw [e] at h
 exact absurd h (by decide)
theorem J.tryOk{hs:List ExceptHandler}(k:J c Q ps nx (body::rest::bs)):J c Q ps nx ((.Try body hs [] [] pos::rest)::bs):=fun z s O=>
 wpAny_execs_cons (yAx (wpAny_mono (k z s O) (fun f s' h=>by induction f<;>first|exact wpAny_execs_nil h|exact h) fun _ _ x=>x))
theorem Ex.tup2L{a b:PyData}{k:Nat}(h:Ev c c.env ps nx e (.d (.list [a,b])) nx')(hx:autoParam (fn.scope.names.lookup x=some .local) T0R)(hy:autoParam (fn.scope.names.lookup y=some .local) T0R)(hs:autoParam (swapsWithSole [.Tuple [.Name x px,.Name y py] k tp] e pos.line c.env=pure false) T0R)(hw:autoParam (swappedStores [.Tuple [.Name x px,.Name y py] k tp] e c.env=pure none) T0R):
  Ex c ps nx (.Assign [.Tuple [.Name x px,.Name y py] k tp] e pos) ((y,.d b)::(x,.d a)::ps) nx':=fun z s O Q q=>by
 refine Assign_Tuple (h z s O _ fun z₁ s₁ v l₁ O₁ r=>?_) hs hw
 obtain ⟨t,vs,n,rfl,hz,hr⟩:=DRep.list_ r
 obtain ⟨v1,_,rfl,r1,hr⟩:=hr.cons_
 obtain ⟨v2,_,rfl,r2,hr⟩:=hr.cons_
 cases hr
 refine O₁.same fun m news F N hZ g=>?_
 refine kun_list F N ⟨_,(N _ (hZ _ hz)).1,rfl,_,rfl⟩ rfl rfl rfl fun h' F' N'=>?_
 refine assignInOrder_cons (PyProof.Rows.assign_Name (zB5 (g h' s₁.toks F' N') (v:=.d a) r1 (fun s₂ O₂=>?_) hx))
 exact assignInOrder_cons (PyProof.Rows.assign_Name (zB5 O₂ (v:=.d b) r2 (fun s₃ O₃=>assignInOrder_nil (q z₁ s₃ O₃)) hy))
end
noncomputable def zYq:Fn:=⟨.ofString "_strcoll",zAl (stAt 19),273,.ref 272,fun _=>[],rfl⟩
theorem zGf{x y:zA0}:Con 0 273 [.d (.str x),.d (.str y)] [] [] (.d (.int (zOi x y))) []:=by
 refine Con.enterN (fn:=zYq) (fun _=>rfl) [] [] ?hbody (fun _=>.nil) (fun P s a1 a2 X=>BindsTo.of_eq rfl)
 intro c Q ret fin
 conv=>arg 5;arg 1;whnf
 exact J.ret (Ev.bin (Ev.cmp (.loc rfl) (.loc rfl) .gtT) (Ev.cmp (.loc rfl) (.loc rfl) .ltT) .subB) fun z s r O h=>ret _ _ _ _ O h
noncomputable def zYr:Fn:=⟨.ofString "_law_leader",zAl (stAt 22),287,.ref 286,fun _=>[],rfl⟩
theorem zY9{a:PyData}{l:List PyData}(hl:l.length≤1000):Con 0 287 [.d (.list (a::l))] [] [] (.d a) []:=by
 refine Con.enterN (fn:=zYr) (fun _=>rfl) [] [] ?hbody (fun _=>.nil) (fun P s a1 X=>BindsTo.of_eq rfl)
 intro c Q ret fin
 conv=>arg 5;arg 1;whnf
 exact J.ret (Ev.sub (.loc rfl) .int (SubS.itemD (j:=0) (by rw [length_cons];(exact lt_of_le_of_lt (by assumption) (le_of_ble_eq_true rfl))) rfl)) fun z s r O h=>ret _ _ _ _ O h
noncomputable def zYv:Fn:=⟨.ofString "_law_tail",zAl (stAt 28),327,.ref 326,fun _=>[],rfl⟩
theorem zYg{x:zA0}(hx:x.length≤10000)(hf:0≤Txt.find x (.ofString ".")):Con 0 327 [.d (.str x)] [] [] (.d (.str (Txt.slice x (some (Txt.find x (.ofString "."))) none))) []:=by
 refine Con.enterN (fn:=zYv) (fun _=>rfl) [] [] ?hbody (fun _=>.nil) (fun P s a1 X=>BindsTo.of_eq rfl)
 intro c Q ret fin
 conv=>arg 5;arg 1;whnf
 exact J.ret (Ev.sliceT (.loc rfl) (.some (Ev.meth (.loc rfl) (MethS.str PySem.F.slot_str_index PySem.F.type_str_index) (.cons .str .nil) (CallS.index hf) .b)) .none (by (exact le_trans (by assumption) (le_of_ble_eq_true rfl)))) fun z s r O h=>ret _ _ _ _ O h
noncomputable def yBt:Fn:=⟨.ofString "_law_label",zAl (stAt 29),334,.ref 333,fun _=>[],rfl⟩
theorem zOe{x:zA0}(hx:x.length≤10000)(hf:0≤Txt.find x (.ofString ".")):Con 0 334 [.d (.str x)] [] [] (.d (.str (Txt.slice x none (some (Txt.find x (.ofString ".")))))) []:=by
 refine Con.enterN (fn:=yBt) (fun _=>rfl) [] [] ?hbody (fun _=>.nil) (fun P s a1 X=>BindsTo.of_eq rfl)
 intro c Q ret fin
 conv=>arg 5;arg 1;whnf
 exact J.ret (Ev.sliceT (.loc rfl) .none (.some (Ev.meth (.loc rfl) (MethS.str PySem.F.slot_str_index PySem.F.type_str_index) (.cons .str .nil) (CallS.index hf) .b)) (by omega)) fun z s r O h=>ret _ _ _ _ O h
noncomputable def yBq:Fn:=⟨.ofString "_build_localename",zAl (stAt 20),280,.ref 279,fun _=>[],rfl⟩
noncomputable abbrev lang:Option zA0→PyData
 |none=>.none
 |some x=>.str x
noncomputable abbrev blS(a:Option zA0)(y:zA0):zA0:=(a.getD (.ofString "C") ++ .ofString ".")++y
theorem zO9{a:Option zA0}{y:zA0}{t:PyData}(hy:y.length≤1000)(ha:∀x,a=some x→x.length≤1000)(ht:t = .tuple [lang a,.str y]∨t = .list [lang a,.str y]):zEa yBq 0 [(.ofString "localetuple",.d t)] [] (zAf (stAt 20)) (.d (.str (blS a y))) []:=by
 intro c Q ret fin
 conv=>arg 5;arg 1;whnf
 refine J.tryOk ?_
 refine J.seq (ps':=(.ofString "encoding",.d (.str y))::(.ofString "language",.d (lang a))::[(.ofString "localetuple",.d t)]) (nx':=[]) ?e ?k
 case e=>
  rcases ht with rfl|rfl
  ·exact Ex.tup2 (.loc rfl)
  ·exact Ex.tup2L (.loc rfl)
 case k=>
  induction a with
  |none=>
   refine J.ift (EvB.cmp (.loc rfl) .non .isN) rfl (J.seq (Ex.assign .str) (J.pop ?_))
   refine J.iff (EvB.cmp (.loc rfl) .non .isX) rfl ?_
   exact J.ret (Ev.bin (Ev.bin (.loc rfl) .str (BinS.addT (by decide))) (.loc rfl) (BinS.addT (by rw [sizeLine_eq,Str.length_append];show 1+1+_≤_;lia))) fun z s r O h=>ret _ _ _ _ O h
  |some x=>
   have hx:=ha x rfl
   refine J.iff (EvB.cmp (.loc rfl) .non .isX) rfl (J.pop ?_)
   refine J.iff (EvB.cmp (.loc rfl) .non .isX) rfl ?_
   exact J.ret (Ev.bin (Ev.bin (.loc rfl) .str (BinS.addT (by rw [sizeLine_eq,show (Str.ofString ".").length=1 by decide];(exact lt_of_le_of_lt (by assumption) (le_of_ble_eq_true rfl))))) (.loc rfl) (BinS.addT (by rw [sizeLine_eq,Str.length_append,show (Str.ofString ".").length=1 by decide];lia))) fun z s r O h=>ret _ _ _ _ O h
theorem yBh{a:Option zA0}{y:zA0}(hy:y.length≤1000)(ha:∀x,a=some x→x.length≤1000):Con 0 280 [.d (.tuple [lang a,.str y])] [] [] (.d (.str (blS a y))) []:=
 Con.enterN (fn:=yBq) (fun _=>rfl) [] [] (zO9 hy ha (.inl rfl)) (fun _=>.nil) (fun P s a1 X=>BindsTo.of_eq rfl)
theorem yBg{a:Option zA0}{y:zA0}(hy:y.length≤1000)(ha:∀x,a=some x→x.length≤1000):Con 0 280 [.d (.list [lang a,.str y])] [] [] (.d (.str (blS a y))) []:=
 Con.enterN (fn:=yBq) (fun _=>rfl) [] [] (zO9 hy ha (.inr rfl)) (fun _=>.nil) (fun P s a1 X=>BindsTo.of_eq rfl)
section
variable {E:Env}{fn:Fn}{d n₀:Nat}{c:Cx fn d n₀}{ps:List (zA0×SV)}{nx:List SO}{x:zA0}
theorem MethS.ip:MethS c ps nx (.v (.ref 55)) (.ofString "search") (.builtin "re.Pattern.search") [.v (.ref 55)]:=fun z s a O r pl Q q=>by
 subst r
 refine O.growZ fun m news F N _ _=>?_
 exact zW0 F c.X (q s _ O (.cons rfl .nil))
theorem CallS.ip(hx:x.length≤100000)(hd:zPy x):CallS c ps nx (.builtin "re.Pattern.search") [.v (.ref 55),.d (.str x)] [] (.d .none) nx:=fun z s xs O hx' Q q=>by
 obtain ⟨_,_,rfl,r,r'⟩:=hx'.c2
 subst r
 obtain ⟨t',rfl⟩:=DRep.str_ r'
 refine O.growZ fun m news F N _ _=>?_
 exact zP9 F c.X hx hd (q z s _ (.refl _) O .none)
end
theorem yDu(P:Params):nsIn (kW P) mainGlobals (.ofString "IPV4_RE")=some (some (.ref 55)):=by kernel_rfl
theorem zSj(P:Params):nsIn (kW P) mainGlobals (.ofString "HEADER_JOIN_TOKEN_RE")=some (some (.ref 50)):=by kernel_rfl
theorem yBy(P:Params):nsIn (kW P) mainGlobals (.ofString "is_HDN")=some (some (.ref 62)):=by kernel_rfl
theorem q62(P:Params):keepIn (kW P) (.ref 62)=true:=by kernel_rfl
noncomputable def yBs:Fn:=⟨.ofString "is_HDN",zAl (stAt 6),62,.ref 61,fun _=>[],rfl⟩
theorem yBj{x:zA0}(h0:1≤x.length)(hx:x.length≤100000)(hn:zPy x)(h1:(x == .ofString "")=false)(h2:(Txt.item x 0 == .ofString ".")=false)(h3:(Txt.item x (-1) == .ofString ".")=false):Con 0 62 [.d (.str x)] [] [] (.d (.bool true)) []:=by
 refine Con.enterN (fn:=yBs) (fun _=>rfl) [] [] ?hbody (fun _=>.nil) (fun P s a1 X=>BindsTo.of_eq rfl)
 intro c Q ret fin
 conv=>arg 5;arg 1;whnf
 refine J.iff (EvB.plain (Ev.meth (.glob yDu) .ip (.cons (.loc rfl) .nil) (CallS.ip hx hn) .b) .non) rfl (J.pop ?_)
 refine J.iff (EvB.cmp (.loc rfl) .str .eqT) h1 (J.pop ?_)
 refine J.iff (EvB.orF (EvB.cmp (Ev.sub (.loc rfl) .int (SubS.text (by decide) (by lia) (by (exact ofNat_lt.mpr (by assumption))))) .str .eqT) h2 (EvB.orF (EvB.cmp (Ev.sub (.loc rfl) .m1 (SubS.text (by decide) (by lia) (by (exact natCast_nonneg _)))) .str .eqT) h3 .orN)) rfl (J.pop ?_)
 exact J.ret .bool fun z s r O h=>ret _ _ _ _ O h
noncomputable def zVs:Fn:=⟨.ofString "reach",zAl (stAt 7),69,.ref 68,fun _=>[],rfl⟩
theorem zVb{x:zA0}(h0:1≤x.length)(hx:x.length≤100000)(hn:zPy x)(h1:(x == .ofString "")=false)(h2:(Txt.item x 0 == .ofString ".")=false)(h3:(Txt.item x (-1) == .ofString ".")=false):Con 1 69 [.d (.str x)] [] [] (.d (.str (zBz x))) []:=by
 refine Con.enterN (fn:=zVs) (fun _=>rfl) [] [] ?hbody (fun _=>.nil) (fun P s a1 X=>BindsTo.of_eq rfl)
 intro c Q ret fin
 conv=>arg 5;arg 1;whnf
 refine J.seq (Ex.assign (Ev.meth (.loc rfl) (MethS.str PySem.F.slot_str_find PySem.F.type_str_find) (.cons .str .nil) .find .b)) ?_
 unfold zBz at ret
 refine J.ite (EvB.cmp (.loc rfl) .int .geI) (fun hb=>?_) fun hb=>J.pop ?_
 ·rw [if_pos (of_decide_eq_true hb)] at ret
  refine J.seq (Ex.assign (Ev.sliceT (.loc rfl) (.some (Ev.bin (.loc rfl) .int .addI)) .none hx)) ?_
  have hb:=PyProof.Txt.length_slice_le x (some (Txt.find x (.ofString ".")+1)) none
  generalize Txt.slice x (some (Txt.find x (.ofString ".")+1)) none=b at ret hb ⊢
  refine J.seq (Ex.assign (Ev.meth (.loc rfl) (MethS.str PySem.F.slot_str_find PySem.F.type_str_find) (.cons .str .nil) .find .b)) ?_
  refine J.ite (EvB.and (EvB.plain (Ev.call (.glob yBy) (.cons (.loc rfl) .nil) (CallS.con0 (yBj h0 hx hn h1 h2 h3) rfl) (.k q62)) .bool) fun _=>EvB.and (EvB.or (EvB.cmp (.loc rfl) .int .geI) fun _=>EvB.or (EvB.cmp (.loc rfl) .str .eqT) fun _=>.orN) fun _=>.andN) (fun hb=>?_) fun hb=>J.pop (J.pop ?_)
  ·rw [if_pos (by simpa using hb)] at ret
   exact J.ret (Ev.bin .str (.loc rfl) (BinS.addT (by rw [sizeLine_eq,show (Str.ofString ".").length=1 by decide];lia))) fun z s r O h=>ret _ _ _ _ O h
  ·rw [if_neg (by simpa using hb)] at ret
   exact J.ret (.loc rfl) fun z s r O h=>ret _ _ _ _ O h
 ·rw [if_neg (of_decide_eq_false hb)] at ret
  exact J.ret (.loc rfl) fun z s r O h=>ret _ _ _ _ O h
section
variable {w:World}{A:Around}{E:Value→Shared→Prop}{s:Shared}{h₀:Heap}{L:Addr}{m:Str→Option Value}{news:List (Addr×Obj)}
theorem zNl{x:Str}{t:Tok}{j:Nat}{Q:Value→Shared→Prop}(F:Fr h₀ L s.heap m)(X:(kW w.params).In h₀)(hx:x.length≤100000)(hj:j<x.cps.size)(ht:Rx.tok (x.cps.getD j 0)=true)(hb:∀i,i<j→Rx.tok (x.cps.getD i 0)=false)(hn:j+1<x.cps.size→Rx.tok (x.cps.getD (j+1) 0)=false)(h:Q (.ref (s.heap.objs.size+1)) {s with heap:=(s.heap.push (tup2 (.int j 0) (.int (j+1:Nat) 0) 0)).push (yCg x t s.heap.objs.size)}):
  wpAny (model pw w) A (call (.builtin "re.Pattern.search") [.ref 50,.str x t]) Q E s:=by
 have hl:x.cps.size≤100000:=hx
 have hlen:1=((range' j (min 4294967295 (x.cps.size-j))).takeWhile fun i=>Rx.tok (x.cps.getD i 0)).length:=by
  have e1:min 4294967295 (x.cps.size-j)=(x.cps.size-j-1)+1:=by lia
  rw [e1,List.range'_succ,List.takeWhile_cons,ht]
  by_cases h2:j+1<x.cps.size
  ·have e2:x.cps.size-j-1=(x.cps.size-j-2)+1:=by omega
   rw [e2,List.range'_succ,List.takeWhile_cons,hn h2]
   rfl
  ·have e2:x.cps.size-j-1=0:=by omega
   rw [e2]
   rfl
 obtain ⟨fi,sn,he⟩:=Rx.search_hit x.cps j hj ht hb 1 hlen
 refine RF.search_found (k:=2*j+5) (j:=j) (n:=1) (fi:=fi) (sn:=sn) (inK X F 50 _ rfl) rfl rfl (inK X F 49 _ rfl) rfl (lt_of_le_of_lt hx (by decide)) ?_ (by lia) h
 rw [zHe code_49]
 exact he
end
noncomputable abbrev zEw(j:Nat):SO:=.is fun _ _ o=>o=tup2 (.int j 0) (.int (j+1:Nat) 0) 0
section
variable {E:Env}{fn:Fn}{d n₀:Nat}{c:Cx fn d n₀}{ps:List (zA0×SV)}{nx nx₁:List SO}{z:Wd}{s:Shared}{x:zA0}{j k ck:Nat}{o:Expr}{pos:Pos}
theorem MethS.tok:MethS c ps nx (.v (.ref 50)) (.ofString "search") (.builtin "re.Pattern.search") [.v (.ref 50)]:=fun z s a O r pl Q q=>by
 subst r
 refine O.growZ fun m news F N _ _=>?_
 exact zVz F c.X (q s _ O (.cons rfl .nil))
theorem CallS.tokN(hx:x.length≤100000)(hd:∀i,i<x.cps.size→Rx.tok (x.cps.getD i 0)=false):CallS c ps nx (.builtin "re.Pattern.search") [.v (.ref 50),.d (.str x)] [] (.d .none) nx:=fun z s xs O hx' Q q=>by
 obtain ⟨_,_,rfl,r,r'⟩:=hx'.c2
 subst r
 obtain ⟨t',rfl⟩:=DRep.str_ r'
 refine O.growZ fun m news F N _ _=>?_
 exact zG4 F c.X hx hd (q z s _ (.refl _) O .none)
theorem CallS.tok(hx:x.length≤100000)(hj:j<x.cps.size)(ht:Rx.tok (x.cps.getD j 0)=true)(hb:∀i,i<j→Rx.tok (x.cps.getD i 0)=false)(hn:j+1<x.cps.size→Rx.tok (x.cps.getD (j+1) 0)=false):
  CallS c ps nx (.builtin "re.Pattern.search") [.v (.ref 50),.d (.str x)] [] (.r (nx.length+1)) (nx++[zEw j]++[.mat x nx.length]):=fun z s xs O hx' Q q=>by
 obtain ⟨_,_,rfl,r,r'⟩:=hx'.c2
 subst r
 obtain ⟨t',rfl⟩:=DRep.str_ r'
 refine O.grow fun m news F N _ g=>?_
 refine zNl F c.X hx hj ht hb hn ?_
 refine g (zEw j) _ _ s.toks (fun _ _=>rfl) (F.push _) (N.push F _) fun z₁ l₁ O₁ r₁=>?_
 obtain ⟨a₁,h₁,e₁⟩:=r₁
 cases e₁
 refine O₁.grow fun m news F N _ g=>?_
 refine g (.mat x nx.length) (yCg x t' s.heap.objs.size) _ s.toks (fun z' l=>⟨t',_,by obtain ⟨a,e,e2⟩:=SRep.mono l (sv:=.r nx.length) ⟨_,h₁,rfl⟩;cases e2;exact e,rfl⟩) (F.push _) (N.push F _) fun z₂ l₂ O₂ r₂=>?_
 rw [length_append] at r₂
 dsimp only at O₂ r₂
 rw [Heap.size_push] at r₂
 exact q z₂ _ _ (l₁.trans l₂) O₂ r₂
theorem On.mat(O:On c ps nx z s){a:Addr}(ha:z.as[k]? = some a)(hk:nth nx k = .mat x ck)(hc:nth nx ck=zEw j):∃m news t d,Fr c.h₀ c.L s.heap m∧News c.h₀ c.L s.heap news∧(a,zLj x t x.cps.size d)∈news∧(d,tup2 (.int j 0) (.int (j+1:Nat) 0) 0)∈news:=by
 refine O.obj ha fun m o news g F N U ro _ hO _=>?_
 rw [hk] at ro
 obtain ⟨t,d,hd,rfl⟩:=ro
 obtain ⟨ob,hm,hr⟩:=hO ck d hd
 rw [hc] at hr
 subst hr
 exact ⟨m,news,t,d,F,N,zA2 U,hm⟩
theorem MethS.span(hk:nth nx k = .mat x ck)(hc:nth nx ck=zEw j):MethS c ps nx (.r k) (.ofString "span") (.builtin "re.Match.span") [.r k]:=fun z s a O r pl Q q=>by
 obtain ⟨a,ha,rfl⟩:=r
 obtain ⟨m,news,t,d,F,N,hm,_⟩:=O.mat ha hk hc
 exact zZ7 N hm (q s _ O (.cons ⟨a,ha,rfl⟩ .nil))
theorem CallS.span(hk:nth nx k = .mat x ck)(hc:nth nx ck=zEw j):CallS c ps nx (.builtin "re.Match.span") [.r k,.d (.int 0)] [] (.d (.tuple [.int j,.int (j+1:Nat)])) nx:=fun z s xs O hx Q q=>by
 obtain ⟨_,us,rfl,⟨a,ha,rfl⟩,h2⟩:=hx.cons_
 obtain ⟨b,us,rfl,hb,h3⟩:=h2.cons_
 obtain ⟨u,rfl⟩:=DRep.int_ hb
 rw [h3.nil_]
 refine O.growZD fun m news F N _ ho g=>?_
 obtain ⟨ob,hm,ro⟩:=ho k a ha
 rw [hk] at ro
 obtain ⟨t,dd,hd,rfl⟩:=ro
 obtain ⟨ob,hm',hr⟩:=ho ck dd hd
 rw [hc] at hr
 subst hr
 refine yAr F N hm hm' fun p h' tk t1 t2 F' N' lt=>?_
 refine g _ _ h' tk F' N' (fun p hp=>ne_of_lt (lt p hp)) fun z' le hz O'=>?_
 exact q z' _ _ le O' (.tuple hz (.cons .int (.cons .int .nil)))
theorem Ev.mstr(ho:Ev c c.env ps nx o (.r k) nx₁)(hk:nth nx₁ k = .mat x ck)(hc:nth nx₁ ck=zEw j)(hev:autoParam (eval (.Attribute o (.ofString "string") pos) c.env=(do
     let x ←eval o c.env
     standAt pos.atName
     let r ←holding [x] (getAttr x (.ofString "string") true)
     letTemporaryGo o x r
     pure r)) T0R):Ev c c.env ps nx (.Attribute o (.ofString "string") pos) (.d (.str x)) nx₁:=fun z s O Q q=>
 Attribute_any_ (ho z s O _ fun z₁ s₁ a₁ l₁ O₁ r₁=>by
  obtain ⟨a,ha,rfl⟩:=r₁
  obtain ⟨m,news,t,d,F,N,hm,_⟩:=O₁.mat ha hk hc
  exact yCu N hm fun tk=>q z₁ _ _ l₁ (O₁.toks _) .str) hev
end
noncomputable def yDt:Fn:=⟨.ofString "unmatched",zAl (stAt 3),45,.ref 44,fun _=>[],rfl⟩
theorem yDm{x:zA0}{j:Nat}(hx:x.length≤100000):Con 0 45 [.r 1] [] [zEw j,.mat x 0] (.d (.str (Txt.slice x none (some j)++Txt.slice x (some (j+1:Nat)) none))) [zEw j,.mat x 0]:=by
 refine Con.enterN (fn:=yDt) (fun _=>rfl) [] [] ?hbody (fun _=>.nil) (fun P s a1 X=>BindsTo.of_eq rfl)
 intro c Q ret fin
 conv=>arg 5;arg 1;whnf
 refine J.seq (Ex.tup2 (Ev.meth (.loc rfl) (MethS.span rfl rfl) (.cons .int .nil) (CallS.span rfl rfl) .b)) ?_
 have h1:=PyProof.Txt.length_slice_le x none (some (j:Int))
 have h2:=PyProof.Txt.length_slice_le x (some ((j+1:Nat):Int)) none
 exact J.ret (Ev.bin (Ev.sliceT (Ev.mstr (.loc rfl) rfl rfl) .none (.some (.loc rfl)) hx) (Ev.sliceT (Ev.mstr (.loc rfl) rfl rfl) (.some (.loc rfl)) .none hx) (BinS.addT (by rw [sizeLine_eq];lia))) fun z s r O h=>ret _ _ _ _ O h
noncomputable abbrev txt(l:List Nat):Str:=⟨l.toArray⟩
noncomputable abbrev cl(x:Str):List Nat:=x.cps.toList
theorem zAm{x y:Str}(h:cl x=cl y):x=y:=by
 obtain ⟨⟨a⟩⟩:=x
 obtain ⟨⟨b⟩⟩:=y
 exact congrArg (fun l=>(⟨⟨l⟩⟩:Str)) h
theorem zB7(x y:Str):cl (x++y)=cl x++cl y:=by
 show (x++y).cps.toList=_
 rw [Str.cps_append,Array.toList_append]
theorem zIa{x:Str}{j:Nat}(h:j≤(cl x).length):Txt.slice x none (some (j:Int))=txt ((cl x).take j):=by
 have h':j≤x.cps.toList.length:=h
 have:=slice_closes_to (x:=x) (j:=(j:Int)) ⟨by (exact natCast_nonneg _),by (exact ofNat_le.mpr (by assumption))⟩
 rw [beq_iff_eq.mp this]
 apply zAm
 simp
theorem zC2{x:Str}{j:Nat}(h:j≤(cl x).length):Txt.slice x (some (j:Int)) none=txt ((cl x).drop j):=by
 have h':j≤x.cps.toList.length:=h
 have:=slice_closes_from (x:=x) (i:=(j:Int)) ⟨by (exact natCast_nonneg _),by (exact ofNat_le.mpr (by assumption))⟩
 rw [beq_iff_eq.mp this]
 apply zAm
 show List.take (((x.cps.toList.length:Int)-(j:Int)).toNat) (x.cps.toList.drop ((j:Int).toNat))=_
 rw [toNat_natCast,List.take_of_length_le]
 rw [length_drop]
 lia
theorem zQw{x:Str}{i j:Nat}(h:i≤j)(h2:j≤(cl x).length):Txt.slice x (some (i:Int)) (some (j:Int))=txt (((cl x).drop i).take (j-i)):=by
 have h':j≤x.cps.toList.length:=h2
 have:=slice_closes (x:=x) (i:=(i:Int)) (j:=(j:Int)) ⟨by (exact natCast_nonneg _),by (exact ofNat_le.mpr (by assumption)),by (exact ofNat_le.mpr (by assumption))⟩
 rw [beq_iff_eq.mp this]
 apply zAm
 show List.take (((j:Int)-(i:Int)).toNat) (x.cps.toList.drop ((i:Int).toNat))=_
 rw [toNat_natCast,show ((j:Int)-(i:Int)).toNat=j-i by lia]
theorem zOm(x:Str)(c:Nat):Txt.count x ⟨#[c]⟩=(((cl x).count c:Nat):Int):=by
 rw [count_is]
 show Spec.countIn (.str ⟨#[c]⟩) ((cl x).map fun n=>PyData.str ⟨#[n]⟩)=_
 generalize cl x=l
 induction l with
 |nil=>rfl
 |cons a r ih=>
  rw [map_cons,List.count_cons]
  show (if Spec.same (.str ⟨#[a]⟩) (.str ⟨#[c]⟩)=true then (1:Int) else 0)+_=_
  rw [ih]
  by_cases h:a=c
  ·subst h
   simp [Spec.same]
   lia
  ·simp [Spec.same,h]
abbrev Seg:=List Nat×Nat
noncomputable def catS(l:List Seg)(tl:List Nat):List Nat:=(l.map fun p=>p.1++[p.2]).flatten++tl
noncomputable def zBo(l:List Seg):List Nat:=(l.map (·.1)).flatten
noncomputable def zAc(l:List Seg)(tl:List Nat)(i:Nat):List Nat:=zBo (l.take i)++catS (l.drop i) tl
structure SegsOk(l:List Seg)(tl:List Nat):Prop where
 sep:∀p∈l,∀c∈p.1,Rx.tok c=false
 word:∀p∈l,Rx.tok p.2=true
 gap:∀p∈l.tail,p.1≠[]
 tail:∀c∈tl,Rx.tok c=false
theorem catS_cons(p:Seg)(l:List Seg)(tl:List Nat):catS (p::l) tl=p.1++p.2::catS l tl:=by unfold catS;simp
theorem preS_succ{l:List Seg}{i:Nat}{p:Seg}(h:l[i]? = some p):zBo (l.take (i+1))=zBo (l.take i)++p.1:=by
 unfold zBo
 rw [take_add_one,h,map_append,List.flatten_append]
 simp
theorem zBy{l:List Seg}{tl:List Nat}{i:Nat}{p:Seg}(h:l[i]? = some p):zAc l tl i=zBo (l.take (i+1))++p.2::catS (l.drop (i+1)) tl:=by
 have hl:=(List.getElem?_eq_some_iff.mp h).1
 unfold zAc
 rw [drop_eq_getElem_cons hl,(List.getElem?_eq_some_iff.mp h).2,catS_cons,preS_succ h,append_assoc]
theorem zFr{l:List Seg}{tl:List Nat}{i:Nat}{p:Seg}(h:l[i]? = some p):(zAc l tl i).take (zBo (l.take (i+1))).length++(zAc l tl i).drop ((zBo (l.take (i+1))).length+1)=zAc l tl (i+1):=by
 rw [zBy h,List.take_left,←List.drop_drop,List.drop_left]
 rfl
theorem zGw(l:List Seg)(tl:List Nat):zAc l tl l.length=zBo l++tl:=by
 unfold zAc
 rw [take_length,List.drop_length]
 rfl
theorem SegsOk.pre{l:List Seg}{tl:List Nat}(h:SegsOk l tl)(i:Nat):∀c∈zBo (l.take i),Rx.tok c=false:=by
 intro c hc
 obtain ⟨s,hs,hc⟩:=mem_flatten.mp hc
 obtain ⟨p,hp,rfl⟩:=mem_map.mp hs
 exact h.sep p (mem_of_mem_take hp) c hc
theorem zF0(l:List Nat)(i:Nat):(txt l).cps.getD i 0=l.getD i 0:=by
 show l.toArray.getD i 0=_
 simp [Array.getD_eq_getD_getElem?,getD_eq_getElem?_getD]
theorem SegsOk.hit{l:List Seg}{tl:List Nat}(h:SegsOk l tl){i:Nat}{p:Seg}(hp:l[i]? = some p):
  (zBo (l.take (i+1))).length<(txt (zAc l tl i)).cps.size∧Rx.tok ((txt (zAc l tl i)).cps.getD (zBo (l.take (i+1))).length 0)=true∧(∀j,j<(zBo (l.take (i+1))).length→Rx.tok ((txt (zAc l tl i)).cps.getD j 0)=false)∧
   ((zBo (l.take (i+1))).length+1<(txt (zAc l tl i)).cps.size→Rx.tok ((txt (zAc l tl i)).cps.getD ((zBo (l.take (i+1))).length+1) 0)=false):=by
 have e:=zBy (tl:=tl) hp
 refine ⟨?_,?_,fun j hj=>?_,fun hlt=>?_⟩
 ·show _<(zAc l tl i).length
  rw [e,length_append,length_cons]
  lia
 ·rw [zF0,e,getD_eq_getElem?_getD,getElem?_append_right (le_refl _),sub_self]
  exact h.word p (mem_of_getElem? hp)
 ·rw [zF0,e,getD_eq_getElem?_getD,getElem?_append_left hj,getElem?_eq_getElem hj]
  exact h.pre _ _ (getElem_mem hj)
 ·rw [zF0,e,getD_eq_getElem?_getD,getElem?_append_right (by lia),Nat.add_sub_cancel_left,List.getElem?_cons_succ]
  cases hd:l.drop (i+1) with
  |nil=>
   show Rx.tok ((tl[0]?).getD 0)=false
   induction tl with
   |nil=>decide
   |cons c tl=>exact h.tail c (.head _)
  |cons q r=>
   have hq:q∈l.tail:=by
    have:q∈l.drop (i+1):=by rw [hd];exact .head _
    rw [←List.drop_one]
    rw [add_comm,←List.drop_drop] at this
    exact List.mem_of_mem_drop this
   have hne:=h.gap q hq
   rw [catS_cons]
   obtain ⟨qs,qc⟩:=q
   induction qs with
   |nil=>exact absurd rfl hne
   |cons c cs=>exact h.sep _ (List.mem_of_mem_tail hq) c (.head _)
theorem SegsOk.none{l:List Seg}{tl:List Nat}(h:SegsOk l tl):∀j,j<(txt (zAc l tl l.length)).cps.size→Rx.tok ((txt (zAc l tl l.length)).cps.getD j 0)=false:=by
 intro j hj
 have hj':j<(zAc l tl l.length).length:=hj
 rw [zF0,getD_eq_getElem?_getD,getElem?_eq_getElem hj']
 have hm:=getElem_mem hj'
 generalize (zAc l tl l.length)[j]=c at hm
 rw [zGw] at hm
 rcases mem_append.mp hm with hm|hm
 ·have:=h.pre l.length c
  rw [take_length] at this
  exact this hm
 ·exact h.tail c hm
theorem zD5{l:List Seg}{tl:List Nat}:∀(i:Nat),i≤l.length→(zAc l tl i).length+i=(catS l tl).length
 |0,_=>by unfold zAc zBo;simp
 |i+1,hi=>by
  have hp:=getElem?_eq_getElem (l:=l) (i:=i) (by assumption)
  have ih:=zD5 (l:=l) (tl:=tl) i (by (exact le_of_lt (by assumption)))
  rw [←zFr hp,length_append,length_take,length_drop]
  have:(zBo (l.take (i+1))).length<(zAc l tl i).length:=by rw [zBy hp,length_append,length_cons];omega
  lia
theorem zHl:(Str.ofString ".").cps = #[46]:=by decide
theorem zKw(x:Str)(i:Nat):StrLaws.At x (.ofString ".") x.length i↔(cl x)[i]? = some 46:=by
 have hl:(Str.ofString ".").length=1:=by decide
 unfold StrLaws.At Builtin.Str.subAt
 rw [hl,zHl,beq_iff_eq]
 have e:∀a:Array Nat,a = #[46]↔a.toList=[46]:=fun a=>⟨fun h=>by rw [h],fun h=>by rw [←Array.toList_inj];exact h⟩
 rw [e,Array.toList_extract]
 show i+1≤(cl x).length∧_↔_
 have e2:List.extract x.cps.toList i (i+1)=((cl x).drop i).take 1:=by
  unfold List.extract
  rw [Nat.add_sub_cancel_left]
 rw [e2]
 constructor
 ·rintro ⟨h1,h2⟩
  rw [drop_eq_getElem_cons (by assumption)] at h2
  have h3:(cl x)[i]=46:=by simpa using h2
  rw [getElem?_eq_getElem (by omega),h3]
 ·intro h
  obtain ⟨h1,h2⟩:=List.getElem?_eq_some_iff.mp h
  refine ⟨h1,?_⟩
  rw [drop_eq_getElem_cons h1,h2]
  rfl
theorem zHm{x:Str}{a b:List Nat}(h:cl x=a++46::b)(ha:46∉a):Txt.find x (.ofString ".")=((a.length:Nat):Int):=by
 have hx:(cl x)[a.length]? = some 46:=by rw [h,getElem?_append_right (le_refl _),sub_self];rfl
 rcases PyProof.Rows.find_whole x (.ofString ".") with ⟨_,h2⟩|⟨i,h1,h2,h3⟩
 ·exact absurd ((zKw x a.length).mpr hx) (h2 _)
 ·rw [h1]
  have h4:¬a.length<i:=fun c=>h3 _ c ((zKw x _).mpr hx)
  have h5:¬i<a.length:=fun c=>by
   have:=(zKw x i).mp h2
   rw [h,getElem?_append_left c] at this
   exact ha (mem_of_getElem? this)
  rw [show i=a.length by lia]
theorem zIy{x:Str}(h:46∉cl x):Txt.find x (.ofString ".") = -1:=by
 rcases PyProof.Rows.find_whole x (.ofString ".") with ⟨h1,_⟩|⟨i,_,h2,_⟩
 ·exact h1
 ·exact absurd (mem_of_getElem? ((zKw x i).mp h2)) h
def zA6(g:Str):Prop:=g = .ofString "local"∨g = .ofString "x.com"
noncomputable def codeOf(k:Nat):Nat:=[67,97,98,100,101,102,103].getD k 67
theorem zOh(k:Nat):cl (ltr k)=[codeOf k]:=rfl
theorem zB3(g:Str)(k:Nat)(r:List Nat):cl (zA1 g (k::r))=codeOf k::46::cl (zA1 g r):=by
 rw [zA1,zB7,zB7,zOh]
 show ([codeOf k]++(Str.ofString ".").cps.toList)++_=_
 rw [zHl]
 rfl
theorem zL3:∀k,codeOf k≠46:=by
 intro k
 unfold codeOf
 rcases k with _|_|_|_|_|_|_|k
 iterate 7 decide
 show (67:Nat)≠46
 decide
theorem zB8(g:Str)(k:Nat)(r:List Nat):Txt.find (zA1 g (k::r)) (.ofString ".")=1:=
 zHm (a:=[codeOf k]) (b:=cl (zA1 g r)) (zB3 g k r) (fun h=>zL3 k (mem_singleton.mp h).symm)
theorem zBt(x:Str):cl ((Str.ofString "." : Str)++x)=46::cl x:=by
 rw [zB7]
 show (Str.ofString ".").cps.toList++_=_
 rw [zHl]
 rfl
theorem zU9(x:Str):(cl x).length=x.length:=rfl
theorem zGu(g:Str)(k:Nat)(r:List Nat):Txt.slice (zA1 g (k::r)) none (some (Txt.find (zA1 g (k::r)) (.ofString ".")))=ltr k:=by
 rw [zB8]
 have:=zIa (x:=zA1 g (k::r)) (j:=1) (by rw [zB3];simp)
 rw [show ((1:Nat):Int)=1 from rfl] at this
 rw [this]
 apply zAm
 show ((cl (zA1 g (k::r))).take 1)=_
 rw [zB3]
 rfl
theorem zPu(g:Str)(k:Nat)(r:List Nat):Txt.slice (zA1 g (k::r)) (some (Txt.find (zA1 g (k::r)) (.ofString "."))) none=(Str.ofString "." : Str)++zA1 g r:=by
 rw [zB8]
 have:=zC2 (x:=zA1 g (k::r)) (j:=1) (by rw [zB3];simp)
 rw [show ((1:Nat):Int)=1 from rfl] at this
 rw [this]
 apply zAm
 rw [zBt]
 show ((cl (zA1 g (k::r))).drop 1)=_
 rw [zB3]
 rfl
theorem zPt(g:Str)(k:Nat)(r:List Nat):Txt.slice (zA1 g (k::r)) (some (Txt.find (zA1 g (k::r)) (.ofString ".")+1)) none=zA1 g r:=by
 rw [zB8]
 have:=zC2 (x:=zA1 g (k::r)) (j:=2) (by rw [zB3];simp)
 rw [show ((2:Nat):Int)=(1:Int)+1 from rfl] at this
 rw [this]
 apply zAm
 show ((cl (zA1 g (k::r))).drop 2)=_
 rw [zB3]
 rfl
theorem zBh{g:Str}(hg:zA6 g)(k:Nat)(r:List Nat):zBz (zA1 g (k::r))=(Str.ofString "." : Str)++zA1 g r:=by
 unfold zBz
 have h1:0≤Txt.find (zA1 g (k::r)) (.ofString "."):=by rw [zB8];decide
 rw [if_pos h1,zPt,if_pos]
 induction r with
 |nil=>
  rcases hg with rfl|rfl
  ·exact .inr (by rw [zA1];exact beq_self_eq_true _)
  ·refine .inl ?_
   rw [show zA1 (Str.ofString "x.com") []=Str.ofString "x.com" from rfl,zHm (a:=[120]) (b:=[99,111,109]) (by decide) (by decide)]
   decide
 |cons j r=>exact .inl (by rw [zB8];decide)
theorem zJ6{g:Str}(hg:zA6 g):zBz g=g:=by
 rcases hg with rfl|rfl
 ·unfold zBz
  rw [if_neg]
  rw [zIy (by decide)]
  decide
 ·unfold zBz
  have h1:Txt.find (Str.ofString "x.com") (.ofString ".")=1:=zHm (a:=[120]) (b:=[99,111,109]) (by decide) (by decide)
  rw [h1,if_pos (by decide)]
  have h2:Txt.slice (Str.ofString "x.com") (some ((1:Int)+1)) none = .ofString "com" := by
   have:=zC2 (x:=Str.ofString "x.com") (j:=2) (by decide)
   rw [show ((2:Nat):Int)=(1:Int)+1 from rfl] at this
   rw [this]
   apply zAm
   decide
  rw [h2,if_neg]
  rw [zIy (by decide)]
  decide
def DigFree(l:List Nat):Prop:=∀c∈l,Sre.isDigit c=false
theorem zT3{x:Str}(h:DigFree (cl x)):zPy x:=by
 intro i
 have e:x.cps.getD i 0=(cl x).getD i 0:=by simp [Array.getD_eq_getD_getElem?,getD_eq_getElem?_getD]
 rw [e,getD_eq_getElem?_getD]
 cases hi:(cl x)[i]? with
 |none=>decide
 |some c=>exact h c (mem_of_getElem? hi)
theorem zLk{g:Str}(hg:zA6 g):∀l,DigFree (cl (zA1 g l))
 |[]=>by
  rcases hg with rfl|rfl<;>(unfold DigFree;decide)
 |k::r=>by
  intro c hc
  rw [zB3] at hc
  rcases mem_cons.mp hc with rfl|hc
  ·unfold codeOf
   rcases k with _|_|_|_|_|_|_|k
   iterate 7 decide
   show Sre.isDigit 67=false
   decide
  rcases mem_cons.mp hc with rfl|hc
  ·decide
  ·exact zLk hg r c hc
theorem zJh{g:Str}(hg:zA6 g):∀l,∃c,(cl (zA1 g l)).getLast? = some c∧c≠46
 |[]=>by
  rcases hg with rfl|rfl
  ·exact ⟨108,by decide,by decide⟩
  ·exact ⟨109,by decide,by decide⟩
 |k::r=>by
  obtain ⟨c,h1,h2⟩:=zJh hg r
  refine ⟨c,?_,h2⟩
  rw [zB3]
  have hne:cl (zA1 g r)≠[]:=fun e=>by rw [e] at h1;cases h1
  rw [List.getLast?_cons_cons,List.getLast?_cons,h1]
  rfl
theorem zN5{g:Str}(hg:zA6 g):∀l,∃c,(cl (zA1 g l)).head? = some c∧c≠46
 |[]=>by
  rcases hg with rfl|rfl
  ·exact ⟨108,by decide,by decide⟩
  ·exact ⟨120,by decide,by decide⟩
 |k::r=>⟨codeOf k,by rw [zB3];rfl,zL3 k⟩
theorem zMy{x:Str}{c:Nat}(h:(cl x).head? = some c):Txt.item x 0=txt [c]:=by
 have hl:0<x.length:=by
  rw [←zU9]
  cases hx:cl x with
  |nil=>rw [hx] at h;cases h
  |cons a r=>exact Nat.succ_pos _
 unfold Txt.item Txt.charAt
 have e:seqIndex? 0 x.length=some 0:=by
  unfold seqIndex?
  simp
  (exact ne_of_gt (by assumption))
 rw [e]
 have e2:x.cps[0]? = some c:=by
  rw [←Array.getElem?_toList]
  rw [List.head?_eq_getElem?] at h
  exact h
 show (⟨#[(x.cps[0]?).getD 0]⟩:Str)=_
 rw [e2]
 rfl
theorem zSp{x:Str}{c:Nat}(h:(cl x).getLast? = some c):Txt.item x (-1)=txt [c]:=by
 have hl:0<x.length:=by
  rw [←zU9]
  cases hx:cl x with
  |nil=>rw [hx] at h;cases h
  |cons a r=>exact Nat.succ_pos _
 unfold Txt.item Txt.charAt
 have e:seqIndex? (-1) x.length=some (x.length-1):=by
  unfold seqIndex?
  have:¬((-1:Int)+(x.length:Int)<0):=by lia
  simp [this]
  lia
 rw [e]
 have e2:x.cps[x.length-1]? = some c:=by
  rw [←Array.getElem?_toList]
  rw [List.getLast?_eq_getElem?] at h
  exact h
 show (⟨#[(x.cps[x.length-1]?).getD 0]⟩:Str)=_
 rw [e2]
 rfl
theorem zQ0{c:Nat}(h:c≠46):(txt [c]==Str.ofString ".")=false:=by
 rw [beq_eq_false_iff_ne]
 intro e
 have:cl (txt [c])=[46]:=by rw [e];show (Str.ofString ".").cps.toList=_;rw [zHl]
 exact h (List.cons.inj this).1
theorem zCy{g:Str}(hg:zA6 g)(l:List Nat)(hl:l.length≤1000):Con 1 69 [.d (.str (zA1 g l))] [] [] (.d (.str (zBz (zA1 g l)))) []:=by
 have hlen:=zAa g l
 have hgl:5≤g.length∧g.length≤5:=by rcases hg with rfl|rfl<;>decide
 obtain ⟨c,h1,h2⟩:=zN5 hg l
 obtain ⟨d,h3,h4⟩:=zJh hg l
 refine zVb (by lia) (by lia) (zT3 (zLk hg l)) ?_ ?_ ?_
 ·rw [beq_eq_false_iff_ne]
  intro e
  rw [e] at hlen
  have:(Str.ofString "").length=0:=by decide
  lia
 ·rw [zMy h1];exact zQ0 h2
 ·rw [zSp h3];exact zQ0 h4
noncomputable def rk(key:Nat→List Nat)(a:Nat):Nat:=((List.range 7).filter fun b=>decide (key b<key a)).length
theorem zCt{p q:Nat→Bool}(h:∀b,p b=true→q b=true):∀l:List Nat,(l.filter p).length≤(l.filter q).length
 |[]=>le_refl _
 |a::l=>by
  have ih:=zCt h l
  rw [filter_cons,filter_cons]
  by_cases hp:p a=true
  ·rw [if_pos hp,if_pos (h a hp),length_cons,length_cons];(exact Nat.lt_succ_of_le (by assumption))
  ·rw [if_neg hp]
   split
   ·rw [length_cons];(exact le_succ_of_le (by assumption))
   ·exact ih
theorem zDy{p q:Nat→Bool}(h:∀b,p b=true→q b=true){a:Nat}(hp:p a=false)(hq:q a=true):∀l:List Nat,a∈l→(l.filter p).length<(l.filter q).length
 |[],hm=>by cases hm
 |b::l,hm=>by
  rw [filter_cons,filter_cons]
  rcases mem_cons.mp hm with rfl|hm
  ·rw [if_neg (by rw [hp];exact Bool.false_ne_true),if_pos hq,length_cons]
   have:=zCt h l
   (exact Nat.lt_succ_of_le (by assumption))
  ·have ih:=zDy h hp hq l hm
   by_cases hpb:p b=true
   ·rw [if_pos hpb,if_pos (h b hpb),length_cons,length_cons];(exact Nat.lt_succ_of_le (by assumption))
   ·rw [if_neg hpb]
    split
    ·rw [length_cons];(exact le_succ_of_le (by assumption))
    ·exact ih
theorem zWx{key:Nat→List Nat}{a b:Nat}(ha:a<7)(hb:b<7):key a<key b↔rk key a<rk key b:=by
 have one:∀{a b:Nat},a<7→key a<key b→rk key a<rk key b:=by
  intro a b ha h
  refine zDy (fun c hc=>?_) (a:=a) ?_ ?_ _ (mem_range.mpr ha)
  ·exact decide_eq_true (List.lt_trans (of_decide_eq_true hc) h)
  ·exact decide_eq_false (List.lt_irrefl _)
  ·exact decide_eq_true h
 constructor
 ·exact one ha
 ·intro h
  by_cases h1:key a<key b
  ·exact h1
  ·exfalso
   by_cases h2:key b<key a
   ·have:=one hb h2
    lia
   ·have e:key a=key b:=List.le_antisymm h2 h1
    unfold rk at h
    rw [e] at h
    exact lt_irrefl _ h
noncomputable def zQj(a:Nat):Nat:=[4,2,5,6,0,1,3].getD a 0
noncomputable def sqB(k:Nat):Nat:=[6,1,0,5,2,4,3].getD k 0
noncomputable def ordB(k:Nat):Nat:=[4,5,1,6,0,2,3].getD k 0
theorem zH2:∀k,k<7→sqB k<7:=by decide
theorem zI7:∀a,a<7→zQj a<7:=by decide
theorem zT7:∀a,a<7→∀b,b<7→zQj a=zQj b→a=b:=by decide
theorem zX5:∀a,a<7→∀b,b<7→sqB a=sqB b→a=b:=by decide
theorem zQx:∀a,a<7→∃k,k<7∧sqB k=a:=by decide
theorem zQy:∀k,k<7→k%2=0→∀j,j<k→zQj (sqB j)<zQj (sqB k):=by decide
theorem zTg:∀k,k<7→k%2=1→∀j,j<k→zQj (sqB k)<zQj (sqB j):=by decide
noncomputable def KK(key:Nat→List Nat)(a:Nat):Nat:=rk key a*7+zQj a
theorem zTv{key:Nat→List Nat}{a b:Nat}(ha:a<7)(hb:b<7)(h:KK key a=KK key b):a=b:=by
 unfold KK at h
 have h1:=zI7 a ha
 have h2:=zI7 b hb
 refine zT7 a ha b hb ?_
 lia
structure BookAt(key:Nat→List Nat)(k:Nat)(B:List Nat):Prop where
 sorted:(B.map (KK key)).Pairwise (· < ·)
 mem:∀x,x∈B↔∃j,j<k∧sqB j=x
theorem BookAt.zero(key:Nat→List Nat):BookAt key 0 []:=⟨.nil,fun x=>by simp⟩
theorem BookAt.lt{key:Nat→List Nat}{k:Nat}{B:List Nat}(h:BookAt key k B)(hk:k≤7):∀x∈B,x<7:=fun x hx=>by
 obtain ⟨j,hj,e⟩:=(h.mem x).mp hx
 rw [←e]
 exact zH2 j (by (exact lt_of_lt_of_le (by assumption) (by assumption)))
theorem BookAt.len{key:Nat→List Nat}{k:Nat}{B:List Nat}(h:BookAt key k B)(hk:k≤7):B.length≤7:=by
 refine zA3 (n:=7) ?_ (h.lt hk)
 have:=h.sorted
 rw [pairwise_map] at this
 exact this.imp fun h e=>by rw [e] at h;exact lt_irrefl _ h
noncomputable def zMp(key:Nat→List Nat)(x:Nat)(B:List Nat):Nat:=cut (KK key x) (B.map (KK key))
noncomputable def zUh(key:Nat→List Nat)(x:Nat)(B:List Nat):List Nat:=B.take (zMp key x B)++x::B.drop (zMp key x B)
theorem zOn(key:Nat→List Nat)(x:Nat)(B:List Nat):zMp key x B≤B.length:=le_trans (zL4 _ _) (Nat.le_of_eq (length_map _))
theorem BookAt.new{key:Nat→List Nat}{k:Nat}{B:List Nat}(h:BookAt key k B)(hk:k<7):BookAt key (k+1) (zUh key (sqB k) B):=by
 have eM:(zUh key (sqB k) B).map (KK key)=zJ8 (KK key (sqB k)) (B.map (KK key)):=by
  unfold zUh zJ8 zMp
  rw [map_append,map_cons,map_take,map_drop]
 refine ⟨?_,fun x=>?_⟩
 ·rw [eM]
  refine zCa h.sorted fun hm=>?_
  obtain ⟨b,hb,he⟩:=mem_map.mp hm
  obtain ⟨j,hj,hjb⟩:=(h.mem b).mp hb
  have h1:=zTv (h.lt (by (exact le_of_lt (by assumption))) b hb) (zH2 k hk) he
  have:=zX5 j (by (exact lt_trans (by assumption) (by assumption))) k hk (hjb.trans h1)
  lia
 ·have h2:x∈zUh key (sqB k) B↔x=sqB k∨x∈B:=by
   unfold zUh
   conv=>rhs;rw [←take_append_drop (zMp key (sqB k) B) B]
   simp only [mem_append,mem_cons]
   constructor
   ·rintro (h|h|h)
    ·exact .inr (.inl h)
    ·exact .inl h
    ·exact .inr (.inr h)
   ·rintro (h|h|h)
    ·exact .inr (.inl h)
    ·exact .inl h
    ·exact .inr (.inr h)
  rw [h2,h.mem]
  constructor
  ·rintro (e|⟨j,hj,e⟩)
   ·exact ⟨k,by lia,e.symm⟩
   ·exact ⟨j,by (exact le_succ_of_le (by assumption)),e⟩
  ·rintro ⟨j,hj,e⟩
   rcases lt_or_eq_of_le (le_of_lt_succ hj) with h1|h1
   ·exact .inr ⟨j,h1,e⟩
   ·subst h1;exact .inl e.symm
theorem BookAt.left{key:Nat→List Nat}{k:Nat}{B:List Nat}(h:BookAt key k B)(hk:k<7)(ho:k%2=1){i b:Nat}(hb:B[i]? = some b):key b<key (sqB k)↔i<zMp key (sqB k) B:=by
 have hb7:=h.lt (by (exact le_of_lt (by assumption))) b (mem_of_getElem? hb)
 have hx:=zH2 k hk
 have hi:(B.map (KK key))[i]? = some (KK key b):=by rw [getElem?_map,hb];rfl
 unfold zMp
 rw [←zDl h.sorted i _ hi,zWx hb7 hx]
 obtain ⟨j,hj,e⟩:=(h.mem b).mp (mem_of_getElem? hb)
 have h1:=zTg k hk ho j hj
 rw [e] at h1
 have h2:=zI7 b hb7
 unfold KK
 lia
theorem BookAt.right{key:Nat→List Nat}{k:Nat}{B:List Nat}(h:BookAt key k B)(hk:k<7)(he:k%2=0){i b:Nat}(hb:B[i]? = some b):key (sqB k)<key b↔¬i<zMp key (sqB k) B:=by
 have hb7:=h.lt (by (exact le_of_lt (by assumption))) b (mem_of_getElem? hb)
 have hx:=zH2 k hk
 have hi:(B.map (KK key))[i]? = some (KK key b):=by rw [getElem?_map,hb];rfl
 unfold zMp
 rw [←zDl h.sorted i _ hi,zWx hx hb7]
 obtain ⟨j,hj,e⟩:=(h.mem b).mp (mem_of_getElem? hb)
 have h1:=zQy k hk he j hj
 rw [e] at h1
 have h2:=zI7 (sqB k) hx
 unfold KK
 lia
theorem BookAt.ext{key:Nat→List Nat}{B B':List Nat}(h:BookAt key 7 B)(hs:(B'.map (KK key)).Pairwise (· < ·))(hm:∀x,x∈B'↔x<7):B'=B:=by
 have key1:∀x,x∈B↔x<7:=fun x=>by
  rw [h.mem]
  exact ⟨fun ⟨j,hj,e⟩=>e▸zH2 j hj,fun hx=>zQx x hx⟩
 have e:B'.map (KK key)=B.map (KK key):=zUm hs h.sorted fun y=>by
  rw [mem_map,mem_map]
  constructor
  ·rintro ⟨x,hx,e⟩;exact ⟨x,(key1 x).mpr ((hm x).mp hx),e⟩
  ·rintro ⟨x,hx,e⟩;exact ⟨x,(hm x).mpr ((key1 x).mp hx),e⟩
 have inj:∀(l l':List Nat),(∀x∈l,x<7)→(∀x∈l',x<7)→l.map (KK key)=l'.map (KK key)→l=l':=by
  intro l
  induction l with
  |nil=>intro l' _ _ h;induction l' with
   |nil=>rfl
   |cons b r=>cases h
  |cons a l ih=>intro l' h1 h2 h;induction l' with
   |nil=>cases h
   |cons b r=>
    rw [map_cons,map_cons] at h
    obtain ⟨e1,e2⟩:=List.cons.inj h
    rw [zTv (h1 a (.head _)) (h2 b (.head _)) e1,ih r (fun x hx=>h1 x (.tail _ hx)) (fun x hx=>h2 x (.tail _ hx)) e2]
 exact inj B' B (fun x hx=>(hm x).mp hx) (fun x hx=>(key1 x).mp hx) e
theorem zMs(n:Nat):Builtin.Range.rangeSize (n:Nat) 0 (-1)=(n:Int):=by
 unfold Builtin.Range.rangeSize
 rw [if_neg (by decide)]
 split
 ·rw [show -(-1:Int)=1 from rfl,Int.ediv_one]
  lia
 ·lia
noncomputable def zUg:Stmt→List Stmt
 |.If _ b _ _=>b
 |_=>[]
noncomputable def zC8:Stmt→List Stmt
 |.For _ _ b _ _=>b
 |_=>[]
noncomputable def acFor:Stmt:=(zUg ((zAf (zBw 16 8)).getD 1 default)).getD 0 default
noncomputable def yDl:Stmt:=(zC8 acFor).getD 0 default
theorem ne0{n:Nat}(h:(n != 0)=true):0<n:=Nat.pos_of_ne_zero (bne_iff_ne.mp h)
noncomputable def zNr:List Stmt:=(zUg ((zAf (zBw 16 8)).getD 1 default)).drop 1
theorem zKa{n:Nat}(hn:n≤1000):Builtin.Range.small (n:Nat) 0 (-1)=true:=small_down (by (exact natCast_nonneg _)) (by omega) (by decide) (by decide)
abbrev zF9(sg:zA0)(P:List (zA0×zA0))(j:Nat):Prop:=∀i,1≤i→i<P.length→zK3 (zL0 sg j) P i=false
theorem ac_take{ps:List (zA0×zA0)}{p:zA0×zA0}:(pcs (ps++[p])).take ps.length=pcs ps∧(pcs (ps++[p])).drop ps.length=pcs [p]:=by
 rw [zF3]
 constructor
 ·rw [List.take_append_of_le_length (by rw [length_map];exact le_refl _),List.take_of_length_le (by rw [length_map];exact le_refl _)]
 ·rw [List.drop_append_of_le_length (by rw [length_map];exact le_refl _),List.drop_of_length_le (by rw [length_map];exact le_refl _)]
  rfl
section
variable {fn:Fn}{d n₀:Nat}{c:Cx fn (d+8) n₀}{ns:List (zA0×SV)}{sg:zA0}{ls:List zA0}{qs:List (zA0×zA0)}{p:zA0×zA0}{k:Nat}
theorem zXt(h:qs.length≤48000):CallS c ns (fm sg ls (qs++[p]) k) (.ref 214) [.r 3,.d (.int (qs.length:Nat))] [] (.d (.list (pcs [p]))) (fm sg ls qs k):=by
 have h1:=CallS.con (c:=c) (ps:=ns) (nx:=fm sg ls (qs++[p]) k) [3,4] (zU7 (k:=k) (l:=pcs (qs++[p])) (i:=qs.length) (by rw [length_map,length_append];simp;(exact le_trans (by assumption) (le_of_ble_eq_true rfl))) (by rw [length_map,length_append];lia)) (zAg (by lia)) rfl rfl rfl rfl
 rw [ac_take.1,ac_take.2] at h1
 exact h1
theorem zRm{l:List PyData}(h:qs.length≤49000)(hl:l.length≤49000):CallS c ns (fm sg ls qs k) (.ref 244) [.r 3,.d (.list l)] [] (.d .none) (fmD sg ls l 0):=
 CallS.con [3,4] (zS4 (k:=k) (l:=pcs qs) (us:=l) (by rw [length_map];(exact le_trans (by assumption) (le_of_ble_eq_true rfl))) (by (exact le_trans (by assumption) (le_of_ble_eq_true rfl)))) (zAg (by lia)) rfl rfl rfl rfl
end
theorem zV0{sg:zA0}{ls ls':List zA0}{ps qs':List (zA0×zA0)}{f x:zA0}{k:Nat}(hs:zBq (ps++[(f,x)]))(hps:zBq ps)(hl:ls.length≤900)(hy:∀y∈ls,y.length≤100000)(hk:k≤1000)(hx:0<x.length)(hf:0<f.length)(hasc:sg.cps.all (· < 128)=true)(H:(∃j,j<sg.cps.size∧1≤ps.length∧zK3 (zL0 sg j) (ps++[(f,x)]) ps.length=true∧(∀j',j'<j→zF9 sg (ps++[(f,x)]) j')∧ls'=ls++[zBe ps]∧qs'=[(f,x)])∨
   ((∀j,j<sg.cps.size→zF9 sg (ps++[(f,x)]) j)∧((k=0∧ls'=ls∧qs'=ps++[(f,x)])∨(0<k∧ps=[]∧ls'=nlL ls [(.ofString "",.ofString "")] k∧qs'=[(f,x)])))):
  zEa yDb 9 [(.ofString "self",.r 0),(.ofString "fws",.d (.str f)),(.ofString "string",.d (.str x))] (fm sg ls ps k) (zAf (zBw 16 8)) (.d .none) (fm sg ls' qs' 0):=by
 intro c Q ret fin
 have hln:(ps++[(f,x)]).length=ps.length+1:=by simp
 have hlp:=hps.1
 have ht:0<tlen (ps++[(f,x)]):=by simp [tlen,zWu];lia
 have hll:(ls.map PyData.str).length=ls.length:=length_map ..
 have aft:1≤ps.length→ls'=ls++[zBe ps]→qs'=[(f,x)]→J c Q [(.ofString "i",.d (.int (ps.length:Nat))),(.ofString "self",.r 0)] (fm sg ls (ps++[(f,x)]) k) [zNr,[]]:=by
  rintro h1 rfl rfl
  conv=>arg 5;arg 1;whnf
  refine J.seq (Ex.assign (Ev.meth (zC6 (d:=1) (.loc rfl)) (MethS.popf rfl rfl) (.cons (.loc rfl) .nil) (zXt (by (exact le_trans (by assumption) (le_of_ble_eq_true rfl)))) (.k yCo))) ?_
  refine J.seq (Ex.expr (Ev.meth (zF7 (d:=1) (.loc rfl)) (.append rfl) (.cons (Ev.call (.built zJ5 zIn (by decide)) (.cons (zC6 (d:=1) (.loc rfl)) .nil) (zUw hps) .t) .nil) (CallS.append rfl (by rw [hll];(exact le_trans (by assumption) (le_of_ble_eq_true rfl)))) .b)) ?_
  have e:upd (fm sg ls ps k) 2 (.lst (ls.map PyData.str++[.str (zBe ps)]))=fm sg (ls++[zBe ps]) ps k:=by rw [fm,fm,fmD,fmD,map_append];rfl
  rw [e]
  refine J.seq (Ex.expr (Ev.meth (zC6 (d:=1) (.loc rfl)) (MethS.reset rfl rfl) (.cons (.loc rfl) .nil) (zRm (by (exact le_trans (by assumption) (le_of_ble_eq_true rfl))) (le_of_ble_eq_true rfl)) (.k yDg))) ?_
  exact J.pop (J.pop (fin rfl _))
 conv=>arg 5;arg 1;whnf
 refine J.seq (Ex.expr (Ev.meth (zC6 (d:=1) (.loc rfl)) (MethS.push rfl rfl) (.cons (.loc rfl) (.cons (.loc rfl) .nil)) (zNp (by (exact le_trans (by assumption) (le_of_ble_eq_true rfl)))) (.k yAf))) ?_
 refine J.ift (EvB.cmp (Ev.call (.built zD9 zD8 (by decide)) (.cons (zC6 (d:=1) (.loc rfl)) .nil) (zXq hs (by (exact le_trans (by assumption) (le_of_ble_eq_true rfl)))) .b) (yB5 (d:=1) (.loc rfl)) .gtI) (decide_eq_true (by lia)) ?_
 refine J.forStr hasc (X:=Unit) (fun j _=>∀j',j'<j→zF9 sg (ps++[(f,x)]) j') (fun _ _=>[(.ofString "self",.r 0)]) (fun _ _=>fm sg ls (ps++[(f,x)]) k) () (fun j h=>absurd h (not_lt_zero _)) (yB6 (d:=1) (.loc rfl)) ⟨rfl,rfl,rfl,rfl,rfl⟩ ?turn ?done
 case turn=>
  intro j _ hj hJ c₁ Q₁ sb q
  refine J.forRange (X:=Unit) ps.length (fun t _=>t=0∨zF9 sg (ps++[(f,x)]) j) (fun _ _=>[(.ofString "ch",.d (.str (zL0 sg j))),(.ofString "self",.r 0)]) (fun _ _=>fm sg ls (ps++[(f,x)]) k) () (.inl rfl)
   (Ev.call (.built zAr zAq (by decide)) (.cons (Ev.bin (Ev.meth (zC6 (d:=1) (.loc rfl)) (MethS.pc rfl rfl) .nil (yDj (by lia)) (.k zXk)) .int (.pred (by lia))) (.cons .int (.cons .m1 .nil))) (CallS.range3 (by decide) (PyProof.noPylong_small (by decide))) .t) rfl (zKa (by lia)) (by rw [hln];exact zMs _) ⟨rfl,rfl,rfl,rfl,rfl⟩ ?zXc ?done2
  case zXc=>
   intro t _ ht hT c₂ Q₂ sb₂ q₂
   have ht':t<ps.length:=ht
   have e:(((ps++[(f,x)]).length-1:Nat):Int)+(t:Nat)*(-1)=((ps.length-t:Nat):Int):=by rw [hln];lia
   rw [e]
   have hm1:1≤ps.length-t:=by lia
   have hmn:ps.length-t<(ps++[(f,x)]).length:=by lia
   have hP:=hs.2
   have hg:∀i,i<(ps++[(f,x)]).length→(((ps++[(f,x)]).getD i default).1.length≤100∧((ps++[(f,x)]).getD i default).2.length≤100):=fun i hi=>by
    rw [getD_eq_getElem?_getD,getElem?_eq_getElem hi]
    exact hP _ (getElem_mem hi)
   have g1:=(hg _ hmn).1
   have g2:=(hg (ps.length-t-1) (by omega)).2
   have go:zK3 (zL0 sg j) (ps++[(f,x)]) (ps.length-t)=true→J c Q [(.ofString "i",.d (.int (ps.length-t:Nat))),(.ofString "self",.r 0)] (fm sg ls (ps++[(f,x)]) k) [zNr,[]]:=fun hb=>by
    have t0:t=0:=hT.resolve_right fun hno=>by rw [hno _ hm1 hmn] at hb;cases hb
    subst t0
    rcases H with ⟨j0,_,h1,h2,h3,h4,h5⟩|⟨h1,_⟩
    ·exact aft h1 h4 h5
    ·rw [h1 j hj _ hm1 hmn] at hb;cases hb
   have no:zK3 (zL0 sg j) (ps++[(f,x)]) (ps.length-t)=false→zF9 sg (ps++[(f,x)]) j:=fun hb=>by
    rcases hT with rfl|hT
    ·rcases H with ⟨j0,_,h1,h2,h3,_⟩|⟨h1,_⟩
     ·rcases Nat.lt_trichotomy j j0 with q|q|q
      ·exact h3 j q
      ·subst q;rw [Nat.sub_zero,h2] at hb;cases hb
      ·have:=hJ j0 q _ hm1 hmn
       rw [Nat.sub_zero,h2] at this;cases this
     ·exact h1 j hj
    ·exact hT
   have hsp:(Txt.isspace (zL0 sg j)&&((((ps++[(f,x)]).getD (ps.length-t) default).1.length != 0)&&(Txt.item ((ps++[(f,x)]).getD (ps.length-t) default).1 0==zL0 sg j)))=false→
     J c₂ Q₂ [(.ofString "i",.d (.int (ps.length-t:Nat))),(.ofString "ch",.d (.str (zL0 sg j))),(.ofString "self",.r 0)] (fm sg ls (ps++[(f,x)]) k) [(zC8 yDl).drop 1]:=fun h4=>by
    conv=>arg 5;arg 1;whnf
    refine J.seq (Ex.assign (Ev.sub (Ev.sub (zC6 (d:=1) (.loc rfl)) (Ev.bin (.loc rfl) .int (.pred hm1)) (zTt (by omega) hs.1)) .int (SubS.tup (j:=1) rfl (le_of_ble_eq_true rfl)))) ?_
    refine J.ite (EvB.and (EvB.plain (.loc rfl) (TruS.text (by (exact le_trans (by assumption) (le_of_ble_eq_true rfl))))) fun hb=>EvB.and (EvB.cmp (Ev.sub (.loc rfl) .m1 (SubS.text (by decide) (by have:=ne0 hb;lia) (by (exact natCast_nonneg _)))) (.loc rfl) .eqT) fun _=>.andN) (fun hb=>?_) fun hb=>?_
    ·refine J.breakF q₂ sb₂ (J.breakF q sb (J.less ⟨rfl,rfl,rfl,rfl,rfl⟩ (go ?_)))
     rw [Bool.and_true] at hb
     unfold zK3
     rw [hb,Bool.or_true]
    ·refine J.pop (J.pop (J.next q₂ () (.inr (no ?_)) ⟨rfl,rfl,rfl,rfl,rfl⟩))
     rw [Bool.and_true] at hb
     unfold zK3
     rw [h4,hb]
     rfl
   conv=>arg 5;arg 1;whnf
   refine J.ite (EvB.plain (Ev.meth (.loc rfl) (MethS.str PySem.F.slot_str_isspace PySem.F.type_str_isspace) .nil .isspace .b) .bool) (fun hsp0=>?_) fun hsp0=>?_
   ·refine J.seq (Ex.assign (Ev.sub (Ev.sub (zC6 (d:=1) (.loc rfl)) (.loc rfl) (zTt hmn hs.1)) .int (SubS.tup (j:=0) rfl (le_of_ble_eq_true rfl)))) ?_
    refine J.ite (EvB.and (EvB.plain (.loc rfl) (TruS.text (by (exact le_trans (by assumption) (le_of_ble_eq_true rfl))))) fun hb=>EvB.and (EvB.cmp (Ev.sub (.loc rfl) .int (SubS.text (by decide) (by lia) (by have:=ne0 hb;(exact ofNat_lt.mpr (by assumption))))) (.loc rfl) .eqT) fun _=>.andN) (fun hb=>?_) fun hb=>?_
    ·refine J.breakF q₂ sb₂ (J.breakF q sb (J.less ⟨rfl,rfl,rfl,rfl,rfl⟩ (go ?_)))
     rw [Bool.and_true] at hb
     unfold zK3
     rw [hsp0,hb]
     rfl
    ·refine J.pop (J.pop (J.less ⟨rfl,rfl,rfl,rfl,rfl⟩ (hsp ?_)))
     rw [Bool.and_true] at hb
     rw [hb,Bool.and_false]
   ·refine J.pop (hsp ?_)
    rw [hsp0]
    rfl
  case done2=>
   intro _ hT
   refine J.cont q () (fun j' hj'=>?_) ⟨rfl,rfl,rfl,rfl,rfl⟩
   rcases lt_or_eq_of_le (le_of_lt_succ hj') with h|rfl
   ·exact hJ j' h
   ·rcases hT with h0|h0
    ·intro i h1 h2;lia
    ·exact h0
 case done=>
  intro _ hJ
  rcases H with ⟨j0,h0,h1,h2,_⟩|⟨h1,h2⟩
  ·rw [hJ j0 h0 _ h1 (by lia)] at h2;cases h2
  refine J.seq (Ex.tup2 (Ev.meth (zC6 (d:=1) (.loc rfl)) (MethS.popA rfl rfl) .nil (zTu (by (exact le_trans (by assumption) (le_of_ble_eq_true rfl)))) (.k yCp))) ?_
  have nl:∀{ls₁:List zA0} {ps₁:List (zA0×zA0)} {k₁:Nat},ps₁.length≤1000→ls₁=ls'→ps₁++[(f,x)]=qs'→k₁=0→
    J c Q [(.ofString "part",.d (.str x)),(.ofString "fws",.d (.str f)),(.ofString "self",.r 0)] (fm sg ls₁ ps₁ k₁) [((match acFor with | .For _ _ _ o _=>o|_=>[]).drop 2),zNr,[]]:=fun h1 h2 h3 h4=>by
   subst h2 h3 h4
   conv=>arg 5;arg 1;whnf
   refine J.seq (Ex.expr (Ev.meth (zC6 (d:=1) (.loc rfl)) (MethS.push rfl rfl) (.cons (.loc rfl) (.cons (.loc rfl) .nil)) (zNp (by (exact le_trans (by assumption) (le_of_ble_eq_true rfl)))) (.k yAf))) ?_
   exact J.ret0 fun z s O=>ret _ z s .none O .none
  refine J.less (ps':=[(.ofString "part",.d (.str x)),(.ofString "fws",.d (.str f)),(.ofString "self",.r 0)]) (nx':=fm sg ls ps k) ⟨rfl,rfl,rfl,rfl,rfl⟩ ?_
  refine J.ite (EvB.cmp (Ev.attrA (zC6 (d:=1) (.loc rfl)) rfl rfl) .int .gtI) (fun hb=>?_) fun hb=>?_
  ·have hk0:0<k:=ofNat_lt.mp (of_decide_eq_true hb)
   obtain ⟨_,rfl,rfl,rfl⟩:=h2.resolve_left fun h=>by lia
   refine J.seq (Ex.expr (Ev.meth (.loc rfl) (MethS.inst rfl rfl zPo zYp (fun P=>zI5 P _) rfl) .nil (CallS.con [0,1,2,3,4,5,6] (yAm (by (exact le_trans (by assumption) (le_of_ble_eq_true rfl))) (by (exact le_trans (by assumption) (le_of_ble_eq_true rfl))) hy) rfl rfl rfl rfl rfl) (.k yDf))) ?_
   refine J.iff (EvB.not (EvB.plain (.loc rfl) (TruS.text (le_trans (hs.2 (f,x) (by simp)).1 (by decide))))) (by rw [show (f.length != 0)=true from bne_iff_ne.mpr (by (exact ne_of_gt (by assumption)))];rfl) (J.pop (J.pop (nl (by decide) rfl rfl rfl)))
  ·have hk0:k=0:=by have:=of_decide_eq_false hb;lia
   obtain ⟨_,rfl,rfl⟩:=h2.resolve_right fun h=>by omega
   exact J.pop (nl (by omega) rfl rfl hk0)
theorem zWy{sg:zA0}{ls ls':List zA0}{ps qs':List (zA0×zA0)}{f x:zA0}{k:Nat}(hs:zBq (ps++[(f,x)]))(hps:zBq ps)(hl:ls.length≤900)(hy:∀y∈ls,y.length≤100000)(hk:k≤1000)(hx:0<x.length)(hf:0<f.length)(hasc:sg.cps.all (· < 128)=true)(H:(∃j,j<sg.cps.size∧1≤ps.length∧zK3 (zL0 sg j) (ps++[(f,x)]) ps.length=true∧(∀j',j'<j→zF9 sg (ps++[(f,x)]) j')∧ls'=ls++[zBe ps]∧qs'=[(f,x)])∨
   ((∀j,j<sg.cps.size→zF9 sg (ps++[(f,x)]) j)∧((k=0∧ls'=ls∧qs'=ps++[(f,x)])∨(0<k∧ps=[]∧ls'=nlL ls [(.ofString "",.ofString "")] k∧qs'=[(f,x)])))):
  Con 9 175 [.r 0,.d (.str f),.d (.str x)] [] (fm sg ls ps k) (.d .none) (fm sg ls' qs' 0):=
 Con.enterN (fn:=yDb) (fun _=>rfl) [] [] (zV0 hs hps hl hy hk hx hf hasc H) (fun _=>.nil) (fun P s a1 a2 a3 X=>BindsTo.of_eq rfl)
theorem zGl{Z:List (Addr×Obj)}:∀k,DRepL Z (replicate k .none) (zWi k)
 |0=>.nil
 |k+1=>.cons .none (zGl k)
section
variable {fn:Fn}{d n₀:Nat}{c:Cx fn d n₀}{ps:List (zA0×SV)}{nx:List SO}{v₁:SV}
theorem BinS.mulN{k:Nat}(h₁:LstS nx v₁ [.none])(hk:k≤256):BinS c ps nx .Mult v₁ (.d (.int (k:Nat))) (.d (.list (replicate k .none))) nx:=fun z s a₁ a₂ O r₁ r₂ Q q=>by
 refine O.growZD fun m news F N hZ ho g=>?_
 obtain ⟨A,vs,n,rfl,hm,hr⟩:=h₁.at (c:=c) r₁ hZ ho
 obtain ⟨v,us,rfl,hv,hu⟩:=hr.cons_
 rw [hu.nil_] at hm
 cases DRep.none_ hv
 obtain ⟨t,rfl⟩:=DRep.int_ r₂
 refine zPq F N hm rfl hk fun D h' F' N' lt=>?_
 refine g _ _ h' s.toks F' N' (fun p hp=>ne_of_lt (lt p hp)) fun z₃ le hz3 O₃=>?_
 exact q z₃ _ _ le O₃ (.list hz3 (zGl k))
end
theorem zK4{P:List (zA0×zA0)}{i c d:Nat}(hc:Txt.isspace ⟨#[c]⟩=false)(hd:lastC (P.getD (i-1) default).2=some d):zK3 ⟨#[c]⟩ P i=decide (d=c):=by
 have hp:=zFn hd
 unfold zK3
 rw [hc,Bool.false_and,Bool.false_or,zPa hd,show ((P.getD (i-1) default).2.length != 0)=true from bne_iff_ne.mpr (by (exact ne_of_gt (by assumption))),Bool.true_and]
 by_cases e:d=c
 ·subst e;simp
 ·rw [decide_eq_false e]
  refine beq_false_of_ne fun h=>e ?_
  have:=congrArg (fun s:Str=>s.cps[0]?) h
  simpa using this
theorem zQl{cur:List zA0}{x:zA0}{i:Nat}(h1:1≤i)(h2:i<(cur.map prt++[prt x]).length):∃y∈cur,((cur.map prt++[prt x]).getD (i-1) default).2=y∧cur[i-1]? = some y:=by
 have hl:(cur.map prt++[prt x]).length=cur.length+1:=by simp
 have hi:i-1<cur.length:=by omega
 refine ⟨cur[i-1],getElem_mem hi,?_,getElem?_eq_getElem hi⟩
 rw [getD_eq_getElem?_getD,getElem?_append_left (by rw [length_map];exact hi),getElem?_map,getElem?_eq_getElem hi]
 rfl
theorem yE8:Txt.isspace ⟨#[59]⟩=false:=by kernel_rfl
theorem yDi:Txt.isspace ⟨#[44]⟩=false:=by kernel_rfl
theorem zPz{sg:zA0}{cur:List zA0}{x:zA0}{j:Nat}(hg:∀y∈cur,GoodX y)(hj:zL0 sg j=⟨#[59]⟩):zF9 sg (cur.map prt++[prt x]) j:=fun i h1 h2=>by
 obtain ⟨y,hy,e,_⟩:=zQl h1 h2
 obtain ⟨_,_,d,hd,hne⟩:=hg y hy
 rw [hj,zK4 (d:=d) yE8 (by rw [e];exact hd)]
 exact decide_eq_false hne
theorem zLo{sg:zA0}{cur:List zA0}{x:zA0}{j:Nat}(hg:∀y∈cur,GoodX y)(hc:∀y∈cur,lastC y≠some 44)(hj:zL0 sg j=⟨#[44]⟩):zF9 sg (cur.map prt++[prt x]) j:=fun i h1 h2=>by
 obtain ⟨y,hy,e,_⟩:=zQl h1 h2
 obtain ⟨_,_,d,hd,_⟩:=hg y hy
 rw [hj,zK4 (d:=d) yDi (by rw [e];exact hd)]
 exact decide_eq_false fun h=>hc y hy (h▸hd)
theorem zRx{cur:List zA0}{x y:zA0}(hl:cur.getLast? = some y)(hy:lastC y=some 44):zK3 ⟨#[44]⟩ (cur.map prt++[prt x]) (cur.map prt).length=true:=by
 have hne:cur≠[]:=fun e=>by rw [e] at hl;cases hl
 have hp:=length_pos_iff.mpr hne
 obtain ⟨z,_,e,hz⟩:=zQl (cur:=cur) (x:=x) (i:=cur.length) hp (by simp)
 have:z=y:=by
  rw [List.getLast?_eq_getElem?,hz] at hl
  exact Option.some.inj hl
 subst this
 rw [length_map,zK4 (d:=44) yDi (by rw [e];exact hy)]
 rfl
theorem zRw{cur:List zA0}{x:zA0}:zK3 ⟨#[32]⟩ (cur.map prt++[prt x]) (cur.map prt).length=true:=by
 unfold zK3
 rw [getD_eq_getElem?_getD,getElem?_append_right (le_refl _),sub_self]
 have e1:(Txt.isspace ⟨#[32]⟩&&(((Str.ofString " ").length != 0)&&(Txt.item (Str.ofString " ") 0==⟨#[32]⟩)))=true:=by kernel_rfl
 exact Bool.or_eq_true_iff.mpr (.inl e1)
theorem zVe{sg:zA0}{st:PgSt}{x:zA0}{N k:Nat}(h:PgOk N st)(hsg:zRo sg)(hk:st.k=(k:Int)):
  (∃j,j<sg.cps.size∧1≤(st.cur.map prt).length∧zK3 (zL0 sg j) (st.cur.map prt++[prt x]) (st.cur.map prt).length=true∧(∀j',j'<j→zF9 sg (st.cur.map prt++[prt x]) j')∧(chunk sg st x).lines=st.lines++[zBe (st.cur.map prt)]∧(chunk sg st x).cur.map prt=[prt x])∨
   ((∀j,j<sg.cps.size→zF9 sg (st.cur.map prt++[prt x]) j)∧((k=0∧(chunk sg st x).lines=st.lines∧(chunk sg st x).cur.map prt=st.cur.map prt++[prt x])∨(0<k∧st.cur.map prt=[]∧(chunk sg st x).lines=nlL st.lines [(.ofString "",.ofString "")] k∧(chunk sg st x).cur.map prt=[prt x]))):=by
 by_cases hc:st.cur=[]
 ·refine .inr ⟨fun j _ i h1 h2=>?_,?_⟩
  ·rw [hc] at h2;simp at h2;lia
  ·unfold chunk
   rw [if_pos hc,hc]
   by_cases h0:k=0
   ·subst h0
    exact .inl ⟨rfl,by rw [hk];rfl,rfl⟩
   ·refine .inr ⟨by lia,rfl,?_,rfl⟩
    show (if 0<st.k then _ else _)=_
    rw [if_pos (by lia)]
    unfold nlL
    rw [if_neg (by show k+0≠0;omega),if_neg (by unfold zGd;rw [show (k==0)=false from beq_false_of_ne h0];decide)]
    rfl
 ·have hk0:k=0:=by have:=h.k2 hc;lia
  have hpos:1≤(st.cur.map prt).length:=by rw [length_map];exact length_pos_iff.mpr hc
  by_cases hb:sg = .ofString " ,"∨zBi 44 st.cur=true
  ·have e:chunk sg st x=⟨st.lines++[zBe (st.cur.map prt)],[x],0⟩:=by unfold chunk;rw [if_neg hc,if_pos hb]
   rw [e]
   have fin:∀j,j<sg.cps.size→zL0 sg j=⟨#[44]⟩→zBi 44 st.cur=true→zK3 (zL0 sg j) (st.cur.map prt++[prt x]) (st.cur.map prt).length=true:=fun j _ hj hl=>by
    unfold zBi at hl
    cases hg:st.cur.getLast? with
    |none=>rw [hg] at hl;cases hl
    |some y=>
     rw [hg] at hl
     rw [hj]
     exact zRx hg (beq_iff_eq.mp hl)
   rcases hsg with rfl|rfl|rfl
   ·exact .inl ⟨0,by decide,hpos,zRw,fun j' h=>absurd h (not_lt_zero _),rfl,rfl⟩
   ·exact .inl ⟨0,by decide,hpos,fin 0 (by decide) rfl (hb.resolve_left (by decide)),fun j' h=>absurd h (not_lt_zero _),rfl,rfl⟩
   ·refine .inl ⟨1,by decide,hpos,fin 1 (by decide) rfl (hb.resolve_left (by decide)),fun j' hj'=>?_,rfl,rfl⟩
    obtain rfl:j'=0:=by lia
    exact zPz h.good rfl
  ·have e:chunk sg st x=⟨st.lines,st.cur++[x],0⟩:=by unfold chunk;rw [if_neg hc,if_neg hb]
   rw [e]
   have hno:∀y∈st.cur,lastC y≠some 44:=fun y hy hy44=>by
    obtain ⟨L,z,hL⟩:∃L z,st.cur=L++[z]:=⟨st.cur.dropLast,st.cur.getLast hc,(List.dropLast_concat_getLast _).symm⟩
    have hin:=h.inner
    rw [hL] at hy hin hb
    rw [List.dropLast_concat] at hin
    rcases mem_append.mp hy with hy|hy
    ·exact hin y hy hy44
    ·rw [mem_singleton.mp hy] at hy44
     exact hb (.inr (by unfold zBi;rw [List.getLast?_concat];exact beq_iff_eq.mpr hy44))
   refine .inr ⟨fun j hj=>?_,.inl ⟨hk0,rfl,by rw [map_append];rfl⟩⟩
   rcases hsg with rfl|rfl|rfl
   ·exact absurd (.inl rfl) hb
   ·obtain rfl:j=0:=Nat.lt_one_iff.mp hj
    exact zLo h.good hno rfl
   ·have hj2:j<2:=hj
    rcases Nat.lt_or_ge j 1 with h0|h0
    ·obtain rfl:j=0:=by lia
     exact zPz h.good rfl
    ·obtain rfl:j=1:=by lia
     exact zLo h.good hno rfl
noncomputable def zYw:Fn:=⟨.ofString "_law_turned",zAl (stAt 23),292,.ref 291,fun _=>[],rfl⟩
noncomputable abbrev tuN(f:Nat→Nat):List (zA0×SV):=[(.ofString "ways",.d (.list (zDd f))),(.ofString "spots",.r 0),(.ofString "rings",.r 1),(.ofString "gifts",.r 2)]
noncomputable abbrev tuT(S:List Nat)(Rs:List (List Nat))(n:Nat):List SO:=[.lst (pints (natI S)),.lst (zDc Rs),.lst (replicate n .none)]
noncomputable def tuFor:Stmt:=(zAf (stAt 23)).getD 1 default
theorem zQg(S:List Nat)(z:Nat):(pints (natI S)).take (cut z S) ++ .int (z:Nat)::(pints (natI S)).drop (cut z S)=pints (natI (zJ8 z S)):=by
 unfold zJ8 pints natI
 simp only [map_append,map_cons,map_take,map_drop]
theorem yAy{c:Cx zYw 6 0}{Q:Flow→Shared→Prop}{f:Nat→Nat}{rest:List Stmt}{bs:List (List Stmt)}(hf:∀x,x<7→f x<7)(done:∀S n,SpotsAt f 7 S→n≤7→J c Q (tuN f) (tuT S [] n) (rest::bs)):J c Q (tuN f) (tuT [] [] 0) ((tuFor::rest)::bs):=by
 conv=>arg 5;arg 1;arg 1;whnf
 refine J.forRange (X:=List Nat×Nat) 7 (fun i w=>SpotsAt f i w.1∧w.2≤i) (fun _ _=>tuN f) (fun _ w=>tuT w.1 [] w.2) ([],0) ⟨SpotsAt.zero f,le_refl _⟩ (Ev.call (.built zAr zAq (by decide)) (.cons .int .nil) .range1 .t) rfl zAp zAw ⟨rfl,rfl,rfl,rfl,rfl⟩ ?turn fun w ⟨h1,h2⟩=>J.pop (done w.1 w.2 h1 h2)
 intro i w hi ⟨hS,hn⟩ c' Q₁ sb q
 rw [show (0:Int)+(i:Nat)*1=(i:Nat) by lia]
 obtain ⟨S,n⟩:=w
 dsimp only at hS hn ⊢
 have hSl:=hS.len hf (le_of_lt hi)
 have hl:(natI S).length≤1000:=by rw [length_map];(exact le_trans (by assumption) (le_of_ble_eq_true rfl))
 have hz:=zJc hf 7 hi
 refine J.seq (Ex.assign (.loc rfl)) ?_
 refine J.forRange (X:=Unit) 7 (fun _ _=>True) (fun j _=>(.ofString "at",.d (.int (it f j i:Nat)))::tuN f) (fun _ _=>tuT S [] n) () trivial (Ev.call (.built zAr zAq (by decide)) (.cons .int .nil) .range1 .t) rfl zAp zAw ⟨rfl,rfl,rfl,rfl,rfl⟩ ?inner fun _ _=>J.pop ?after
 case inner=>
  intro j _ hj _ c' Q₁ sb q
  refine J.seq (Ex.assign (Ev.sub (.loc rfl) (.loc rfl) (SubS.itemD (by simp) (zCk (zJc hf j hi))))) ?_
  rw [←zFm f j i]
  exact J.pop (J.next q () trivial ⟨rfl,rfl,rfl,rfl,rfl⟩)
 case after=>
  have hcl:cut (it f 7 i) S≤(natI S).length:=by rw [length_map];exact zL4 _ _
  have hcr:cutr (it f 7 i) S≤(natI S).length:=by rw [length_map];exact zHj _ _
  refine J.ite (EvB.cmp (Ev.call (.glob zJ4) (.cons (.loc rfl) (.cons (.loc rfl) .nil)) (CallS.con [0] (zU5 hl hcl (yBk hS.sorted)) rfl rfl rfl rfl rfl) (.k zJn)) (Ev.call (.glob zL8) (.cons (.loc rfl) (.cons (.loc rfl) .nil)) (CallS.con [0] (zOc hl hcr (zVg hS.sorted)) rfl rfl rfl rfl rfl) (.k zLx)) .eqI) (fun hb=>?_) fun hb=>J.pop (J.pop ?_)
  ·have hz':=(zFe hS.sorted).mp (Int.ofNat.inj (eq_of_beq hb))
   refine J.seq (Ex.expr (Ev.meth (.loc rfl) (.append rfl) (.cons (Ev.call (.glob zOz) (.cons (.loc rfl) (.cons (.loc rfl) .nil)) (CallS.con [0] (zY8 hl hcl (yBk hS.sorted)) rfl rfl rfl rfl rfl) (.k zQm)) .nil) (CallS.append rfl (by rw [List.length_replicate];lia)) .b)) (J.pop (J.pop ?_))
   refine J.next q (zJ8 (it f 7 i) S,n+1) ⟨hS.new hz',Nat.succ_le_succ hn⟩ ⟨rfl,?_,rfl,rfl,rfl⟩
   show [SO.lst _,SO.lst _,SO.lst _]=[SO.lst _,SO.lst _,SO.lst _]
   rw [←zQg,List.replicate_succ']
  ·exact J.next q (S,n) ⟨hS.old (Classical.byContradiction fun hz'=>absurd hb (by rw [(zFe hS.sorted).mpr hz'];simp)),le_succ_of_le hn⟩ ⟨rfl,rfl,rfl,rfl,rfl⟩
theorem zGq(P:Params):nsIn (kW P) mainGlobals (.ofString "_strcoll")=some (some (.ref 273)):=by kernel_rfl
theorem zXl(P:Params):keepIn (kW P) (.ref 273)=true:=by kernel_rfl
theorem zZ1(P:Params):nsIn (kW P) mainGlobals (.ofString "_law_leader")=some (some (.ref 287)):=by kernel_rfl
theorem yE0(P:Params):keepIn (kW P) (.ref 287)=true:=by kernel_rfl
noncomputable def zRf:Stmt→List Stmt
 |.While _ b _ _=>b
 |_=>[]
noncomputable def tuWhile:Stmt:=(zAf (stAt 23)).getD 2 default
noncomputable def tuTake:Stmt:=(zRf tuWhile).getD 1 default
noncomputable def tuFrnt:Stmt:=(zRf tuWhile).getD 2 default
noncomputable abbrev zBa(k:Nat):PyData:=.tuple [.str (.ofString " "),.str (ltr k)]
noncomputable abbrev tkN(f:Nat→Nat)(a fr:Nat):List (zA0×SV):=(.ofString "at",.d (.int a))::(.ofString "front",.d (.int fr))::(.ofString "pile",.r 3)::tuN f
noncomputable abbrev tkT(S:List Nat)(Rs:List (List Nat))(n:Nat)(l:List Nat):List SO:=[.lst (pints (natI S)),.lst (zDc Rs),.lst (replicate n .none),.accO 4 (l.map zBa),.attrs [(.ofString "_initial_size",.d (.int 0))]]
theorem zQe(S:List Nat)(z:Nat):(pints (natI S)).take (cut z S)++(pints (natI S)).drop (cut z S+1)=pints (natI (zNo z S)):=by
 unfold zNo pints natI
 simp only [map_append,map_take,map_drop]
theorem zQf{S:List Nat}{z:Nat}(hs:S.Pairwise (· < ·))(hz:z∈S):(pints (natI S))[cut z S]? = some (.int (z:Nat)):=by
 rw [getElem?_map,getElem?_map,zK8 hs hz]
 rfl
section
variable {fn:Fn}{d n₀:Nat}{c:Cx fn (d+2) n₀}{ps:List (zA0×SV)}{S:List Nat}{Rs:List (List Nat)}{n z:Nat}{l:List Nat}
theorem zTw(hS:S.Pairwise (· < ·))(hl:S.length≤7):CallS c ps (tkT S Rs n l) (.ref 105) [.r 0,.d (.int (z:Nat))] [] (.d (.int (cut z S:Nat))) (tkT S Rs n l):=
 CallS.con [0] (zU5 (by rw [length_map];(exact le_trans (by assumption) (le_of_ble_eq_true rfl))) (by rw [length_map];exact zL4 _ _) (yBk hS)) (zAg (by lia)) rfl rfl rfl rfl
theorem zXu(hS:S.Pairwise (· < ·))(hl:S.length≤7):CallS c ps (tkT S Rs n l) (.ref 87) [.r 0,.d (.int (z:Nat))] [] (.d (.int (cutr z S:Nat))) (tkT S Rs n l):=
 CallS.con [0] (zOc (by rw [length_map];omega) (by rw [length_map];exact zHj _ _) (zVg hS)) (zAg (by omega)) rfl rfl rfl rfl
theorem yB8(hS:S.Pairwise (· < ·))(hl:S.length≤7)(hz:z∈S):CallS c ps (tkT S Rs n l) (.builtin "list.pop") [.r 0,.d (.int (cut z S:Nat))] [] (.d (.int z)) (tkT (zNo z S) Rs n l):=by
 have:=CallS.popAt (c:=c) (ps:=ps) (nx:=tkT S Rs n l) (k:=0) rfl (by rw [length_map,length_map];(exact le_trans (by assumption) (le_of_ble_eq_true rfl))) (zQf hS hz)
 rw [zQe] at this
 exact this
theorem zXw(hl:l.length≤1000):CallS c ps (tkT S Rs n l) (.ref 206) [.r 3,.d (.str (.ofString " ")),.d (.str (ltr z))] [] (.d .none) (tkT S Rs n (l++[z])):=by
 have:=CallS.con (c:=c) (ps:=ps) (nx:=tkT S Rs n l) [3,4] (zU8 (k:=0) (x:=.ofString " ") (y:=ltr z) (l:=l.map zBa) (by rw [length_map];(exact le_trans (by assumption) (le_of_ble_eq_true rfl)))) (zAg (by omega)) rfl rfl rfl rfl
 rw [show l.map zBa++[.tuple [.str (.ofString " "),.str (ltr z)]]=(l++[z]).map zBa by rw [map_append];rfl] at this
 exact this
theorem zTx(hn:n≤10000):CallS c ps (tkT S Rs n l) (.builtin "list.append") [.r 2,.d .none] [] (.d .none) (tkT S Rs (n+1) l):=by
 have:=CallS.append (c:=c) (ps:=ps) (nx:=tkT S Rs n l) (k:=2) (l:=replicate n .none) (y:=.none) rfl (by rw [List.length_replicate];(exact le_trans (by assumption) (le_of_ble_eq_true rfl)))
 rw [←List.replicate_succ'] at this
 exact this
end
theorem zEq{a:Nat}(h:a<7):fitsSsize (a:Nat)=true:=by
 have:∀a,a<7→fitsSsize (a:Nat)=true:=by decide
 exact this a h
theorem zN4{a:Nat}(h:a<7):((a:Nat):Int)<((Str.ofString "Cabdefg").length:Int):=by
 rw [show (Str.ofString "Cabdefg").length=7 by decide]
 (exact ofNat_lt.mpr (by assumption))
theorem Ex.exprI{fn:Fn}{d n₀:Nat}{c:Cx fn d n₀}{ps:List (zA0×SV)}{nx nx':List SO}{e:Expr}{pos:Pos}{i:Int}(h:Ev c c.env ps nx e (.d (.int i)) nx')(hi:autoParam (interactive c.env=false) T0R)(hs:autoParam (swapsWith e none pos.line c.env=pure false) T0R):Ex c ps nx (.Expr e pos) ps nx':=
 fun z s O Q k=>wpAny_Expr (h z s O _ fun z₁ s₁ a l₁ O₁ r=>by obtain ⟨t,rfl⟩:=DRep.int_ r;exact k z₁ s₁ O₁) hi hs
theorem zXb{c:Cx zYw 6 0}{Q:Flow→Shared→Prop}{f:Nat→Nat}{rest:List Stmt}{bs:List (List Stmt)}{S0 rot:List Nat}{Rs:List (List Nat)}{n0:Nat}(hf:∀x,x<7→f x<7)(R:Rot f rot)(hS:S0.Pairwise (· < ·))(hS7:∀x∈S0,x<7)(hc:∀y∈rot,y∈S0)(hn:n0≤1000)(done:∀S a,TakeAt S0 rot rot.length S→J c Q (tkN f a 0) (tkT S Rs (n0+rot.length) rot) (rest::bs)):J c Q (tkN f (atI rot 0) 0) (tkT S0 Rs n0 []) ((tuTake::rest)::bs):=by
 conv=>arg 5;arg 1;arg 1;whnf
 refine J.while (X:=Nat×List Nat) (fun w=>w.2.length) (fun w=>TakeAt S0 rot w.1 w.2) (fun w=>tkN f (atI rot w.1) 0) (fun w=>tkT w.2 Rs (n0+w.1) (rot.take w.1)) (0,S0) (TakeAt.zero hS) ⟨rfl,rfl,rfl,rfl,rfl⟩ ?_
 rintro ⟨i,S⟩ hT
 dsimp only at hT ⊢
 have hS7':∀x∈S,x<7:=fun x hx=>hS7 x ((hT.mem x).mp hx).1
 have hSl:S.length≤7:=zA3 (hT.sorted.imp fun h=>ne_of_lt h) hS7'
 have hr7:rot.length≤7:=zA3 R.nodup fun x hx=>hS7 x (hc x hx)
 have hle:=hT.le
 have hs:=hT.sorted
 refine .mk (EvB.cmp (Ev.call (.glob zJ4) (.cons (.loc rfl) (.cons (.loc rfl) .nil)) (zTw hs hSl) (.k zJn)) (Ev.call (.glob zL8) (.cons (.loc rfl) (.cons (.loc rfl) .nil)) (zXu hs hSl) (.k zLx)) .ltI) (fun hb Q₁ q=>?_) fun hb=>?_
 ·have hz:atI rot i∈S:=(zFf hs).mp (ofNat_lt.mp (of_decide_eq_true hb))
  have hi:=(hT.here R hc).mp hz
  have hat:=hS7' _ hz
  have hri:rot[i]? = some (atI rot i):=by rw [zIm (getElem?_eq_getElem hi)];exact getElem?_eq_getElem hi
  refine J.seq (Ex.exprI (Ev.meth (.loc rfl) (.pop rfl) (.cons (Ev.call (.glob zJ4) (.cons (.loc rfl) (.cons (.loc rfl) .nil)) (zTw hs hSl) (.k zJn)) .nil) (yB8 hs hSl hz) .b)) ?_
  refine J.seq (Ex.expr (Ev.meth (.loc rfl) (.append rfl) (.cons (Ev.meth (.loc rfl) (MethS.push rfl rfl) (.cons .str (.cons (Ev.sub .str (.loc rfl) (zD2 _ hat▸SubS.text (zEq hat) (by (exact natCast_nonneg _)) (zN4 hat))) .nil)) (zXw (by rw [length_take];lia)) (.k yAf)) .nil) (zTx (by lia)) .b)) ?_
  refine J.seq (Ex.assign (Ev.sub (.loc rfl) (.loc rfl) (SubS.itemD (by simp) (zCk hat)))) (J.pop ?_)
  rw [R.step hi,show rot.take i++[atI rot i]=rot.take (i+1) by rw [take_add_one,hri];rfl]
  exact J.next q (i+1,zNo (atI rot i) S) ⟨hT.next R hc hi,by have:=zSb hs hz;show (zNo _ S).length<S.length;lia⟩ ⟨rfl,rfl,rfl,rfl,rfl⟩
 ·have hi:i=rot.length:=Nat.le_antisymm hT.le (le_of_not_lt fun hlt=>absurd (ofNat_lt.mpr ((zFf hs).mpr ((hT.here R hc).mpr hlt))) (of_decide_eq_false hb))
  subst hi
  rw [take_length]
  exact done S _ hT
theorem zEy:∀a,a<7→∀b,b<7→(zOi (ltr a) (ltr b)=1↔b<a):=by decide +kernel
section
variable {fn:Fn}{d n₀:Nat}{c:Cx fn (d+3) n₀}{ps:List (zA0×SV)}{S:List Nat}{Rs:List (List Nat)}{n z:Nat}{l:List Nat}
theorem yDk(hl:l.length≤1000):CallS c ps (tkT S Rs n l) (.ref 259) [.r 3] [] (.d (.int l.length)) (tkT S Rs n l):=by
 have:=CallS.con (c:=c) (ps:=ps) (nx:=tkT S Rs n l) [3,4] (zYc (k:=0) (l:=l.map zBa) (by rw [length_map];(exact le_trans (by assumption) (le_of_ble_eq_true rfl)))) (zAg (by lia)) rfl rfl rfl rfl
 rw [length_map] at this
 exact this
theorem zNq{o i:Expr}{pos pos' px:Pos}{k:Nat}(ho:Ev c c.env ps (tkT S Rs n l) o (.r 3) (tkT S Rs n l))(hi:Ev c c.env ps (tkT S Rs n l) i (.d (.int (k:Nat))) (tkT S Rs n l))(hk:k<l.length)(hl:l.length≤1000)(hsub:∀a u,subscripted i false (.ref a) (.int k u)=operate [.ref a,.int k u] (getItem (.ref a) (.int k u))):
  Ev c c.env ps (tkT S Rs n l) (.Subscript (.Subscript o i pos) (.Constant (.int 1) 0 px) pos') (.d (.str (ltr (l.getD k 0)))) (tkT S Rs n l):=by
 refine Ev.sub (Ev.sub ho hi (SubS.accI rfl rfl (by rw [length_map];(exact le_trans (by assumption) (le_of_ble_eq_true rfl))) (y:=zBa (l.getD k 0)) ?_ hsub)) .int (SubS.tup (j:=1) rfl (le_of_ble_eq_true rfl))
 rw [getElem?_map,getElem?_eq_getElem hk,getD_eq_getElem?_getD,getElem?_eq_getElem hk]
 rfl
end
theorem zTo{c:Cx zYw 6 0}{Q:Flow→Shared→Prop}{f:Nat→Nat}{rest:List Stmt}{bs:List (List Stmt)}{S rot:List Nat}{Rs:List (List Nat)}{n a:Nat}(hr:rot≠[])(hr7:rot.length≤7)(hlt:∀x∈rot,x<7)(done:∀fr,fr<rot.length→(∀y∈rot,y≤rot.getD fr 0)→J c Q (tkN f a fr) (tkT S Rs n rot) (rest::bs)):J c Q (tkN f a 0) (tkT S Rs n rot) ((tuFrnt::rest)::bs):=by
 conv=>arg 5;arg 1;arg 1;whnf
 refine J.forRange (X:=Nat) rot.length (fun i fr=>fr<rot.length∧∀j,j<i→rot.getD j 0≤rot.getD fr 0) (fun _ fr=>tkN f a fr) (fun _ _=>tkT S Rs n rot) 0 ⟨length_pos_iff.mpr hr,fun j h=>absurd h (not_lt_zero j)⟩
  (Ev.call (.built zAr zAq (by decide)) (.cons (Ev.meth (.loc rfl) (MethS.pc rfl rfl) .nil (yDk (by (exact le_trans (by assumption) (le_of_ble_eq_true rfl)))) (.k zXk)) .nil) .range1 .t) rfl (zCj _ (by omega)) (zDs _) ⟨rfl,rfl,rfl,rfl,rfl⟩ ?turn fun fr ⟨h1,h2⟩=>J.pop (done fr h1 fun y hy=>?fin)
 case fin=>
  obtain ⟨j,hj⟩:=mem_iff_getElem?.mp hy
  have:=h2 j (List.getElem?_eq_some_iff.mp hj).1
  rwa [zA7 hj] at this
 case turn=>
  intro i fr hi ⟨h1,h2⟩ c' Q₁ sb q
  rw [show (0:Int)+(i:Nat)*1=(i:Nat) by lia]
  have lt:∀k,k<rot.length→rot.getD k 0<7:=fun k hk=>by
   rw [zA7 (getElem?_eq_getElem hk)]
   exact hlt _ (getElem_mem hk)
  refine J.ite (EvB.cmp (Ev.call (.glob zGq) (.cons (zNq (.loc rfl) (.loc rfl) hi (by (exact le_trans (by assumption) (le_of_ble_eq_true rfl))) (by intro _ _;with_unfolding_all rfl)) (.cons (zNq (.loc rfl) (.loc rfl) h1 (by omega) (by intro _ _;with_unfolding_all rfl)) .nil)) (CallS.con0 zGf rfl rfl) (.k zXl)) .int .eqI) (fun hb=>?_) fun hb=>J.pop (J.pop ?_)
  ·have hb':=(zEy _ (lt i hi) _ (lt fr h1)).mp (eq_of_beq hb)
   refine J.seq (Ex.assign (.loc rfl)) (J.pop (J.pop ?_))
   exact J.next q i ⟨hi,fun j hj=>by
    rcases lt_or_eq_of_le (le_of_lt_succ hj) with h|rfl
    ·exact le_trans (h2 j h) (le_of_lt hb')
    ·exact le_refl _⟩ ⟨rfl,rfl,rfl,rfl,rfl⟩
  ·have hb':¬rot.getD fr 0<rot.getD i 0:=fun h=>by
    rw [(zEy _ (lt i hi) _ (lt fr h1)).mpr h] at hb
    cases hb
   exact J.next q fr ⟨h1,fun j hj=>by
    rcases lt_or_eq_of_le (le_of_lt_succ hj) with h|rfl
    ·exact h2 j h
    ·exact le_of_not_lt hb'⟩ ⟨rfl,rfl,rfl,rfl,rfl⟩
theorem zZg:∀x,x<7→((ltr x==Str.ofString "C")=true↔x=0):=by decide +kernel
theorem yC3:ltr 0=("C" : Str):=by decide
noncomputable abbrev nmT(f:Nat→Nat)(g:Str)(k:Nat):Str:=zA1 g (trail f (word f) k)
theorem zCh(f:Nat→Nat)(wd:List Nat):∀n k,(zAt f wd n k).length≤n+wd.length
 |0,k=>by unfold zAt;rw [length_drop];omega
 |n+1,k=>by
  unfold zAt
  split
  ·rw [length_drop];omega
  ·have:=zCh f wd n (f k)
   rw [length_cons]
   lia
theorem zWh{f:Nat→Nat}(hf:∀x,x<7→f x<7){g:Str}(hg:g.length≤100)(k:Nat):(nmT f g k).length≤200:=by
 have h1:=zCh f (word f) 7 k
 have h2:=zA3 (zA5 hf) (zA9 hf)
 have h3:=zAa g (trail f (word f) k)
 have h4:(trail f (word f) k).length≤14:=le_trans h1 (by lia)
 show (zA1 g (trail f (word f) k)).length≤200
 lia
theorem DRepL.rev{Z:List (Addr×Obj)}:∀{l:List PyData} {vs:List Value},DRepL Z l vs→DRepL Z l.reverse vs.reverse
 |[],_,h=>by rw [h.nil_];exact .nil
 |x::l,_,h=>by
  obtain ⟨v,us,rfl,a,b⟩:=h.cons_
  rw [List.reverse_cons,List.reverse_cons]
  exact (DRepL.rev b).append (.cons a .nil)
section
variable {fn:Fn}{d n₀:Nat}{c:Cx fn d n₀}{E:Env}{ps:List (zA0×SV)}{nx nx₁:List SO}{z:Wd}{s:Shared}{value e:Expr}{pos px sp p1 p2 p3 p4:Pos}{v:SV}{l:List PyData}{x:Nat}{k1 k2 k3:Nat}
theorem Ev.revL{ops:Addr→Addr→List Value}(hv:Ev c E ps nx value v nx₁)(hL:LstS nx₁ v l)(hz:l.length≤100000)(h1:Ev c E ps nx₁ e (.d (.int (-1))) nx₁)(hs:autoParam (∀A B,subscripted (.Slice none none (some e) sp) false (.ref A) (.ref B)=operate (ops A B) (getItem (.ref A) (.ref B))) zKr):Ev c E ps nx (.Subscript value (.Slice none none (some e) sp) pos) (.d (.list l.reverse)) nx₁:=fun z s O Q q=>
 Subscript_ (hv z s O _ fun z₁ s₁ va l₁ O₁ r₁=>wpAny_Slice (wpAny_pure (wpAny_pure (h1 z₁ s₁ O₁ _ fun z₂ s₂ vk l₂ O₂ r₂=>by
  obtain ⟨t,rfl⟩:=DRep.int_ r₂
  refine O₂.growZD fun m news F N hZ ho g=>?_
  obtain ⟨A,vs,n,rfl,hm,hr⟩:=hL.at (c:=c) (r₁.mono l₂) hZ ho
  refine zAv (x:=.ofString "x") (px:=default) ?_
  refine krv_lit (its:=vs.toArray) F N ⟨_,(N _ hm).1,rfl,n,rfl⟩ (.int _ _) rfl (fun D h' F' N' lt=>?_) (hs _ _) (fun _=>rfl) (by rw [size_toArray,sizeLine_eq,hr.len];(exact le_trans (by assumption) (le_of_ble_eq_true rfl)))
  refine g D _ h' s₂.toks F' N' (fun p hp=>ne_of_lt (lt p hp)) fun z₃ le hz3 O₃=>?_
  exact q z₃ _ _ ((l₁.trans l₂).trans le) O₃ (.list hz3 ((hr.mono le.2).rev))))))
end
theorem yDe(P:Params):nsIn (kW P) mainGlobals (.ofString "_build_localename")=some (some (.ref 280)):=by kernel_rfl
theorem yDh(P:Params):keepIn (kW P) (.ref 280)=true:=by kernel_rfl
noncomputable def zYs:Fn:=⟨.ofString "_law_named",zAl (stAt 26),313,.ref 312,fun _=>[],rfl⟩
noncomputable def naFor1:Stmt:=(zAf (stAt 26)).getD 1 default
noncomputable def la(x:Nat):Option zA0:=if x=0 then none else some (ltr x)
theorem zU2(x:Nat)(y:zA0):blS (la x) y=(ltr x++("." : Str))++y:=by
 unfold la blS
 by_cases h:x=0
 ·subst h;rw [if_pos rfl,yC3];rfl
 ·rw [if_neg h];rfl
theorem zUk{x:Nat}:∀y,la x=some y→y.length≤1000:=fun y h=>by
 unfold la at h
 split at h
 ·cases h
 ·cases h;show 1≤1000;decide
section
variable {fn:Fn}{d n₀:Nat}{c:Cx fn d n₀}{E:Env}{ps:List (zA0×SV)}{nx:List SO}{l m:Expr}{p1 p2 p3 p4:Pos}{x k1 k2:Nat}
theorem Ev.lang(hx:x<7)(hl:Ev c E ps nx l (.d (.str (ltr x))) nx)(hl':Ev c E ps nx m (.d (.str (ltr x))) nx)(hm:autoParam (behindInMarks .Eq (.Constant (.str (.ofString "C")) k1 p1)=false) T0W):Ev c E ps nx (.IfExp (.Compare l [.Eq] [.Constant (.str (.ofString "C")) k1 p1] p2) (.Constant .none k2 p3) m p4) (.d (lang (la x))) nx:=by
 unfold la
 by_cases h:x=0
 ·rw [if_pos h]
  exact Ev.ifb (EvB.cmp hl .str .eqT hm) ((zZg x hx).mpr h) .non
 ·rw [if_neg h]
  have hb:(ltr x==Str.ofString "C")=false:=by
   cases e:ltr x==Str.ofString "C" with
   |false=>rfl
   |true=>exact absurd ((zZg x hx).mp e) h
  have:=EvB.cmp hl (Ev.str (i:=.ofString "C") (k:=k1) (px:=p1)) .eqT hm (pos:=p2)
  rw [hb] at this
  exact Ev.iff this hl'
end
noncomputable abbrev zEj(wd:List Nat):List PyData:=wd.map fun k=>.str (ltr k)
noncomputable abbrev naN(f:Nat→Nat)(g y:zA0):List (zA0×SV):=[(.ofString "name",.d (.str y)),(.ofString "names",.r 0),(.ofString "letters",.d (.list (zEj (word f)))),(.ofString "ways",.d (.list (zDd f))),(.ofString "ground",.d (.str g))]
theorem yA3{c:Cx zYs 6 0}{Q:Flow→Shared→Prop}{f:Nat→Nat}{g:zA0}{rest:List Stmt}{bs:List (List Stmt)}(hf:∀x,x<7→f x<7)(hg:g.length≤100)(done:J c Q (naN f g (zA1 g (word f))) [namO (fun k=>k∈word f) (nmT f g) (word f).length] (rest::bs)):J c Q (naN f g g) [namO (fun k=>k∈(word f).drop (word f).length) (nmT f g) 0] ((naFor1::rest)::bs):=by
 conv=>arg 5;arg 1;arg 1;whnf
 have hn:=zA5 hf
 have h7:=zA9 hf
 have hwl:(word f).length≤7:=zA3 hn h7
 have hin:∀{x q},(word f)[q]? = some x→nmT f g x=zA1 g ((word f).drop q):=fun {x q} h=>by
  unfold nmT
  rw [zCi (mem_of_getElem? h),zLc hn h]
 generalize hw:word f=wd at *
 refine J.forList (X:=Unit) (y:=(zEj wd).reverse) (nx':=[namO (fun k=>k∈wd.drop wd.length) (nmT f g) 0]) (fun _ _=>True) (fun i _=>naN f g (zA1 g (wd.drop (wd.length-i)))) (fun i _=>[namO (fun k=>k∈wd.drop (wd.length-i)) (nmT f g) i]) () trivial (Ev.revL (.loc rfl) (by rw [hw];rfl) (by rw [length_map];(exact le_trans (by assumption) (le_of_ble_eq_true rfl))) .m1) ?less ?turn ?done
 case less=>
  have e:zA1 g (wd.drop (wd.length-0))=g:=by rw [Nat.sub_zero,List.drop_length];rfl
  rw [e]
  exact ⟨rfl,rfl,rfl,rfl,rfl⟩
 case done=>
  intro _ _
  rw [List.length_reverse,length_map,sub_self,List.drop_zero]
  exact J.pop done
 case turn=>
  intro i _ hi _ c' Q₁ sb q
  rw [List.length_reverse,length_map] at hi
  have hql:wd.length-1-i<wd.length:=by omega
  generalize hq:wd.length-1-i=j at hql
  have hx:=getElem?_eq_getElem hql
  have hdq:wd.drop j=wd[j]::wd.drop (j+1):=drop_eq_getElem_cons hql
  have e1:(zEj wd).reverse.getD i .none = .str (ltr wd[j]):=by
   rw [getD_eq_getElem?_getD,List.getElem?_reverse (by rw [length_map];exact hi),length_map,hq,getElem?_map,hx]
   rfl
  generalize wd[j]=x at hx hdq e1
  have hx7:=h7 x (mem_of_getElem? hx)
  have hnl:(zA1 g (wd.drop (j+1))).length≤1000:=by rw [zAa,length_drop];omega
  rw [e1,show wd.length-i=j+1 by lia]
  refine J.seq (Ex.assign (Ev.call (.glob yDe) (.cons (Ev.tuple (xs:=[_,_]) (.cons (Ev.lang hx7 (.loc rfl) (.loc rfl)) (.cons (.loc rfl) .nil))) .nil) (CallS.con0 (yBh hnl zUk) rfl rfl) (.k yDh))) ?_
  rw [zU2,show (ltr x++("." : Str))++zA1 g (wd.drop (j+1))=nmT f g x by rw [hin hx,hdq];rfl]
  refine J.seq (Ex.setN (Pq:=fun k=>k∈wd.drop j) (.loc rfl) (.loc rfl) (.loc rfl) rfl hx7 (by lia) fun k _=>by rw [hdq,mem_cons];exact Or.comm) (J.pop ?_)
  refine J.next q () trivial ?_
  rw [show wd.length-(i+1)=j by lia,←hin hx]
  exact ⟨rfl,rfl,rfl,rfl,rfl⟩
noncomputable def yBr:Fn:=⟨.ofString "_ValueFormatter.__init__",zAl (zBw 16 0),119,.ref 118,fun _=>[],rfl⟩
theorem zNf(P:Params):findIn (kW P) (.ref 178) "__setattr__" = some (some (.builtin "object.__setattr__")):=by kernel_rfl
theorem zN7(P:Params):plainOver (kW P) 178=true:=by kernel_rfl
theorem zMv(P:Params):hasDictIn (kW P) 178=true:=by kernel_rfl
theorem CallS.lenS{fn:Fn}{d n₀:Nat}{c:Cx fn d n₀}{ps:List (zA0×SV)}{nx:List SO}{y:zA0}(h:y.length≤1000000):CallS c ps nx (.builtin "len") [.d (.str y)] [] (.d (.int y.length)) nx:=fun z s xs O hx Q q=>by
 obtain ⟨_,rfl,r⟩:=hx.c1
 obtain ⟨t,rfl⟩:=DRep.str_ r
 exact PyProof.Rows.len_str (fun e=>absurd (Int.le_trans e (ofNat_le.mpr h)) (by decide)) (q z _ _ (.refl _) (O.toks _) .int)
theorem zSi{sg:zA0}{k:Int}:ConK 2 119 [.r 0,.d (.int k),.d (.int 0),.d (.str (.ofString " ")),.d (.str sg)] [] [.inst 178 1,.attrs []] (.d .none) [.inst 178 1,.attrs (fmA sg),.lst [],.accO 4 [],szA k]:=by
 refine ConK.enterN (fn:=yBr) (fun _=>rfl) [] [] ?hbody (fun _=>.nil) (fun P s a1 a2 a3 a4 a5 X=>BindsTo.of_eq rfl)
 intro c Q ret fin
 conv=>arg 5;arg 1;whnf
 refine J.seq (Ex.setI (.loc rfl) (.loc rfl) rfl rfl rfl zNf zN7 zMv fun _=>by kernel_rfl) ?_
 refine J.seq (Ex.setI (.loc rfl) (.loc rfl) rfl rfl rfl zNf zN7 zMv fun _=>by kernel_rfl) ?_
 refine J.seq (Ex.setI (Ev.call (Ev.built zD9 zD8 (by decide)) (.cons (.loc rfl) .nil) (CallS.lenS (by decide)) .b) (.loc rfl) rfl rfl rfl zNf zN7 zMv fun _=>by kernel_rfl) ?_
 refine J.seq (Ex.setI (.loc rfl) (.loc rfl) rfl rfl rfl zNf zN7 zMv fun _=>by kernel_rfl) ?_
 refine J.seq (Ex.setI (Ev.list (xs:=[]) .nil) (.loc rfl) rfl rfl rfl zNf zN7 zMv fun _=>by kernel_rfl) ?_
 refine J.seq (Ex.setI (Ev.call (.glob zOy) (.cons (.loc rfl) .nil) (CallS.con [] (yBf (k:=k)) rfl rfl rfl rfl rfl) (.k yCq)) (.loc rfl) rfl rfl rfl zNf zN7 zMv fun _=>by kernel_rfl) ?_
 exact J.pop (fin rfl _)
theorem yBi{sg:zA0}{k:Int}:Con 3 178 [.d (.int k),.d (.int 0),.d (.str (.ofString " ")),.d (.str sg)] [] [] (.r 0) [.inst 178 1,.attrs (fmA sg),.lst [],.accO 4 [],szA k]:=
 Con.cls (so:=.inst 178 1) (mk:=instObj 178) (fun P z x dx h=>⟨dx,h,rfl⟩) (fun w A h₀ h L m news s z xs Q F X N hx q=>call_cls (fI:=119) F X N (by kernel_rfl) (by kernel_rfl) (by kernel_rfl) q) zSi
noncomputable abbrev fmB(sg:zA0):List (zA0×SV):=[(.ofString "_maxlen",.d (.int 0)),(.ofString "_continuation_ws",.d (.str (.ofString " "))),(.ofString "_continuation_ws_len",.d (.int ((Str.ofString " ").length:Int))),(.ofString "_splitchars",.d (.str sg)),(.ofString "_lines",.r 4),(.ofString "_current_line",.r 5)]
noncomputable abbrev pgO(sg:zA0)(ls:List zA0)(ps:List (zA0×zA0))(k g:Nat):List SO:=[zG1 224 zDf,zG1 231 zDh,.inst 178 3,.attrs (fmB sg),.lst (ls.map .str),.accO 6 (pcs ps),szA k,.lst (replicate g .none)]
section
variable {fn:Fn}{d n₀:Nat}{c:Cx fn (d+10) n₀}{ns:List (zA0×SV)}{sg:zA0}{ls ls':List zA0}{qs qs':List (zA0×zA0)}{k g k':Nat}
theorem zK0{d':Nat}{f:Addr}{vs:List SV}{r:SV}(C:Con d' f vs [] (fm sg ls qs k) r (fm sg ls' qs' k'))(hd:d'≤9):CallS c ns (pgO sg ls qs k g) (.ref f) (vs.map (SV.ren (rho [2,3,4,5,6,0,1] 8))) [] (r.ren (rho [2,3,4,5,6,0,1] 8)) (pgO sg ls' qs' k' g):=
 CallS.con [2,3,4,5,6,0,1] C (zAg (by (exact lt_of_le_of_lt (by assumption) (le_of_ble_eq_true rfl)))) rfl rfl rfl rfl
theorem zTy(hg:g≤10000):CallS c ns (pgO sg ls qs k g) (.builtin "list.append") [.r 7,.d .none] [] (.d .none) (pgO sg ls qs k (g+1)):=by
 have:=CallS.append (c:=c) (ps:=ns) (nx:=pgO sg ls qs k g) (k:=7) (l:=replicate g .none) (y:=.none) rfl (by rw [List.length_replicate];(exact le_trans (by assumption) (le_of_ble_eq_true rfl)))
 rw [←List.replicate_succ'] at this
 exact this
end
theorem zBf{α:Type}(vs:List α):zDq vs none (some (-1))=vs.dropLast:=by
 unfold zDq
 have e1:kms_lo none vs.length=0:=rfl
 have e2:kms_hi (some (-1)) vs.length=vs.length-1:=rfl
 rw [e1,e2,List.drop_zero,Nat.sub_zero,List.dropLast_eq_take]
theorem zVf{sg:zA0}{st:PgSt}{x:zA0}:(chunk sg st x).k=0:=by
 unfold chunk
 split
 ·rfl
 ·split<;>rfl
theorem yBx(P:Params):nsIn (kW P) mainGlobals (.ofString "_ValueFormatter")=some (some (.ref 178)):=by kernel_rfl
theorem yDy(P:Params):keepIn (kW P) (.ref 178)=true:=by kernel_rfl
noncomputable def zOv:Fn:=⟨.ofString "_law_page",zAl (stAt 24),299,.ref 298,fun _=>[],rfl⟩
noncomputable abbrev pgN(sg sep:zA0):List (zA0×SV):=[(.ofString "page",.r 2),(.ofString "gifts",.r 7),(.ofString "end",.d (.str sep))]
noncomputable abbrev pgT(sg:zA0)(st:PgSt)(g:Nat):List SO:=pgO sg st.lines (st.cur.map prt) st.k.toNat g
structure PgI(N:Nat)(st:PgSt):Prop where
 ok:PgOk N st
 more:PgMore st
theorem zUy{fn:Fn}{d n₀:Nat}{c:Cx fn (d+10) n₀}{ns:List (zA0×SV)}{sg:zA0}{st:PgSt}{g N:Nat}{x:zA0}(h:PgI N st)(hN:N≤400)(hsg:zRo sg)(hx:GoodX x):CallS c ns (pgT sg st g) (.ref 175) [.r 2,.d (.str (.ofString " ")),.d (.str x)] [] (.d .none) (pgT sg (chunk sg st x) g):=by
 have hk:=h.ok.k1
 have h0:=h.ok.k0
 have hs:=zJu h.ok (by (exact le_trans (by assumption) (le_of_ble_eq_true rfl)))
 have hl:=h.ok.lines
 have hl2:=hs.1
 have hP:zBq (st.cur.map prt++[prt x]):=⟨by rw [length_append];have:=h.ok.cur;simp;lia,fun p hp=>by
  rcases mem_append.mp hp with hp|hp
  ·exact hs.2 p hp
  ·rw [mem_singleton.mp hp];exact ⟨show (Str.ofString " ").length≤100 by decide,hx.2.1⟩⟩
 have:=zK0 (c:=c) (ns:=ns) (g:=g) (zWy (ls:=st.lines) (k:=st.k.toNat) hP hs (by lia) (fun y hy=>le_trans (h.more.lines y hy) (by decide)) (by lia) hx.1 (by decide) (zNd hsg) (zVe (x:=x) h.ok hsg (Int.toNat_of_nonneg h0).symm)) (le_refl _)
 show CallS c ns _ _ _ _ _ (pgO sg (chunk sg st x).lines _ (chunk sg st x).k.toNat g)
 rw [zVf]
 exact this
theorem PgI.chunk{N:Nat}{sg:zA0}{st:PgSt}{x:zA0}(h:PgI N st)(hN:N≤600)(hx:GoodX x)(hs:Seen x):PgI (N+1) (chunk sg st x):=⟨h.ok.chunk hx,h.more.chunk h.ok hN hs⟩
theorem zH4{α:Type}{l:List α}{i:Nat}(h:i<l.length):l.take (i+1)=l.take i++[l[i]]:=by
 rw [take_add_one,getElem?_eq_getElem h];rfl
noncomputable def yCh:Stmt:=(zAf (stAt 24)).getD 1 default
theorem yCj{c:Cx zOv 12 2}{Q:Flow→Shared→Prop}{sg sep:zA0}{st:PgSt}{g N:Nat}{ring:List zA0}(h:PgI N st)(hN:N+ring.length≤400)(hg:g+ring.length≤1000)(hsg:zRo sg)(hne:ring≠[])(hgood:∀x∈ring,x.length=1∧GoodX x)(hseen:∀x∈ring,Seen x)(done:J c Q (pgN sg sep) (pgT sg ((commaLast ring).foldl (chunk sg) st) (g+ring.length)) []):J c Q ((.ofString "ring",.d (.list (ring.map .str)))::pgN sg sep) (pgT sg st g) [zC8 yCh]:=by
 obtain ⟨L,x,rfl⟩:∃L x,ring=L++[x]:=⟨ring.dropLast,ring.getLast hne,(List.dropLast_concat_getLast _).symm⟩
 have hcl:commaLast (L++[x])=L++[x ++ .ofString ","]:=by unfold commaLast;rw [List.getLast?_concat];simp
 have hcg:=zB6 hgood
 have hcs:∀y∈commaLast (L++[x]),Seen y:=fun y hy=>by
  rw [hcl] at hy
  rcases mem_append.mp hy with hy|hy
  ·exact hseen y (mem_append_left _ hy)
  ·rw [mem_singleton.mp hy];exact (hseen x (by simp)).app _
 have hlen:(commaLast (L++[x])).length=(L++[x]).length:=zB0 _
 conv=>arg 5;arg 1;whnf
 refine J.forList (X:=Unit) (nx':=pgT sg st g) (y:=(commaLast (L++[x])).map .str) (fun j _=>PgI (N+j) (((commaLast (L++[x])).take j).foldl (chunk sg) st)) (fun _ _=>pgN sg sep) (fun j _=>pgT sg (((commaLast (L++[x])).take j).foldl (chunk sg) st) (g+j)) () h ?ev ⟨rfl,rfl,rfl,rfl,rfl⟩ ?turn ?done
 case ev=>
  have e:((commaLast (L++[x])).map PyData.str)=zDq ((L++[x]).map PyData.str) none (some (-1))++[.str (x ++ .ofString ",")]:=by
   rw [zBf,hcl];simp
  rw [e]
  have hL:(L.map PyData.str).length≤400:=by rw [length_map];simp at hN;lia
  refine Ev.bin (Ev.sliceL (.loc rfl) rfl .none (.some .m1) (by rw [length_map];lia)) (Ev.listD (xs:=[_]) (.cons (Ev.bin (Ev.sub (.loc rfl) .m1 (SubS.last (l:=L.map .str) (y:=.str x) (by show PyData.list _=_;rw [map_append];rfl) (by (exact le_trans (by assumption) (le_of_ble_eq_true rfl))))) .str (BinS.addT ?_)) .nil)) (BinS.addL rfl rfl ?_)
  ·have:=(hgood x (by simp)).1
   rw [this,sizeLine_eq];decide
  ·rw [zBf,map_append,map_cons,map_nil,List.dropLast_concat]
   simp
   simp at hL
   (exact le_trans (by assumption) (le_of_ble_eq_true rfl))
 case turn=>
  intro j _ hj hJ c' Q₁ sb q
  rw [length_map] at hj
  have hy:(((commaLast (L++[x])).map PyData.str).getD j .none) = .str (commaLast (L++[x]))[j]:=by
   rw [getD_eq_getElem?_getD,getElem?_map,getElem?_eq_getElem hj];rfl
  rw [hy]
  have hm:=getElem_mem hj
  have hfold:((commaLast (L++[x])).take (j+1)).foldl (chunk sg) st=chunk sg (((commaLast (L++[x])).take j).foldl (chunk sg) st) (commaLast (L++[x]))[j]:=by
   rw [zH4 hj,List.foldl_append];rfl
  have hNj:N+j≤400:=by lia
  have hgj:g+j≤10000:=by lia
  refine J.seq (Ex.expr (Ev.meth (.loc rfl) (.append rfl) (.cons (Ev.meth (.loc rfl) (MethS.inst rfl rfl zWb yBp (fun P=>zI5 P (.ofString "_append_chunk")) rfl) (.cons .str (.cons (.loc rfl) .nil)) (zUy hJ hNj hsg (hcg _ hm)) (.k yDx)) .nil) (zTy hgj) .b)) (J.pop (J.next q () ?_ ?_))
  ·rw [hfold];exact hJ.chunk (by (exact le_trans (by assumption) (le_of_ble_eq_true rfl))) (hcg _ hm) (hcs _ hm)
  ·rw [hfold];exact ⟨rfl,rfl,rfl,rfl,rfl⟩
 case done=>
  intro _ _
  rw [length_map,take_length,hlen]
  exact J.pop (J.pop done)
theorem zWf{ls:List zA0}{rs:List (zA0×zA0)}(h1:0<tlen rs)(h2:zGd 0 rs=false):nlL ls rs 0=ls++[zBe rs]:=by
 unfold nlL
 rw [if_neg (by lia),if_neg (by rw [h2];decide)]
theorem zWg(ls:List zA0):nlL ls [(.ofString "",.ofString "")] 0=ls:=if_pos (by decide)
theorem zN6:zGd 0 [(Str.ofString " ",Str.ofString "")]=true:=by kernel_rfl
theorem zT1(L:List zA0)(y:zA0):nlL (L++[y]) [(.ofString " ",.ofString "")] 0=L++[y ++ .ofString " "]:=by
 unfold nlL
 rw [if_neg (by decide),if_pos zN6,List.getLast?_concat,List.dropLast_concat]
 exact congrArg (fun t=>L++[y++t]) zNk
theorem zWk(ps:List (zA0×zA0)):zGd 0 ps=zWj 0 ps:=by
 unfold zGd zWj
 rw [show ((0:Nat)==0)=true from rfl,show decide ((0:Int)=0)=true from rfl]
 by_cases h:tlen ps=0
 ·rw [h];rfl
 ·rw [decide_eq_false h,beq_false_of_ne h]
theorem yA8{c:Cx zOv 12 2}{Q:Flow→Shared→Prop}{sg sep:zA0}{st:PgSt}{rings:List (List zA0)}(h:PgI 1 st)(hc:cnt rings≤100)(hsg:zRo sg)(hgood:∀ring∈rings,ring≠[]∧∀x∈ring,x.length=1∧GoodX x)(hseen:∀ring∈rings,∀x∈ring,Seen x)(done:PgI (1+cnt rings) (zAb sg st rings)→J c Q (pgN sg sep) (pgT sg (zAb sg st rings) (cnt rings)) [(zAf (stAt 24)).drop 2]):
  J c Q ((.ofString "rings",.d (.list (rings.map fun r=>.list (r.map .str))))::pgN sg sep) (pgT sg st 0) [(zAf (stAt 24)).drop 1]:=by
 have hct:∀i,i<rings.length→cnt (rings.take (i+1))≤100:=fun i hi=>le_trans (zL2 (getElem?_eq_getElem hi)).2 hc
 have hcs:∀i (hi:i<rings.length),cnt (rings.take (i+1))=cnt (rings.take i)+rings[i].length:=fun i hi=>(zL2 (getElem?_eq_getElem hi)).1
 have hfs:∀i (hi:i<rings.length),zAb sg st (rings.take (i+1))=(commaLast rings[i]).foldl (chunk sg) (zAb sg st (rings.take i)):=fun i hi=>by
  rw [zH4 hi];unfold zAb;rw [List.foldl_append];rfl
 have hI:∀i,i≤rings.length→PgI (1+cnt (rings.take i)) (zAb sg st (rings.take i)):=fun i hi=>by
  have hg:∀ring∈rings.take i,ring∈rings:=fun r hr=>mem_of_mem_take hr
  have hc':cnt (rings.take i)≤100:=by
   induction i with
   |zero=>exact zero_le _
   |succ i=>exact hct i hi
  exact ⟨zEt h.ok fun r hr=>hgood r (hg r hr),zDg h.ok h.more (by lia) (fun r hr=>hgood r (hg r hr)) fun r hr=>hseen r (hg r hr)⟩
 conv=>arg 5;arg 1;whnf
 refine J.forList (X:=Unit) (nx':=pgT sg st 0) (y:=rings.map fun r=>.list (r.map .str)) (fun i _=>i≤rings.length) (fun _ _=>pgN sg sep) (fun i _=>pgT sg (zAb sg st (rings.take i)) (cnt (rings.take i))) () (zero_le _) (.loc rfl) ⟨rfl,rfl,rfl,rfl,rfl⟩ ?turn ?done
 case turn=>
  intro i _ hi _ c' Q₁ sb q
  rw [length_map] at hi
  have hy:((rings.map fun r=>PyData.list (r.map .str)).getD i .none) = .list (rings[i].map .str):=by
   rw [getD_eq_getElem?_getD,getElem?_map,getElem?_eq_getElem hi];rfl
  rw [hy]
  have hm:=getElem_mem hi
  have h1:=hct i hi
  have h2:=hcs i hi
  refine yCj (hI i (le_of_lt hi)) (by lia) (by lia) hsg (hgood _ hm).1 (hgood _ hm).2 (hseen _ hm) (J.next q () hi ?_)
  rw [hfs i hi,hcs i hi]
  exact ⟨rfl,rfl,rfl,rfl,rfl⟩
 case done=>
  intro _ _
  rw [length_map,take_length]
  have:=hI rings.length (le_refl _)
  rw [take_length] at this
  exact J.pop (done this)
theorem zFj(n:Nat):PyData.eqv (.list (replicate n .none)) (.list (replicate n .none))=true:=by rw [PyData.eqv,SeqAt.eqvAll_refl _ (zEg _ rfl n)]
theorem zHn{sep:zA0}{ls:List zA0}(h:∀y∈ls,y.length≤100000)(hl:ls.length≤150)(hs:sep.length≤10):JoinOk sep ls=true:=by
 have b:=zJf h hl hs
 have e:∀(ls:List zA0) (n:Nat),ls.foldl (fun a t=>a+t.length+sep.length) n=n+(ls.map (·.length)).sum+ls.length*sep.length:=fun ls=>by
  induction ls with
  |nil=>intro n;simp
  |cons x r ih=>intro n;rw [List.foldl_cons,ih,map_cons,sum_cons,length_cons,Nat.succ_mul];lia
 unfold JoinOk Builtin.Str.tooLong
 rw [List.foldl_toArray,e,sizeLine_eq,Bool.not_eq_true',decide_eq_false_iff_not]
 have b':0+(ls.map (·.length)).sum+ls.length*sep.length≤15001500:=(zero_add _).symm▸b
 exact Nat.not_lt_of_le (le_trans b' (by decide))
theorem yAo{sg sep:zA0}{rings:List (List zA0)}{kh:Nat}(hsg:zRo sg)(hk:kh≤1000)(hne:rings≠[])(hgood:∀ring∈rings,ring≠[]∧∀x∈ring,x.length=1∧GoodX x)(hseen:∀ring∈rings,∀x∈ring,Seen x)(hcnt:cnt rings≤100)(hsep:sep.length≤10):
  Con 12 299 [.d (.list (rings.map fun r=>.list (r.map .str))),.d (.int kh),.d (.str sg),.d (.str sep)] [] [zG1 224 zDf,zG1 231 zDh] (.d (.str (zE0 sg sep kh rings))) [zG1 224 zDf,zG1 231 zDh]:=by
 refine Con.enterN (fn:=zOv) (fun _=>rfl) [] [] ?hbody (fun _=>.nil) (fun P s a1 a2 a3 a4 X=>BindsTo.of_eq rfl)
 intro c Q ret fin
 conv=>arg 5;arg 1;whnf
 refine J.seq (Ex.swap (.cons (Ev.call (.glob yBx) (.cons (.loc rfl) (.cons .int (.cons .str (.cons (.loc rfl) .nil)))) (CallS.con [] (yBi (sg:=sg) (k:=kh)) rfl rfl rfl rfl rfl) (.k yDy)) (.cons (Ev.list (xs:=[]) .nil) .nil)) rfl rfl rfl) ?_
 have h0:PgI 1 ⟨[],[],(kh:Int)⟩:=⟨⟨by simp,by simp,by simp,natCast_nonneg _,by show (kh:Int)≤1000;(exact ofNat_le.mpr (by assumption)),by simp,by simp⟩,⟨by simp,by simp⟩⟩
 refine J.less (ps':=(.ofString "rings",.d (.list (rings.map fun r=>.list (r.map .str))))::pgN sg sep) (nx':=pgT sg ⟨[],[],(kh:Int)⟩ 0) ⟨rfl,rfl,rfl,rfl,rfl⟩ (yA8 h0 hcnt hsg hgood hseen fun hI=>?_)
 have hcur:=zJq (sg:=sg) rings ⟨[],[],(kh:Int)⟩ (fun r hr=>(hgood r hr).1) (.inl hne)
 have ept:zE0 sg sep kh rings=Txt.join sep ((zAb sg ⟨[],[],kh⟩ rings).lines++[zBe ((zAb sg ⟨[],[],kh⟩ rings).cur.map prt)]):=rfl
 rw [ept] at ret
 clear ept
 generalize zAb sg ⟨[],[],(kh:Int)⟩ rings=st at hI hcur ret ⊢
 obtain ⟨lines,cur,kc⟩:=st
 have hkc:kc=0:=hI.ok.k2 hcur
 subst hkc
 have hl:lines.length≤101:=by have:=hI.ok.lines;dsimp only at this;lia
 have hcl:cur.length≤101:=by have:=hI.ok.cur;dsimp only at this;lia
 have hsm:=zJu hI.ok (by lia)
 have hsl:=hsm.1
 obtain ⟨hB,hpos⟩:=zQ3 hI.more hcur
 rw [←zWk] at hB
 dsimp only at hB hpos hsm hsl ret ⊢
 have hy:∀y∈lines,y.length≤60800:=hI.more.lines
 have htc:(zBe (cur.map prt)).length≤20000:=by
  have a:=zG2 (cur.map prt)
  have b:=zId (cur:=cur) fun x hx=>(hI.ok.good x hx).2.1
  lia
 have hy1:∀y∈lines++[zBe (cur.map prt)],y.length≤100000:=fun y hm=>by
  rcases mem_append.mp hm with hm|hm
  ·exact le_trans (hy y hm) (by decide)
  ·rw [mem_singleton.mp hm];exact le_trans htc (by decide)
 have hy2:∀y∈lines++[zBe (cur.map prt) ++ .ofString " "],y.length≤100000:=fun y hm=>by
  rcases mem_append.mp hm with hm|hm
  ·exact le_trans (hy y hm) (by decide)
  ·rw [mem_singleton.mp hm,Str.length_append,show (Str.ofString " ").length=1 by decide];(exact lt_of_le_of_lt (by assumption) (le_of_ble_eq_true rfl))
 have hl1:(lines++[zBe (cur.map prt)]).length≤150:=by rw [length_append,length_singleton];(exact lt_of_le_of_lt (by assumption) (le_of_ble_eq_true rfl))
 have hl2:(lines++[zBe (cur.map prt)++Str.ofString " "]).length≤150:=by rw [length_append,length_singleton];omega
 have n1:=yAn (sg:=sg) (ls:=lines) (k:=0) hsm (by decide) (by (exact le_trans (by assumption) (le_of_ble_eq_true rfl))) fun y hm=>le_trans (hy y hm) (by decide)
 rw [zWf hpos hB] at n1
 have n2:=yAm (sg:=sg) (ls:=lines++[zBe (cur.map prt)]) (k:=0) (by decide) (by (exact le_trans (by assumption) (le_of_ble_eq_true rfl))) hy1
 rw [zWg] at n2
 have n3:=yAn (sg:=sg) (ls:=lines++[zBe (cur.map prt)]) (rs:=[(.ofString " ",.ofString "")]) (k:=0) ⟨by decide,by decide⟩ (by decide) (by (exact le_trans (by assumption) (le_of_ble_eq_true rfl))) hy1
 rw [zT1] at n3
 have tr:=fun {qs:List (zA0×zA0)} {ls:List zA0} (h:qs.length≤1000)=>yE7 (sg:=sg) (ls:=ls) (rs:=qs) (k:=0) (by (exact le_trans (by assumption) (le_of_ble_eq_true rfl)))
 conv=>arg 5;arg 1;whnf
 refine J.seq (Ex.expr (Ev.meth (.loc rfl) (.append rfl) (.cons (Ev.meth (.loc rfl) (MethS.inst rfl rfl zKg zVr (fun P=>zI5 P (.ofString "add_transition")) rfl) .nil (zK0 (d:=2) (tr hsl) (by decide)) (.k yCn)) .nil) (zTy (d:=2) (by (exact le_trans (by assumption) (le_of_ble_eq_true rfl)))) .b)) ?_
 refine J.seq (Ex.assign (Ev.meth (.loc rfl) (MethS.inst rfl rfl zHz zVq (fun P=>zI5 P (.ofString "_str")) rfl) (.cons (.loc rfl) .nil) (zK0 (d:=2) (zX0 n1 (zHn hy1 hl1 hsep)) (by decide)) (.k yCm))) ?_
 refine J.seq (Ex.assign (Ev.meth (.loc rfl) (MethS.inst rfl rfl zHz zVq (fun P=>zI5 P (.ofString "_str")) rfl) (.cons (.loc rfl) .nil) (zK0 (d:=2) (zX0 n2 (zHn hy1 hl1 hsep)) (by decide)) (.k yCm))) ?_
 have e3:replicate (cnt rings+1) PyData.none++[.none,.none]=replicate (cnt rings+3) .none:=List.replicate_append_replicate (m:=2)
 refine J.seq (Ex.assign (Ev.bin (.loc rfl) (Ev.listD (xs:=[.none,.none]) (.cons (Ev.meth (.loc rfl) (MethS.inst rfl rfl zKg zVr (fun P=>zI5 P (.ofString "add_transition")) rfl) .nil (zK0 (d:=2) (tr (by decide)) (by decide)) (.k yCn)) (.cons (Ev.meth (.loc rfl) (MethS.inst rfl rfl zKg zVr (fun P=>zI5 P (.ofString "add_transition")) rfl) .nil (zK0 (d:=2) (tr (by decide)) (by decide)) (.k yCn)) .nil))) (BinS.addL (v₁:=.r 7) (l₁:=replicate (cnt rings+1) .none) (l₂:=[.none,.none]) rfl rfl (by rw [List.length_replicate];show _+2≤_;lia)))) ?_
 rw [e3]
 have e4:(replicate (cnt rings+3) PyData.none).length=cnt rings+3:=List.length_replicate
 have hJ:(Txt.join sep (lines++[zBe (cur.map prt) ++ .ofString " "]))=Txt.join sep (lines++[zBe (cur.map prt)]) ++ .ofString " " := zN0 ..
 refine J.iff (EvB.orF (EvB.cmp (.loc rfl) (Ev.bin (Ev.listD (xs:=[.none]) (.cons .non .nil)) (Ev.call (.built zD9 zD8 (by decide)) (.cons (.loc rfl) .nil) (CallS.lenD (by rw [e4];lia)) .b) (BinS.mulN rfl (by rw [e4];lia))) (.neD rfl rfl (zAy _) (zAy _))) (by rw [e4,zFj];rfl)
  (EvB.orF (EvB.cmp (.loc rfl) (.loc rfl) .neT) (bne_self_eq_false _)
   (EvB.orF (EvB.cmp (Ev.meth (.loc rfl) (MethS.inst rfl rfl zHz zVq (fun P=>zI5 P (.ofString "_str")) rfl) (.cons (.loc rfl) .nil) (zK0 (d:=2) (zX0 n3 (zHn hy2 hl2 hsep)) (by decide)) (.k yCm)) (Ev.bin (.loc rfl) .str (BinS.addT ?hsz)) .neT) (by rw [hJ];exact bne_self_eq_false _) .orN))) rfl (J.pop ?_)
 ·have:=zHv (zJf hy1 hl1 hsep)
  rw [sizeLine_eq,show (Str.ofString " ").length=1 by decide]
  (exact lt_of_le_of_lt (by assumption) (le_of_ble_eq_true rfl))
 refine J.retL (.loc rfl) (nx':=[zG1 224 zDf,zG1 231 zDh]) ⟨rfl,rfl,rfl,rfl,rfl⟩ fun z s x O r=>ret _ _ _ _ O r
theorem zYo:∀k,k<7→(Int.fmod (k:Nat) 2=0↔k%2=0):=by decide
theorem zQz:∀k,k<7→Txt.item (.ofString "gaCfbed") (k:Nat)=ltr (sqB k):=by
 intro k hk
 have:k=0∨k=1∨k=2∨k=3∨k=4∨k=5∨k=6:=by lia
 rcases this with rfl|rfl|rfl|rfl|rfl|rfl|rfl<;>kernel_rfl
noncomputable abbrev zUt(f:Nat→Nat)(g:Str)(b:Nat):Str:=zBz (nmT f g b)
noncomputable abbrev zEv(f:Nat→Nat)(g:Str)(b:Nat):List Nat:=(zUt f g b).cps.toList
theorem zE8{f:Nat→Nat}(hf:∀x,x<7→f x<7)(k:Nat):(trail f (word f) k).length≤1000:=by
 have h1:=zCh f (word f) 7 k
 have h2:=zA3 (zA5 hf) (zA9 hf)
 have h3:(trail f (word f) k).length≤14:=le_trans h1 (by lia)
 (exact le_trans (by assumption) (le_of_ble_eq_true rfl))
noncomputable def zDu(key:Nat→List Nat):Nat→List Nat
 |0=>[]
 |k+1=>zUh key (sqB k) (zDu key k)
theorem zDv(key:Nat→List Nat):∀k,k≤7→BookAt key k (zDu key k)
 |0,_=>BookAt.zero key
 |k+1,h=>(zDv key k (Nat.le_of_succ_le h)).new h
noncomputable abbrev zBs(f:Nat→Nat)(g:Str)(B:List Nat):List PyData:=B.map fun k=>.str (nmT f g k)
noncomputable def yB1:PyData→Str
 |.str x=>zBz x
 |_=>.ofString ""
theorem q69(P:Params):keepIn (kW P) (.ref 69)=true:=by kernel_rfl
theorem zDm(P:Params):nsIn (kW P) mainGlobals (.ofString "reach")=some (some (.ref 69)):=by kernel_rfl
noncomputable def yDq:Fn:=⟨.ofString "_law_book",zAl (stAt 27),320,.ref 319,fun _=>[],rfl⟩
theorem zS2{f:Nat→Nat}{g:Str}(hf:∀x,x<7→f x<7)(hg:zA6 g){B:List Nat}:∀y∈zBs f g B,Con 1 69 [.d y] [] [] (.d (.str (yB1 y))) []:=fun y hy=>by
 obtain ⟨b,_,rfl⟩:=mem_map.mp hy
 exact zCy hg _ (zE8 hf b)
noncomputable abbrev bkN:List (zA0×SV):=[(.ofString "names",.r 0),(.ofString "book",.r 1),(.ofString "gifts",.r 2)]
noncomputable abbrev bkT(f:Nat→Nat)(g:Str)(B:List Nat)(n:Nat):List SO:=[namO (fun _=>True) (nmT f g) 100,.lst (zBs f g B),.lst (replicate n .none)]
theorem zIp(f:Nat→Nat)(g:Str)(key:Nat→List Nat)(x:Nat)(B:List Nat):(zBs f g B).take (zMp key x B) ++ .str (nmT f g x)::(zBs f g B).drop (zMp key x B)=zBs f g (zUh key x B):=by
 unfold zUh zBs
 simp only [map_append,map_cons,map_take,map_drop]
section
variable {fn:Fn}{d n₀:Nat}{c:Cx fn (d+4) n₀}{ps:List (zA0×SV)}{nx:List SO}{f:Nat→Nat}{g:Str}{k n:Nat}{B:List Nat}
theorem BinS.modI{i j:Int}(h0:j≠0):BinS c ps nx .Mod (.d (.int i)) (.d (.int j)) (.d (.int (i.fmod j))) nx:=fun z s a b O h1 h2 Q k=>by
 obtain ⟨t,rfl⟩:=DRep.int_ h1
 obtain ⟨u,rfl⟩:=DRep.int_ h2
 exact PyProof.Rows.mod_int' h0 (k z _ _ (.refl _) (O.toks _) .int)
theorem zXn{i:Nat}{y:PyData}(h:(zBs f g B)[i]? = some y):∃b,B[i]? = some b∧(yB1 y).cps.toList=zEv f g b:=by
 rw [getElem?_map] at h
 obtain ⟨b,hb,rfl⟩:=Option.map_eq_some_iff.mp h
 exact ⟨b,hb,rfl⟩
theorem zXo(hf:∀x,x<7→f x<7)(hg:zA6 g)(hk:k<7)(ho:k%2=1):CallS c ps (bkT f g (zDu (zEv f g) k) n) (.ref 96) [.r 1,.d (.str (nmT f g (sqB k)))] [(.ofString "key",.ref 69)] (.d .none) (bkT f g (zDu (zEv f g) (k+1)) n):=by
 have hB:=zDv (zEv f g) k (le_of_lt hk)
 have hl:=hB.len (le_of_lt hk)
 have:=CallS.con (c:=c) (ps:=ps) (nx:=bkT f g (zDu (zEv f g) k) n) [1] (zOd (K:=yB1) (x:=.str (nmT f g (sqB k))) (j:=zMp (zEv f g) (sqB k) (zDu (zEv f g) k)) (zS2 hf hg) (zS2 hf hg (B:=[sqB k]) _ (.head _)) q69 (by rw [length_map];(exact le_trans (by assumption) (le_of_ble_eq_true rfl))) (by rw [length_map];exact zOn _ _ _) fun i y h=>by
  obtain ⟨b,hb,e⟩:=zXn h
  rw [e]
  exact hB.left hk ho hb) (zAg (by lia)) rfl rfl rfl rfl
 rw [zIp] at this
 exact this
theorem zUv(hf:∀x,x<7→f x<7)(hg:zA6 g)(hk:k<7)(ho:k%2=0):CallS c ps (bkT f g (zDu (zEv f g) k) n) (.ref 78) [.r 1,.d (.str (nmT f g (sqB k)))] [(.ofString "key",.ref 69)] (.d .none) (bkT f g (zDu (zEv f g) (k+1)) n):=by
 have hB:=zDv (zEv f g) k (le_of_lt hk)
 have hl:=hB.len (le_of_lt hk)
 have:=CallS.con (c:=c) (ps:=ps) (nx:=bkT f g (zDu (zEv f g) k) n) [1] (zV9 (K:=yB1) (x:=.str (nmT f g (sqB k))) (j:=zMp (zEv f g) (sqB k) (zDu (zEv f g) k)) (zS2 hf hg) (zS2 hf hg (B:=[sqB k]) _ (.head _)) q69 (by rw [length_map];omega) (by rw [length_map];exact zOn _ _ _) fun i y h=>by
  obtain ⟨b,hb,e⟩:=zXn h
  rw [e]
  exact hB.right hk ho hb) (zAg (by omega)) rfl rfl rfl rfl
 rw [zIp] at this
 exact this
theorem zTs(hn:n≤10000):CallS c ps (bkT f g B n) (.builtin "list.append") [.r 2,.d .none] [] (.d .none) (bkT f g B (n+1)):=by
 have:=CallS.append (c:=c) (ps:=ps) (nx:=bkT f g B n) (k:=2) (l:=replicate n .none) (y:=.none) rfl (by rw [List.length_replicate];(exact le_trans (by assumption) (le_of_ble_eq_true rfl)))
 rw [←List.replicate_succ'] at this
 exact this
end
theorem zZd{a:Nat}(h:a<7):((a:Nat):Int)<((Str.ofString "gaCfbed").length:Int):=by
 rw [show (Str.ofString "gaCfbed").length=7 by decide]
 (exact ofNat_lt.mpr (by assumption))
theorem yAl{f:Nat→Nat}{g:Str}(hf:∀x,x<7→f x<7)(hg:zA6 g):Con 6 320 [.r 0] [] [namO (fun _=>True) (nmT f g) 100] (.d (.list (zBs f g (zDu (zEv f g) 7)))) [namO (fun _=>True) (nmT f g) 100]:=by
 refine Con.enterN (fn:=yDq) (fun _=>rfl) [] [] ?hbody (fun _=>.nil) (fun P s a1 X=>BindsTo.of_eq rfl)
 intro c Q ret fin
 conv=>arg 5;arg 1;whnf
 refine J.seq (Ex.swap (.cons (Ev.list (xs:=[]) .nil) (.cons (Ev.list (xs:=[]) .nil) .nil)) rfl rfl rfl) ?_
 refine J.forRange (X:=Unit) 7 (fun _ _=>True) (fun _ _=>bkN) (fun k _=>bkT f g (zDu (zEv f g) k) k) () trivial (Ev.call (.built zAr zAq (by decide)) (.cons .int .nil) .range1 .t) rfl zAp zAw ⟨rfl,rfl,rfl,rfl,rfl⟩ ?turn fun _ _=>J.pop ?done
 case turn=>
  intro k _ hk _ c' Q₁ sb q
  rw [show (0:Int)+(k:Nat)*1=(k:Nat) by lia]
  have hx:=zH2 k hk
  refine J.ite (EvB.cmp (Ev.bin (.loc rfl) .int (BinS.modI (by decide))) .int .eqI) (fun hb=>?_) fun hb=>?_
  ·have he:=(zYo k hk).mp (eq_of_beq hb)
   refine J.seq (Ex.expr (Ev.meth (.loc rfl) (.append rfl) (.cons (Ev.callK (.glob zZ0) (.cons (.loc rfl) (.cons (Ev.sub (.loc rfl) (Ev.sub .str (.loc rfl) (zQz k hk▸SubS.text (zEq hk) (by (exact natCast_nonneg _)) (zZd hk))) (SubS.nam rfl hx trivial)) .nil)) (fun _=>.glob zDm) (zUv hf hg hk he) yAh) .nil) (zTs (by lia)) .b)) (J.pop (J.pop ?_))
   exact J.next q () trivial ⟨rfl,rfl,rfl,rfl,rfl⟩
  ·have ho:k%2=1:=by
    have:¬k%2=0:=fun h=>by rw [(zYo k hk).mpr h] at hb;cases hb
    lia
   refine J.seq (Ex.expr (Ev.meth (.loc rfl) (.append rfl) (.cons (Ev.callK (.glob zOz) (.cons (.loc rfl) (.cons (Ev.sub (.loc rfl) (Ev.sub .str (.loc rfl) (zQz k hk▸SubS.text (zEq hk) (by (exact natCast_nonneg _)) (zZd hk))) (SubS.nam rfl hx trivial)) .nil)) (fun _=>.glob zDm) (zXo hf hg hk ho) zQm) .nil) (zTs (by omega)) .b)) (J.pop (J.pop ?_))
   exact J.next q () trivial ⟨rfl,rfl,rfl,rfl,rfl⟩
 case done=>
  exact J.retF (nx:=[namO (fun _=>True) (nmT f g) 100]) (l:=zBs f g (zDu (zEv f g) 7)) (Ev.ifb (EvB.cmp (.loc rfl) (Ev.bin (Ev.listD (xs:=[.none]) (.cons .non .nil)) .int (BinS.mulN (k:=7) rfl (by decide))) (.eqD ⟨_,rfl,rfl⟩ rfl (zAy _) (zAy _))) (zFj 7) (.loc rfl)) rfl fun z s x O r=>ret _ _ _ _ O r
section
variable {fn:Fn}{d n₀:Nat}{c:Cx fn d n₀}{ps:List (zA0×SV)}{nx nx':List SO}{elts:List Expr}{pos p1 p2 p3 p4 tp vp:Pos}{x1 x2 x3 x4:zA0}{v1 v2 v3 v4:SV}{k j:Nat}
theorem Ex.tup4(h:EvL c c.env ps nx elts [v1,v2,v3,v4] nx')(h1:autoParam (fn.scope.names.lookup x1=some .local) T0R)(h2:autoParam (fn.scope.names.lookup x2=some .local) T0R)(h3:autoParam (fn.scope.names.lookup x3=some .local) T0R)(h4:autoParam (fn.scope.names.lookup x4=some .local) T0R)(hs:autoParam (swapsWithSole [.Tuple [.Name x1 p1,.Name x2 p2,.Name x3 p3,.Name x4 p4] k tp] (.Tuple elts j vp) pos.line c.env=pure false) T0R)(hw:autoParam (swappedStores [.Tuple [.Name x1 p1,.Name x2 p2,.Name x3 p3,.Name x4 p4] k tp] (.Tuple elts j vp) c.env=pure none) T0R):
  Ex c ps nx (.Assign [.Tuple [.Name x1 p1,.Name x2 p2,.Name x3 p3,.Name x4 p4] k tp] (.Tuple elts j vp) pos) ((x4,v4)::(x3,v3)::(x2,v2)::(x1,v1)::ps) nx':=fun z s O Q q=>by
 refine Assign_Tuple (Tuple_ (h z s O _ _ fun z₁ s₁ vs l₁ O₁ r=>?_)) hs hw
 refine O₁.growZ fun m news F N _ g=>?_
 have hln:=zBk r
 refine newTuple_N F N (fun h' F' N'=>?_) (by rw [hln,sizeLine_eq];exact le_of_ble_eq_true rfl)
 refine g _ h' s₁.toks F' N' fun z₂ le hz O₂=>?_
 refine O₂.same fun m₂ news₂ F₂ N₂ hZ g₂=>?_
 have r':=r.mono le
 obtain ⟨a1,_,rfl,r1,r'⟩:=r'.cons_
 obtain ⟨a2,_,rfl,r2,r'⟩:=r'.cons_
 obtain ⟨a3,_,rfl,r3,r'⟩:=r'.cons_
 obtain ⟨a4,_,rfl,r4,r'⟩:=r'.cons_
 cases r'.nil_
 refine unpackN_ F₂ N₂ ⟨_,(N₂ _ (hZ _ hz)).1,rfl,_,rfl⟩ rfl rfl rfl fun h'' F'' N''=>?_
 refine assignInOrder_cons (PyProof.Rows.assign_Name (zB5 (g₂ h'' s₁.toks F'' N'') r1 (fun s₂ O₂=>?_) h1))
 refine assignInOrder_cons (PyProof.Rows.assign_Name (zB5 O₂ r2 (fun s₃ O₃=>?_) h2))
 refine assignInOrder_cons (PyProof.Rows.assign_Name (zB5 O₃ r3 (fun s₄ O₄=>?_) h3))
 exact assignInOrder_cons (PyProof.Rows.assign_Name (zB5 O₄ r4 (fun s₅ O₅=>assignInOrder_nil (q z₂ s₅ O₅)) h4))
end
theorem zYk{g:Str}(l:List Nat):((Str.ofString "." ++ zA1 g l) != (Str.ofString "." ++ g))=decide (l≠[]):=by
 induction l with
 |nil=>simp [zA1]
 |cons k r=>
  have:(Str.ofString "." ++ zA1 g (k::r))≠(Str.ofString "." ++ g):=fun e=>by
   have h:=congrArg Str.length e
   rw [Str.length_append,Str.length_append,zAa] at h
   simp at h
  simp [this]
theorem zIv(x:Str):Txt.slice ((Str.ofString "." : Str)++x) (some 1) none=x:=by
 have:=zC2 (x:=(Str.ofString "." : Str)++x) (j:=1) (by rw [zBt];simp)
 rw [show ((1:Nat):Int)=1 from rfl] at this
 rw [this]
 apply zAm
 show ((cl ((Str.ofString "." : Str)++x)).drop 1)=_
 rw [zBt]
 rfl
noncomputable def zCo(g:Str)(wd:List Nat)(i:Nat):List Str:=(List.range i).map fun t=>zA1 g (wd.drop t)
theorem zNb(g:Str)(wd:List Nat)(i:Nat):zCo g wd (i+1)=zCo g wd i++[zA1 g (wd.drop i)]:=by unfold zCo;rw [range_succ,map_append];rfl
theorem zFx(g:Str)(wd:List Nat)(i:Nat):(zCo g wd i).length=i:=by unfold zCo;simp
noncomputable def zXg:Fn:=⟨.ofString "_law_back",zAl (stAt 30),339,.ref 338,fun _=>[],rfl⟩
noncomputable def baLad:Stmt:=(zAf (stAt 30)).getD 1 default
noncomputable def baFst:Stmt:=(zAf (stAt 30)).getD 3 default
noncomputable def baWd:Stmt:=(zAf (stAt 30)).getD 5 default
noncomputable def baBk:Stmt:=(zAf (stAt 30)).getD 6 default
noncomputable abbrev zUb(x:zA0):zA0:=(.ofString "." : Str)++x
noncomputable abbrev baN(f:Nat→Nat)(g:zA0)(B:List Nat)(ab:zA0):List (zA0×SV):=[(.ofString "ladder",.r 0),(.ofString "above",.d (.str ab)),(.ofString "firsts",.r 1),(.ofString "back",.r 2),(.ofString "book",.d (.list (zBs f g B))),(.ofString "marked",.d (.str (zA1 g (word f)))),(.ofString "ground",.d (.str g))]
theorem zY5{c:Cx zXg 6 0}{Q:Flow→Shared→Prop}{f:Nat→Nat}{g:zA0}{B:List Nat}{o:SO}{rest:List Stmt}{bs:List (List Stmt)}(hf:∀x,x<7→f x<7)(hg:zA6 g)(hw:word f≠[])(ho:o.lo 3=true)(done:∀ab,J c Q (baN f g B ab) [.lst ((zCo g (word f) (word f).length).map .str),.lst [],o] (rest::bs)):J c Q (baN f g B (zUb (zA1 g ((word f).drop 1)))) [.lst ((zCo g (word f) 1).map .str),.lst [],o] ((baLad::rest)::bs):=by
 conv=>arg 5;arg 1;arg 1;whnf
 have hwl:(word f).length≤7:=zA3 (zA5 hf) (zA9 hf)
 have hgl:g.length≤5:=by rcases hg with rfl|rfl<;>decide
 have hp:=length_pos_iff.mpr hw
 have hn:∀q,(zA1 g ((word f).drop q)).length≤100:=fun q=>by rw [zAa,length_drop];lia
 have hds:∀x:zA0,x.length≤100→(zUb x).length≤1000:=fun x h=>by rw [zUb,Str.length_append,show (Str.ofString ".").length=1 by decide];lia
 refine J.while (X:=Nat) (fun q=>(word f).length+1-q) (fun q=>1≤q∧q≤(word f).length) (fun q=>baN f g B (zUb (zA1 g ((word f).drop q)))) (fun q=>[.lst ((zCo g (word f) q).map .str),.lst [],o]) 1 ⟨le_refl _,hp⟩ ⟨rfl,rfl,rfl,by show (true&&(true&&(o.lo 3&&true)))=true;rw [ho];rfl,rfl⟩ fun q ⟨hq1,hq⟩=>?_
 have hne:=zYk (g:=g) ((word f).drop q)
 refine .mk (EvB.cmp (.loc rfl) (Ev.bin .str (.loc rfl) (BinS.addT (by rw [sizeLine_eq,show (Str.ofString ".").length=1 by decide];lia))) .neT) (fun hb Q₁ qq=>?_) fun hb=>?_
 ·have hd:(word f).drop q≠[]:=of_decide_eq_true (hne▸hb)
  have hql:q<(word f).length:=lt_of_not_le fun h=>hd (List.drop_eq_nil_of_le h)
  have hdq:(word f).drop q=(word f)[q]::(word f).drop (q+1):=drop_eq_getElem_cons hql
  refine J.seq (Ex.expr (Ev.meth (.loc rfl) (.append rfl) (.cons (Ev.sliceT (.loc rfl) (.some .int) .none (le_trans (hds _ (hn q)) (by decide))) .nil) (CallS.append rfl (by rw [length_map,zFx];lia)) .b)) ?_
  rw [zIv]
  refine J.seq (Ex.assign (Ev.call (.glob zDm) (.cons (Ev.sub (.loc rfl) .m1 (SubS.last (l:=(zCo g (word f) q).map .str) (y:=.str (zA1 g ((word f).drop q))) rfl (by rw [length_map,zFx];lia))) .nil) (CallS.con0 (zCy hg _ (by rw [length_drop];lia)) rfl rfl) (.k q69))) (J.pop ?_)
  rw [show zBz (zA1 g ((word f).drop q))=zUb (zA1 g ((word f).drop (q+1))) by rw [hdq];exact zBh hg _ _]
  refine J.next qq (q+1) ⟨⟨Nat.le_add_left 1 q,hql⟩,by lia⟩ ⟨rfl,?_,rfl,by show (true&&(true&&(o.lo 3&&true)))=true;rw [ho];rfl,rfl⟩
  show [SO.lst ((zCo g (word f) q).map .str++[.str (zA1 g ((word f).drop q))]),_,_]=[SO.lst ((zCo g (word f) (q+1)).map .str),_,_]
  rw [zNb,map_append]
  rfl
 ·have hd:(word f).drop q=[]:=Classical.byContradiction fun h=>by rw [show (zUb (zA1 g ((word f).drop q)) != _)=_ from hne,decide_eq_true h] at hb;cases hb
  have e:q=(word f).length:=Nat.le_antisymm hq (List.drop_eq_nil_iff.mp hd)
  rw [e]
  exact done _
theorem zHw:∀S:List Int,PyData.canLayAll0 (pints S)=true∧PyData.depthAll (pints S)=0
 |[]=>⟨rfl,rfl⟩
 |x::S=>by
  obtain ⟨a,b⟩:=zHw S
  exact ⟨by show (PyData.canLay0 (.int x)&&PyData.canLayAll0 (pints S))=true;rw [a];rfl,by show max (PyData.depth (.int x)) (PyData.depthAll (pints S))=0;rw [b];rfl⟩
theorem zCf(S:List Int):SeqAt.shaped (.list (pints S))=true:=by
 obtain ⟨a,b⟩:=zHw S
 simp only [SeqAt.shaped,PyData.canLay0,a,PyData.depth,b,Bool.true_and]
 decide
theorem zCs(S:List Nat):PyData.eqv (.list (pints (natI S))) (.list [])=decide (S=[]):=by
 induction S with
 |nil=>rfl
 |cons x S=>rfl
section
variable {fn:Fn}{d n₀:Nat}{c:Cx fn (d+3) n₀}{ps:List (zA0×SV)}{S:List Nat}{Rs:List (List Nat)}{n z:Nat}{l:List Nat}
theorem zXv{fr:Nat}(hl:l.length≤1000)(hf:fr≤l.length):CallS c ps (tkT S Rs n l) (.ref 214) [.r 3,.d (.int fr)] [] (.d (.list ((l.drop fr).map zBa))) (tkT S Rs n (l.take fr)):=by
 have:=CallS.con (c:=c) (ps:=ps) (nx:=tkT S Rs n l) [3,4] (zU7 (k:=0) (l:=l.map zBa) (i:=fr) (by rw [length_map];(exact le_trans (by assumption) (le_of_ble_eq_true rfl))) (by rw [length_map];exact hf)) (zAg (by lia)) rfl rfl rfl rfl
 rw [←map_drop,←map_take] at this
 exact this
theorem zUx(hl:l.length≤1000):CallS c ps (tkT S Rs n l) (.ref 214) [.r 3] [] (.d (.list (l.map zBa))) (tkT S Rs n []):=
 CallS.con [3,4] (zVa (k:=0) (l:=l.map zBa) (by rw [length_map];(exact le_trans (by assumption) (le_of_ble_eq_true rfl)))) (zAg (by lia)) rfl rfl rfl rfl
theorem zYe{f:Nat→Nat}{Rs:List (List Nat)}(ok:∀r∈Rs,∃k,k<7∧Ring f k r):∀y∈zDc Rs,Con 0 287 [.d y] [] [] (.d (.str (zZa y))) []:=fun y hy=>by
 obtain ⟨r,hr,rfl⟩:=mem_map.mp hy
 obtain ⟨k,_,K⟩:=ok r hr
 have h7:=zA3 K.nodup K.lt
 obtain ⟨t,rfl⟩:=K.head
 refine zY9 ?_
 rw [length_map]
 simp at h7
 (exact le_trans (by assumption) (le_of_ble_eq_true rfl))
theorem yB7{f:Nat→Nat}{k:Nat}{r:List Nat}(ok:RingsOk f Rs)(hl:Rs.length≤7)(hk:k<7)(K:Ring f k r):CallS c ps (tkT S Rs n l) (.ref 96) [.r 1,.d (zRj r)] [(.ofString "key",.ref 287)] (.d .none) (tkT S (zW2 k r Rs) n l):=by
 have:=CallS.con (c:=c) (ps:=ps) (nx:=tkT S Rs n l) [1] (zOd (K:=zZa) (x:=zRj r) (j:=cut k (zDn Rs)) (zYe ok.ring) (zYe (Rs:=[r]) (fun q hq=>by rw [mem_singleton.mp hq];exact ⟨k,hk,K⟩) _ (.head _)) yE0 (by rw [length_map];(exact le_trans (by assumption) (le_of_ble_eq_true rfl))) (by rw [length_map];exact le_trans (zL4 _ _) (by unfold zDn;rw [length_map];exact le_refl _)) (yDn ok hk K)) (zAg (by lia)) rfl rfl rfl rfl
 rw [←map_take,←map_drop,←map_cons,←map_append] at this
 exact this
end
theorem TakeAt.lens{S0 rot S:List Nat}(h:TakeAt S0 rot rot.length S)(hr:rot.Nodup)(hc:∀y∈rot,y∈S0):S.length+rot.length≤S0.length:=by
 have hm:∀y,y∈S↔y∈S0∧y∉rot:=fun y=>by rw [h.mem,take_length]
 rw [←length_append]
 refine List.Nodup.length_le_of_subset (nodup_append.mpr ⟨h.sorted.imp fun h=>ne_of_lt h,hr,fun a ha b hb e=>((hm a).mp ha).2 (e▸hb)⟩) fun y hy=>?_
 rcases mem_append.mp hy with hy|hy
 ·exact ((hm y).mp hy).1
 ·exact hc y hy
theorem zQ4{r:List Nat}(F:Nat→PyData):accN (fun i=>some (F (r.getD i 0))) r.length=r.map F:=by
 rw [zBr (f:=fun i=>F (r.getD i 0)) fun _ _=>rfl]
 refine ext_getElem? fun i=>?_
 rw [getElem?_map,getElem?_map]
 by_cases h:i<r.length
 ·rw [getElem?_range h,getElem?_eq_getElem h,Option.map_some,Option.map_some,zA7 (getElem?_eq_getElem h)]
 ·rw [getElem?_eq_none (by simpa using le_of_not_lt h),getElem?_eq_none (le_of_not_lt h)]
  rfl
theorem yAz{c:Cx zYw 6 0}{Q:Flow→Shared→Prop}{f:Nat→Nat}{rest:List Stmt}{bs:List (List Stmt)}{S:List Nat}{n:Nat}(hf:∀x,x<7→f x<7)(hT:TwoSt f [] S)(hn:n+2*S.length≤21)(done:∀n,n≤21→J c Q (tuN f) (tuT [] (rings f) n) (rest::bs)):J c Q (tuN f) (tuT S [] n) ((tuWhile::rest)::bs):=by
 conv=>arg 5;arg 1;arg 1;whnf
 refine J.while (X:=List Nat×List (List Nat)×Nat) (fun w=>w.1.length) (fun w=>TwoSt f w.2.1 w.1∧w.2.2+2*w.1.length≤21) (fun w=>tuN f) (fun w=>tuT w.1 w.2.1 w.2.2) (S,[],n) ⟨hT,hn⟩ ⟨rfl,rfl,rfl,rfl,rfl⟩ ?_
 clear hT hn
 rintro ⟨S,Rs,n⟩ ⟨hT,hn⟩
 dsimp only at hT hn ⊢
 refine .mk (EvB.cmp (.loc rfl) (Ev.listD (xs:=[]) .nil) (.neD ⟨_,rfl,rfl⟩ rfl (zCf _) rfl)) (fun hb Q₁ q=>?_) fun hb=>?_
 ·induction S with
  |nil=>cases hb
  |cons x S=>
   have hS7:=hT.lt hf
   obtain ⟨k,r,u,v,hk7,K,hr,hruv,hrS,hnew⟩:=hT.pick hf (.head _)
   have R:=K.rot hruv
   generalize hrot:(x::v)++u=rot at R hrS
   have hat:atI rot 0=x:=by rw [←hrot];rfl
   refine J.seq (Ex.swap (.cons (Ev.call (.glob zOy) .nil (CallS.con [] zU4 rfl rfl rfl rfl rfl) (.k yCq)) (.cons (Ev.sub (.loc rfl) .int (SubS.item (j:=0) rfl (by rw [length_map,length_map];exact le_trans (le_trans (zA3 (hT.sorted.imp fun h=>ne_of_lt h) hS7) (by decide)) (le_refl 100000)) rfl)) (.cons .int .nil))) rfl rfl rfl) ?_
   refine J.less (ps':=tkN f (atI rot 0) 0) (nx':=tkT (x::S) Rs n []) (by rw [hat];exact ⟨rfl,rfl,rfl,rfl,rfl⟩) ?_
   refine zXb hf R hT.sorted hS7 hrS (by lia) fun S' a hT'=>?_
   have hlt:∀y∈rot,y<7:=fun y hy=>hS7 y (hrS y hy)
   have hr7:=zA3 R.nodup hlt
   refine zTo R.ne hr7 hlt fun fr hfr hmax=>?_
   refine J.seq (Ex.assign (Ev.meth (.loc rfl) (MethS.popf rfl rfl) (.cons (.loc rfl) .nil) (zXv (by (exact le_trans (by assumption) (le_of_ble_eq_true rfl))) (le_of_lt hfr)) (.k yCo))) ?_
   have hrb:rot.drop fr++rot.take fr=r:=by rw [←hrot] at hfr hmax ⊢;exact zT8 K hruv hfr hmax
   have hrl:r.length≤7:=by rw [←hrb,length_append,length_drop,length_take];lia
   have hadd:=BinS.addL (c:=c) (ps:=(.ofString "behind",.d (.list ((rot.drop fr).map zBa)))::tkN f a fr) (nx:=tkT S' Rs (n+rot.length) []) (v₁:=.d (.list ((rot.drop fr).map zBa))) (v₂:=.d (.list ((rot.take fr).map zBa))) rfl rfl (by rw [length_map,length_map,length_drop,length_take];lia)
   rw [←map_append,hrb] at hadd
   have hsrc:=SrcS.list (c:=c) (ps:=(.ofString "behind",.d (.list ((rot.drop fr).map zBa)))::tkN f a fr) (nx:=tkT S' Rs (n+rot.length) []) (y:=r.map zBa)
   rw [length_map] at hsrc
   refine J.seq (Ex.expr (Ev.meth (.loc rfl) (.append rfl) (.cons (Ev.callK (.glob zOz) (.cons (.loc rfl) (.cons (Ev.comp (fun i=>some (.str (ltr (r.getD i 0)))) (zQ4 fun k=>.str (ltr k)) (by (exact le_trans (by assumption) (le_of_ble_eq_true rfl))) (Ev.bin (.loc rfl) (Ev.meth (.loc rfl) (MethS.popf rfl rfl) .nil (zUx (by rw [length_take];lia)) (.k yCo)) hadd) hsrc ?turn rfl) .nil)) (fun _=>.glob zZ1) (yB7 (l:=[]) hT.ok hT.len hk7 K) zQm) .nil) (zTx (n:=n+rot.length) (l:=[]) (by lia)) .b)) (J.pop ?_)
   case turn=>
    intro i hi c' C h
    have e:(r.map zBa).getD i .none=zBa (r.getD i 0):=by
     rw [getD_eq_getElem?_getD,getElem?_map,getElem?_eq_getElem hi,zA7 (getElem?_eq_getElem hi)]
     rfl
    rw [e] at h
    exact .one (Ev.sub (Ev.cloc h rfl) .int (SubS.tup (j:=1) rfl (le_of_ble_eq_true rfl))) ⟨rfl,rfl,rfl,rfl⟩
   have hT2:=hT.next hk7 K hr (c:=rot) (fun y=>by rw [hruv,←hrot,mem_append,mem_append];exact Or.comm) hnew hT'
   have hSl:S'.length+rot.length≤(x::S).length:=hT'.lens R.nodup hrS
   have hrp:=length_pos_iff.mpr R.ne
   exact J.next q (S',zW2 k r Rs,n+rot.length+1) ⟨⟨hT2,by show n+rot.length+1+2*S'.length≤21;lia⟩,by show S'.length<(x::S).length;lia⟩ ⟨rfl,rfl,rfl,rfl,rfl⟩
 ·induction S with
  |cons x S=>cases hb
  |nil=>
   have:=hT.done hf
   subst this
   exact done n (by omega)
theorem zTc{f:Nat→Nat}(hf:∀x,x<7→f x<7):Con 6 292 [.d (.list (zDd f))] [] [] (.d (.list (zDc (rings f)))) []:=by
 refine Con.enterN (fn:=zYw) (fun _=>rfl) [] [] ?hbody (fun _=>.nil) (fun P s a1 X=>BindsTo.of_eq rfl)
 intro c Q ret fin
 conv=>arg 5;arg 1;whnf
 refine J.seq (Ex.swap (.cons (Ev.list (xs:=[]) .nil) (.cons (Ev.list (xs:=[]) .nil) (.cons (Ev.list (xs:=[]) .nil) .nil))) rfl rfl rfl) ?_
 refine J.less (ps':=tuN f) (nx':=tuT [] [] 0) ⟨rfl,rfl,rfl,rfl,rfl⟩ ?_
 refine yAy hf fun S n hS hn=>?_
 have hS7:=hS.len hf (le_refl _)
 refine yAz hf (TwoSt.zero hS.sorted fun x=>by rw [hS.mem,zW3 hf]) (by lia) fun n hn=>?_
 have hln:(replicate n PyData.none).length=n:=List.length_replicate
 exact J.retF (nx:=[.lst []]) (l:=zDc (rings f)) (Ev.ifb (EvB.cmp (.loc rfl) (Ev.bin (Ev.listD (xs:=[.none]) (.cons .non .nil)) (Ev.call (.built zD9 zD8 (by decide)) (.cons (.loc rfl) .nil) (CallS.len rfl (by rw [hln];(exact le_trans (by assumption) (le_of_ble_eq_true rfl)))) .b) (BinS.mulN rfl (by rw [hln];(exact le_trans (by assumption) (le_of_ble_eq_true rfl))))) (.eqD ⟨_,rfl,rfl⟩ rfl (zAy _) (zAy _))) (by rw [hln,zFj]) (.loc rfl)) rfl fun z s x O r=>ret _ _ _ _ O r
noncomputable abbrev bbN(f:Nat→Nat)(g:zA0)(B:List Nat):List (zA0×SV):=[(.ofString "words",.d (.list (zEj (word f)))),(.ofString "firsts",.r 0),(.ofString "back",.r 1),(.ofString "book",.d (.list (zBs f g B))),(.ofString "marked",.d (.str (zA1 g (word f)))),(.ofString "ground",.d (.str g))]
theorem zP0(P:Params):nsIn (kW P) mainGlobals (.ofString "_law_label")=some (some (.ref 334)):=by kernel_rfl
theorem yAg(P:Params):keepIn (kW P) (.ref 334)=true:=by kernel_rfl
noncomputable def baWords:Stmt:=(zAf (stAt 30)).getD 2 default
theorem zRy{c:Cx zXg 6 0}{Q:Flow→Shared→Prop}{f:Nat→Nat}{g ab:zA0}{B:List Nat}{o:SO}{rest:List Stmt}{bs:List (List Stmt)}(hf:∀x,x<7→f x<7)(hg:zA6 g)(done:J c Q (bbN f g B) [.lst [],namO (fun _=>False) (fun k=>ltr (f k)) 0] (rest::bs)):J c Q (baN f g B ab) [.lst ((zCo g (word f) (word f).length).map .str),.lst [],namO (fun _=>False) (fun k=>ltr (f k)) 0] ((baWords::rest)::bs):=by
 conv=>arg 5;arg 1;arg 1;whnf
 have hwl:(word f).length≤7:=zA3 (zA5 hf) (zA9 hf)
 refine J.sel [1,2,0] (ps':=[(.ofString "ladder",.r 2),(.ofString "firsts",.r 0),(.ofString "back",.r 1),(.ofString "book",.d (.list (zBs f g B))),(.ofString "marked",.d (.str (zA1 g (word f)))),(.ofString "ground",.d (.str g))]) (nx':=[.lst [],namO (fun _=>False) (fun k=>ltr (f k)) 0,.lst ((zCo g (word f) (word f).length).map .str)]) ⟨rfl,rfl,rfl,rfl⟩ ?_
 refine J.freeze (nx:=[.lst [],namO (fun _=>False) (fun k=>ltr (f k)) 0]) ?_
 have hsrc:=SrcS.list (c:=c) (ps:=[(.ofString "ladder",.d (.list ((zCo g (word f) (word f).length).map .str))),(.ofString "firsts",.r 0),(.ofString "back",.r 1),(.ofString "book",.d (.list (zBs f g B))),(.ofString "marked",.d (.str (zA1 g (word f)))),(.ofString "ground",.d (.str g))]) (nx:=[.lst [],namO (fun _=>False) (fun k=>ltr (f k)) 0]) (y:=(zCo g (word f) (word f).length).map .str)
 rw [length_map,zFx] at hsrc
 refine J.seq (zGi (out:=zEj (word f)) (fun i=>some (.str (ltr ((word f).getD i 0)))) (zQ4 fun k=>.str (ltr k)) (by (exact le_trans (by assumption) (le_of_ble_eq_true rfl))) (.loc rfl) hsrc ?turn rfl) (J.less ⟨rfl,rfl,rfl,rfl,rfl⟩ done)
 intro i hi c' C h
 have e:((zCo g (word f) (word f).length).map PyData.str).getD i .none = .str (zA1 g ((word f)[i]::(word f).drop (i+1))):=by
  rw [getD_eq_getElem?_getD,getElem?_map,zCo,getElem?_map,getElem?_range hi,←drop_eq_getElem_cons hi]
  rfl
 rw [e] at h
 rw [zA7 (getElem?_eq_getElem hi)]
 have hn:(zA1 g ((word f)[i]::(word f).drop (i+1))).length≤10000:=by
  have hgl:g.length≤5:=by rcases hg with rfl|rfl<;>decide
  rw [zAa,length_cons,length_drop];lia
 have hlab:=zGu g (word f)[i] ((word f).drop (i+1))
 have hfd:=zB8 g (word f)[i] ((word f).drop (i+1))
 have cl:=zOe hn (by rw [hfd];decide)
 rw [hlab] at cl
 exact .one (Ev.call (Ev.cglob zP0) (.cons (Ev.cloc h rfl) .nil) (CallS.con0 cl rfl rfl) (.k yAg)) ⟨rfl,rfl,rfl,rfl⟩
theorem zEe(wd:List Nat):∀k,(zA4 wd k).length≤k
 |0=>le_refl _
 |k+1=>by
  have:=zEe wd k
  unfold zA4
  split
  ·rw [length_append];exact Nat.succ_le_succ this
  ·(exact le_succ_of_le (by assumption))
theorem zBg(wd:List Nat):∀k,∀x∈zA4 wd k,x<k
 |0,x,h=>by cases h
 |k+1,x,h=>by
  unfold zA4 at h
  split at h
  ·rcases mem_append.mp h with h|h
   ·exact lt_succ_of_lt (zBg wd k x h)
   ·rw [mem_singleton.mp h];exact lt_succ_self _
  ·exact lt_succ_of_lt (zBg wd k x h)
theorem zKb{wd:List Nat}{k:Nat}(h:zA4 wd k=[]∨wd.getD (lst (zA4 wd k)) 0<wd.getD k 0):zA4 wd (k+1)=zA4 wd k++[k]:=by
 rw [zA4,if_pos h]
theorem zMt{wd:List Nat}{k:Nat}(h:¬(zA4 wd k=[]∨wd.getD (lst (zA4 wd k)) 0<wd.getD k 0)):zA4 wd (k+1)=zA4 wd k:=by
 rw [zA4,if_neg h]
theorem zCe{wd:List Nat}{k:Nat}(hk:k<wd.length):(zEj wd)[k]? = some (.str (ltr (wd.getD k 0))):=by
 rw [getElem?_map,getElem?_eq_getElem hk,zA7 (getElem?_eq_getElem hk)]
 rfl
theorem zD6{S:List Nat}(h:S≠[]):∃l,pints (natI S)=l++[.int (lst S:Nat)]∧l.length<S.length:=by
 refine ⟨pints (natI S.dropLast),?_,by rw [length_map,length_map,List.length_dropLast];have:=length_pos_iff.mpr h;omega⟩
 conv=>lhs;rw [←List.dropLast_concat_getLast h]
 rw [natI,map_append,pints,map_append]
 have:lst S=S.getLast h:=by simp [lst,getLastD_eq_getLast?,getLast?_eq_some_getLast h]
 rw [this]
 rfl
theorem zY4{c:Cx zXg 6 0}{Q:Flow→Shared→Prop}{f:Nat→Nat}{g:zA0}{B:List Nat}{rest:List Stmt}{bs:List (List Stmt)}(hf:∀x,x<7→f x<7)(done:J c Q (bbN f g B) [.lst (pints (natI (zA4 (word f) (word f).length))),namO (fun _=>False) (fun k=>ltr (f k)) 0] (rest::bs)):J c Q (bbN f g B) [.lst [],namO (fun _=>False) (fun k=>ltr (f k)) 0] ((baFst::rest)::bs):=by
 conv=>arg 5;arg 1;arg 1;whnf
 have h7:=zA9 hf
 have hwl:(word f).length≤7:=zA3 (zA5 hf) h7
 have hrl:(zEj (word f)).length=(word f).length:=length_map _
 have hlt:∀k,k<(word f).length→(word f).getD k 0<7:=fun k hk=>by rw [zA7 (getElem?_eq_getElem hk)];exact h7 _ (getElem_mem hk)
 refine J.forRange (X:=Unit) (word f).length (fun _ _=>True) (fun _ _=>bbN f g B) (fun k _=>[.lst (pints (natI (zA4 (word f) k))),namO (fun _=>False) (fun k=>ltr (f k)) 0]) () trivial (Ev.call (.built zAr zAq (by decide)) (.cons (Ev.call (.built zD9 zD8 (by decide)) (.cons (.loc rfl) .nil) (CallS.lenD (by lia)) .b) .nil) .range1 .t) rfl (by rw [hrl];exact zCj _ (by (exact le_trans (by assumption) (le_of_ble_eq_true rfl)))) (by rw [hrl];exact zDs _) ⟨rfl,rfl,rfl,rfl,rfl⟩ ?turn fun _ _=>J.pop done
 intro k _ hk _ c' Q₁ sb q
 rw [show (0:Int)+(k:Nat)*1=(k:Nat) by lia]
 have hfl:=zEe (word f) k
 refine J.ite (EvB.or (b':=(zOi (ltr ((word f).getD k 0)) (ltr ((word f).getD (lst (zA4 (word f) k)) 0))==1) || false) (EvB.cmp (.loc rfl) (Ev.listD (xs:=[]) .nil) (.eqD ⟨_,rfl,rfl⟩ rfl (zCf _) rfl)) fun hne=>?second) (fun hb=>?yes) fun hb=>J.pop (J.pop ?no)
 case second=>
  have hF:zA4 (word f) k≠[]:=of_decide_eq_false (zCs _▸hne)
  obtain ⟨l,hl,hll⟩:=zD6 hF
  have hlk:=zBg (word f) k _ (zAs hF)
  refine EvB.or (EvB.cmp (Ev.call (.glob zGq) (.cons (Ev.sub (.loc rfl) (.loc rfl) (SubS.itemD (by lia) (zCe hk))) (.cons (Ev.sub (.loc rfl) (Ev.sub (.loc rfl) .m1 (SubS.last (l:=l) (y:=.int (lst (zA4 (word f) k):Nat)) (congrArg SO.lst hl) (by lia))) (SubS.itemD (by omega) (zCe (lt_trans hlk hk)))) .nil)) (CallS.con0 zGf rfl rfl) (.k zXl)) .int .eqI) fun _=>.orN
 case yes=>
  have hc:zA4 (word f) k=[]∨(word f).getD (lst (zA4 (word f) k)) 0<(word f).getD k 0:=by
   rw [zCs] at hb
   by_cases h0:zA4 (word f) k=[]
   ·exact .inl h0
   ·refine .inr ((zEy _ (hlt k hk) _ (hlt _ (lt_trans (zBg (word f) k _ (zAs h0)) hk))).mp ?_)
    simpa [h0] using hb
  refine J.seq (Ex.expr (Ev.meth (.loc rfl) (.append rfl) (.cons (.loc rfl) .nil) (CallS.append rfl (by rw [length_map,length_map];lia)) .b)) (J.pop (J.pop ?_))
  refine J.next q () trivial ⟨rfl,?_,rfl,rfl,rfl⟩
  show [SO.lst _,_]=[SO.lst _,_]
  rw [zKb hc,show pints (natI (zA4 (word f) k++[k]))=pints (natI (zA4 (word f) k))++[.int (k:Nat)] by simp only [natI,pints,map_append,map_cons,map_nil]]
 case no=>
  have hc:¬(zA4 (word f) k=[]∨(word f).getD (lst (zA4 (word f) k)) 0<(word f).getD k 0):=fun h=>by
   rw [zCs] at hb
   by_cases h0:zA4 (word f) k=[]
   ·simp [h0] at hb
   ·rw [(zEy _ (hlt k hk) _ (hlt _ (lt_trans (zBg (word f) k _ (zAs h0)) hk))).mpr (h.resolve_left h0)] at hb
    simp at hb
  exact J.next q () trivial ⟨rfl,by rw [zMt hc];rfl,rfl,rfl,rfl⟩
theorem zE6{f:Nat→Nat}{R:List (List Nat)}(h:RingsOk f R):(zAe R).Pairwise (· < ·):=by
 unfold zAe
 rw [pairwise_map]
 exact List.pairwise_lt_range.imp_of_mem fun {a b} ha hb hab=>yA7 h hab (le_of_lt (mem_range.mp hb))
theorem zJv{f:Nat→Nat}{R:List (List Nat)}(h:RingsOk f R):(zAe R).length≤R.flatten.length:=by
 rw [←zC7 h]
 exact zEe _ _
theorem zR0{f:Nat→Nat}{R:List (List Nat)}(h:RingsOk f R):∀x∈zAe R,x<R.flatten.length:=by
 rw [←zC7 h]
 exact zBg _ _
noncomputable abbrev zCl(f:Nat→Nat):List Nat:=(zAe (rings f)).tail++[(word f).length]
theorem zV5{f:Nat→Nat}(hf:∀x,x<7→f x<7){k:Nat}(hk:k<(word f).length):∃t,cutr k (zAe (rings f))=t+1∧t<(zAe (rings f)).length∧t<(zCl f).length∧(zAe (rings f)).getD t 0<(word f).length∧
  (k+1=(zCl f).getD t 0→(word f).getD ((zAe (rings f)).getD t 0) 0=f ((word f).getD k 0))∧(k+1≠(zCl f).getD t 0→k+1<(word f).length∧(word f).getD (k+1) 0=f ((word f).getD k 0)):=by
 have ok:=zCd hf
 obtain ⟨t,e,hl,h1,h2,h3⟩:=zO6 ok (k:=k) (j:=cutr k (zAe (rings f))) hk (fun i x hx=>by
  have:=zHi (z:=k) (zE6 ok) i x hx
  constructor
  ·intro c;exact Classical.byContradiction fun d=>absurd (this.mpr d) (Nat.not_lt.mpr c)
  ·intro c;exact le_of_not_lt fun d=>(this.mp d) c) (le_trans (zHj _ _) (Nat.le_of_eq (zC4 _)))
 have g1:=zA7 h1
 have g2:(zCl f).getD t 0=off (rings f) (t+1):=zA7 h2
 refine ⟨t,e,(List.getElem?_eq_some_iff.mp h1).1,(List.getElem?_eq_some_iff.mp h2).1,by rw [g1];exact zR0 ok _ (mem_of_getElem? h1),fun c=>?_,fun c=>?_⟩
 ·rw [g2] at c
  rw [if_pos c] at h3
  rw [g1]
  exact zA7 h3
 ·rw [g2] at c
  rw [if_neg c] at h3
  exact ⟨(List.getElem?_eq_some_iff.mp h3).1,zA7 h3⟩
theorem zX9{l:List Nat}{k j:Nat}(hk:k<l.length):(j∈l.take k∨j=l.getD k 0)↔j∈l.take (k+1):=by
 rw [take_add_one,mem_append,getElem?_eq_getElem hk,zA7 (getElem?_eq_getElem hk)]
 exact or_congr Iff.rfl (mem_singleton).symm
section
variable {fn:Fn}{d n₀:Nat}{c:Cx fn d n₀}{E:Env}{ps:List (zA0×SV)}{nx nx' nx₁:List SO}{e t f:Expr}{v v':SV}{pos:Pos}
theorem Ev.to(h:Ev c E ps nx e v nx')(q:v=v'):Ev c E ps nx e v' nx':=q▸h
theorem Ev.ifn{b:Bool}(h:EvB c E ps nx e b nx₁)(hb:b=false)(k:Ev c E ps nx₁ f v nx'):Ev c E ps nx (.IfExp e t f pos) v nx':=by
 subst hb
 exact Ev.iff h k
end
theorem zE2{S:List Nat}{i:Nat}(h:i<S.length):(pints (natI S))[i]? = some (.int (S.getD i 0:Nat)):=by
 rw [getElem?_map,natI,getElem?_map,getElem?_eq_getElem h,zA7 (getElem?_eq_getElem h)]
 rfl
theorem zT6(S:List Nat):(pints (natI S)).length=S.length:=by rw [length_map,natI,length_map]
theorem zJj{α:Type}(l:List α):zDq l (some 1) none=l.tail:=by
 induction l with
 |nil=>rfl
 |cons a l=>
  show ((a::l).drop (kms_lo (some 1) (l.length+1))).take (kms_hi none (l.length+1)-kms_lo (some 1) (l.length+1))=l
  have h1:kms_lo (some 1) (l.length+1)=1:=by show min 1 (l.length+1)=1;rfl
  have h2:kms_hi none (l.length+1)=l.length+1:=rfl
  rw [h1,h2]
  simp
noncomputable def baEnds:Stmt:=(zAf (stAt 30)).getD 4 default
noncomputable abbrev bcN(f:Nat→Nat)(g:zA0)(B:List Nat):List (zA0×SV):=(.ofString "ends",.d (.list (pints (natI (zCl f)))))::bbN f g B
noncomputable abbrev bcT(f:Nat→Nat)(k:Nat):List SO:=[.lst (pints (natI (zAe (rings f)))),namO (fun x=>x∈(word f).take k) (fun k=>ltr (f k)) k]
section
variable {f:Nat→Nat}{g:zA0}{B:List Nat}{rest:List Stmt}{bs:List (List Stmt)}{c:Cx zXg 6 0}{Q:Flow→Shared→Prop}
theorem zV4(hf:∀x,x<7→f x<7)(done:J c Q (bcN f g B) (bcT f 0) (rest::bs)):
  J c Q (bbN f g B) [.lst (pints (natI (zA4 (word f) (word f).length))),namO (fun _=>False) (fun k=>ltr (f k)) 0] ((baEnds::rest)::bs):=by
 conv=>arg 5;arg 1;arg 1;whnf
 have hwl:(word f).length≤7:=zA3 (zA5 hf) (zA9 hf)
 have ok:=zCd hf
 have hsl:(zAe (rings f)).length≤7:=le_trans (zJv ok) hwl
 have hfs:zA4 (word f) (word f).length=zAe (rings f):=zC7 ok
 rw [hfs]
 have hp:=zT6 (zAe (rings f))
 have hrl:(zEj (word f)).length=(word f).length:=length_map _
 refine J.seq (Ex.assign (Ev.to (v':=.d (.list (pints (natI (zCl f))))) (Ev.bin (Ev.sliceL (l:=pints (natI (zAe (rings f)))) (.loc rfl) rfl (.some .int) .none (by lia)) (Ev.listD (xs:=[_]) (.cons (Ev.call (.built zD9 zD8 (by decide)) (.cons (.loc rfl) .nil) (CallS.lenD (by lia)) .b) .nil)) (BinS.addL rfl rfl ?len)) ?eq)) ?k
 case len=>
  rw [zJj,List.length_tail,hp]
  show _+1≤_
  omega
 case eq=>
  rw [zJj,hrl,show pints (natI (zCl f))=(pints (natI (zAe (rings f)))).tail++[.int (word f).length] by rw [zCl,natI,map_append,pints,map_append,←List.map_tail,←List.map_tail];rfl]
 case k=>
  have h0:∀j,j<7→(False↔j∈(word f).take 0):=fun j _=>by rw [List.take_zero];exact ⟨False.elim,fun h=>nomatch h⟩
  refine J.sel [1,0] (ps':=[(.ofString "ends",.d (.list (pints (natI (zCl f))))),(.ofString "words",.d (.list (zEj (word f)))),(.ofString "firsts",.r 1),(.ofString "back",.r 0),(.ofString "book",.d (.list (zBs f g B))),(.ofString "marked",.d (.str (zA1 g (word f)))),(.ofString "ground",.d (.str g))]) (nx':=[namO (fun _=>False) (fun k=>ltr (f k)) 0,.lst (pints (natI (zAe (rings f))))]) ⟨rfl,rfl,rfl,rfl⟩ ?_
  refine J.namP (Pq:=fun x=>x∈(word f).take 0) h0 (le_refl 0) ?_
  exact J.sel [1,0] (ps':=bcN f g B) (nx':=bcT f 0) ⟨rfl,rfl,rfl,rfl⟩ done
theorem yBd(hf:∀x,x<7→f x<7)(done:J c Q (bcN f g B) (bcT f (word f).length) (rest::bs)):J c Q (bcN f g B) (bcT f 0) ((baWd::rest)::bs):=by
 conv=>arg 5;arg 1;arg 1;whnf
 have h7:=zA9 hf
 have hwl:(word f).length≤7:=zA3 (zA5 hf) h7
 have hrl:(zEj (word f)).length=(word f).length:=length_map _
 have ok:=zCd hf
 have hsl:(zAe (rings f)).length≤7:=le_trans (zJv ok) hwl
 have hp:=zT6 (zAe (rings f))
 have hpe:=zT6 (zCl f)
 have hel:(zCl f).length≤8:=by rw [length_append,List.length_tail];exact Nat.succ_le_succ (le_trans (Nat.sub_le _ _) hsl)
 refine J.forRange (X:=Unit) (word f).length (fun _ _=>True) (fun _ _=>bcN f g B) (fun k _=>bcT f k) () trivial (Ev.call (.built zAr zAq (by decide)) (.cons (Ev.call (.built zD9 zD8 (by decide)) (.cons (.loc rfl) .nil) (CallS.lenD (by omega)) .b) .nil) .range1 .t) rfl (by rw [hrl];exact zCj _ (by (exact le_trans (by assumption) (le_of_ble_eq_true rfl)))) (by rw [hrl];exact zDs _) ⟨rfl,rfl,rfl,rfl,rfl⟩ ?turn fun _ _=>J.pop done
 intro k _ hk _ c' Q₁ sb q
 rw [show (0:Int)+(k:Nat)*1=(k:Nat) by lia]
 obtain ⟨t,ht,ht1,ht2,ht3,hyes,hno⟩:=zV5 hf hk
 have h7k:(word f).getD k 0<7:=by rw [zA7 (getElem?_eq_getElem hk)];exact h7 _ (getElem_mem hk)
 have cb:=zOc (S:=natI (zAe (rings f))) (z:=(k:Nat)) (j:=cutr k (zAe (rings f))) (by rw [natI,length_map];(exact le_trans (by assumption) (le_of_ble_eq_true rfl))) (by rw [natI,length_map];exact zHj _ _) (zVg (zE6 ok))
 rw [ht] at cb
 refine J.seq (Ex.assign (Ev.bin (Ev.call (.glob zL8) (.cons (.loc rfl) (.cons (.loc rfl) .nil)) (CallS.con [0] cb rfl rfl rfl rfl rfl) (.k zLx)) .int (BinS.pred (Nat.le_add_left 1 t)))) ?_
 refine J.seq (Ex.setN (nx₁:=bcT f k) (nm:=fun k=>ltr (f k)) (Pq:=fun x=>x∈(word f).take (k+1)) (n:=k) (x:=(word f).getD k 0) ?val (.loc rfl) (Ev.sub (.loc rfl) (.loc rfl) (SubS.itemD (by lia) (zCe hk))) rfl h7k (by lia) fun j _=>zX9 hk) (J.pop (J.next q () trivial ⟨rfl,rfl,rfl,rfl,rfl⟩))
 by_cases hb:k+1=(zCl f).getD t 0
 ·exact Ev.ifb (EvB.cmp (Ev.bin (.loc rfl) .int BinS.succ) (Ev.sub (.loc rfl) (.loc rfl) (SubS.itemD (by lia) (zE2 ht2))) .eqI) (by rw [hb];exact beq_self_eq_true _) (Ev.to (Ev.sub (.loc rfl) (Ev.sub (.loc rfl) (.loc rfl) (SubS.item rfl (by lia) (zE2 ht1))) (SubS.itemD (by omega) (zCe ht3))) (congrArg (fun y=>SV.d (.str (ltr y))) (hyes hb)))
 ·exact Ev.ifn (EvB.cmp (Ev.bin (.loc rfl) .int BinS.succ) (Ev.sub (.loc rfl) (.loc rfl) (SubS.itemD (by omega) (zE2 ht2))) .eqI) (beq_eq_false_iff_ne.mpr fun e=>hb (Int.ofNat.inj e)) (Ev.to (Ev.sub (.loc rfl) (Ev.bin (.loc rfl) .int BinS.succ) (SubS.itemD (by omega) (zCe (hno hb).1))) (congrArg (fun y=>SV.d (.str (ltr y))) (hno hb).2))
end
section
variable {fn:Fn}{d n₀:Nat}{c:Cx fn d n₀}{E:Env}{ps:List (zA0×SV)}{nx nx':List SO}{elts:List Expr}{pos px py tp:Pos}{svs:List SV}{k kk:Nat}{x y:zA0}{v1 v2:SV}{e:Expr}
theorem Ev.tupleR(h:EvL c E ps nx elts svs nx')(hs:autoParam (ble svs.length 100000=true) T0R):Ev c E ps nx (.Tuple elts kk pos) (.r nx'.length) (nx'++[.tup svs]):=fun z s O Q k=>by
 refine Tuple_ (h z s O _ _ fun z₁ s₁ vs l₁ O₁ r=>?_)
 refine O₁.grow fun m news F N _ g=>?_
 refine newTuple_N F N (fun h' F' N'=>?_) (by rw [zBk r];exact zTk hs)
 refine g (.tup svs) _ h' s₁.toks (fun z' le=>⟨vs,rfl,r.mono le⟩) F' N' fun z₂ le O₂ r₂=>?_
 exact k z₂ _ _ (l₁.trans le) O₂ r₂
end
theorem zNn{f:Nat→Nat}(hf:∀x,x<7→f x<7)(k:Nat):(trail f (word f) k).length≤14:=by
 have h1:=zCh f (word f) 7 k
 have h2:=zA3 (zA5 hf) (zA9 hf)
 have h3:(trail f (word f) k).length≤14:=le_trans h1 (by lia)
 omega
theorem zRz{f:Nat→Nat}{g:zA0}{B:List Nat}{i b:Nat}(h:B[i]? = some b):(zBs f g B).getD i .none = .str (nmT f g b):=by
 rw [getD_eq_getElem?_getD,getElem?_map,h]
 rfl
abbrev bkP(f:Nat→Nat)(B:List Nat)(i:Nat)(x:Nat):Prop:=x∈word f∨x∈B.take i
theorem zY7{f:Nat→Nat}{B:List Nat}{i b:Nat}(h:B[i]? = some b)(hin:bkP f B i b)(j:Nat):bkP f B i j↔bkP f B (i+1) j:=by
 unfold bkP
 rw [take_add_one,h,mem_append]
 exact ⟨fun q=>q.elim .inl fun q=>.inr (.inl q),fun q=>q.elim .inl fun q=>q.elim .inr fun q=>by rw [mem_singleton.mp q];exact hin⟩
theorem zV7{f:Nat→Nat}{B:List Nat}{i b:Nat}(h:B[i]? = some b)(j:Nat):(bkP f B i j∨j=b)↔bkP f B (i+1) j:=by
 unfold bkP
 rw [take_add_one,h,mem_append]
 exact ⟨fun q=>q.elim (fun q=>q.elim .inl fun q=>.inr (.inl q)) fun q=>.inr (.inr (mem_singleton.mpr q)),fun q=>q.elim (fun q=>.inl (.inl q)) fun q=>q.elim (fun q=>.inl (.inr q)) fun q=>.inr (mem_singleton.mp q)⟩
noncomputable abbrev bdN(f:Nat→Nat)(g:zA0)(B:List Nat):List (zA0×SV):=[(.ofString "words",.d (.list (zEj (word f)))),(.ofString "back",.r 0),(.ofString "book",.d (.list (zBs f g B)))]
noncomputable abbrev bdT(f:Nat→Nat)(B:List Nat)(i:Nat):List SO:=[namO (bkP f B i) (fun k=>ltr (f k)) (7+i)]
section
variable {f:Nat→Nat}{g:zA0}{B:List Nat}{rest:List Stmt}{bs:List (List Stmt)}{c:Cx zXg 6 0}{Q:Flow→Shared→Prop}
theorem zY3(hf:∀x,x<7→f x<7)(hg:zA6 g)(hB7:∀x∈B,x<7)(hBl:B.length≤7)(done:J c Q (bdN f g B) (bdT f B B.length) (rest::bs)):J c Q (bdN f g B) (bdT f B 0) ((baBk::rest)::bs):=by
 conv=>arg 5;arg 1;arg 1;whnf
 have hgl:g.length≤5:=by rcases hg with rfl|rfl<;>decide
 have hbl:(zBs f g B).length=B.length:=length_map _
 refine J.forList (X:=Unit) (y:=zBs f g B) (fun _ _=>True) (fun _ _=>bdN f g B) (fun i _=>bdT f B i) () trivial (.loc rfl) ⟨rfl,rfl,rfl,rfl,rfl⟩ ?turn fun _ _=>J.pop (by rw [hbl];exact done)
 intro i _ hi _ c' Q₁ sb q
 rw [hbl] at hi
 have hb:=getElem?_eq_getElem hi
 generalize B[i]=b at hb
 have hb7:=hB7 b (mem_of_getElem? hb)
 obtain ⟨r,hr⟩:=zD7 hf hb7
 have hrl:=zNn hf b
 rw [hr,length_cons] at hrl
 rw [zRz hb,show nmT f g b=zA1 g (b::r) from congrArg (zA1 g) hr]
 have lab:∀(x:Nat) (l:List Nat),l.length≤14→Con 0 334 [.d (.str (zA1 g (x::l)))] [] [] (.d (.str (ltr x))) []:=fun x l hl=>by
  have:=zOe (x:=zA1 g (x::l)) (by rw [zAa,length_cons];lia) (by rw [zB8];decide)
  rw [zGu] at this
  exact this
 by_cases hin:bkP f B i b
 ·refine J.iff (EvB.cmp (Ev.call (.glob zP0) (.cons (.loc rfl) .nil) (CallS.con0 (lab b r (by (exact le_of_lt (by assumption)))) rfl rfl) (.k yAg)) (.loc rfl) (.notinN (b:=false) rfl hb7 ⟨(fun h=>nomatch h),fun h=>absurd hin h⟩)) rfl (J.pop (J.pop ?_))
  exact J.namP (Pq:=bkP f B (i+1)) (n':=7+(i+1)) (fun j _=>zY7 hb hin j) (le_succ _) (J.next q () trivial ⟨rfl,rfl,rfl,rfl,rfl⟩)
 ·have hbw:b∉word f:=fun c=>hin (.inl c)
  have hr2:r=trail f (word f) (f b):=by
   have:=zCx hf hb7 hbw
   rw [hr] at this
   exact (List.cons.inj this).2
  obtain ⟨r3,hr3⟩:=zD7 hf (hf b hb7)
  rw [hr3] at hr2
  subst hr2
  rw [length_cons] at hrl
  refine J.ift (EvB.cmp (Ev.call (.glob zP0) (.cons (.loc rfl) .nil) (CallS.con0 (lab b _ (by rw [length_cons];(exact le_of_lt (by assumption)))) rfl rfl) (.k yAg)) (.loc rfl) (.notinN (b:=true) rfl hb7 ⟨fun _=>hin,fun _=>rfl⟩)) rfl ?_
  refine J.seq (Ex.setN (nx₁:=bdT f B i) (nm:=fun k=>ltr (f k)) (Pq:=bkP f B (i+1)) (n:=7+i) (x:=b) ?val (.loc rfl) (Ev.call (.glob zP0) (.cons (.loc rfl) .nil) (CallS.con0 (lab b _ (by rw [length_cons];(exact le_of_lt (by assumption)))) rfl rfl) (.k yAg)) rfl hb7 (by lia) fun j _=>zV7 hb j) (J.pop (J.pop (J.next q () trivial ⟨rfl,rfl,rfl,rfl,rfl⟩)))
  exact Ev.call (.glob zP0) (.cons (Ev.to (v':=.d (.str (zA1 g (f b::r3)))) (Ev.sliceT (Ev.call (.glob zDm) (.cons (.loc rfl) .nil) (CallS.con0 (zCy hg (b::f b::r3) (by rw [length_cons,length_cons];(exact le_trans (by assumption) (le_of_ble_eq_true rfl)))) rfl rfl) (.k q69)) (.some .int) .none (by rw [zBh hg,Str.length_append,zAa,length_cons,show (Str.ofString ".").length=1 by decide];lia)) (by rw [zBh hg,zIv])) .nil) (CallS.con0 (lab (f b) r3 (by lia)) rfl rfl) (.k yAg)
end
theorem yAk{f:Nat→Nat}{g:zA0}{B:List Nat}(hf:∀x,x<7→f x<7)(hg:zA6 g)(hB:BookAt (zEv f g) 7 B):Con 6 339 [.d (.list (zBs f g B)),.d (.str (zA1 g (word f))),.d (.str g)] [] [] (.r 1) [namO (fun _=>True) (fun k=>ltr (f k)) 100,.tup [.r 0,.d (.list (zEj (word f)))]]:=by
 refine Con.enterN (fn:=zXg) (fun _=>rfl) [] [] ?hbody (fun _=>.nil) (fun P s a1 a2 a3 X=>BindsTo.of_eq rfl)
 intro c Q ret fin
 conv=>arg 5;arg 1;whnf
 have hgl:g.length≤5:=by rcases hg with rfl|rfl<;>decide
 have hw7:=zA3 (zA5 hf) (zA9 hf)
 have hwne:word f≠[]:=by
  obtain ⟨j,_,h⟩:=zC1 hf (k:=0) (by decide)
  intro c
  rw [c] at h
  cases h
 have hw1:=length_pos_iff.mpr hwne
 have hr1:zBz (zA1 g (word f))=zUb (zA1 g ((word f).drop 1)):=by
  have hwd:=drop_eq_getElem_cons hw1
  rw [List.drop_zero] at hwd
  have:=zBh hg (word f)[0] ((word f).drop 1)
  rw [←hwd] at this
  exact this
 have cr:=zCy hg (word f) (by (exact le_trans (by assumption) (le_of_ble_eq_true rfl)))
 rw [hr1] at cr
 have hBl:=hB.len (le_refl _)
 refine J.seq (Ex.tup4 (.cons (Ev.list (xs:=[_]) (.cons (.loc rfl) .nil)) (.cons (Ev.call (.glob zDm) (.cons (.loc rfl) .nil) (CallS.con0 cr rfl rfl) (.k q69)) (.cons (Ev.list (xs:=[]) .nil) (.cons (Ev.dict0 (Pp:=fun _=>False) (nm:=fun k=>ltr (f k)) fun _ _ h=>h) .nil))))) ?_
 refine J.less (ps':=baN f g B (zUb (zA1 g ((word f).drop 1)))) (nx':=[.lst ((zCo g (word f) 1).map .str),.lst [],namO (fun _=>False) (fun k=>ltr (f k)) 0]) ⟨rfl,rfl,rfl,rfl,rfl⟩ ?_
 refine zY5 hf hg hwne rfl fun ab=>?_
 refine zRy (o:=.gone) hf hg (zY4 hf (zV4 hf (yBd hf ?_)))
 refine J.sel [1] (ps':=bdN f g B) (nx':=[namO (fun x=>x∈(word f).take (word f).length) (fun k=>ltr (f k)) (word f).length]) ⟨rfl,rfl,rfl,rfl⟩ ?_
 refine J.namP (Pq:=bkP f B 0) (n':=7) (fun j _=>by rw [take_length];exact ⟨.inl,fun h=>h.elim id (fun h=>nomatch h)⟩) hw7 ?_
 refine zY3 hf hg (hB.lt (le_refl _)) hBl ?_
 refine J.namP (Pq:=fun _=>True) (n':=100) (fun j hj=>⟨fun _=>trivial,fun _=>.inr (by rw [take_length];exact (hB.mem j).mpr (zQx j hj))⟩) (by lia) ?_
 exact J.ret (Ev.tupleR (.cons (.loc rfl) (.cons (.loc rfl) .nil))) fun z s r O h=>ret _ _ _ _ O h
noncomputable def zFs(f:Nat→Nat)(i k:Nat):List Nat:=(List.range i).map fun t=>it f t k
theorem zGx(f:Nat→Nat)(i k:Nat):zFs f (i+1) k=zFs f i k++[it f i k]:=by unfold zFs;rw [range_succ,map_append];rfl
theorem zE1(f:Nat→Nat)(i k:Nat):(zFs f i k).length=i:=by unfold zFs;simp
noncomputable def naFor2:Stmt:=(zAf (stAt 26)).getD 2 default
noncomputable def naPush:Stmt:=(zC8 naFor2).getD 1 default
noncomputable def naPop:Stmt:=(zC8 naFor2).getD 3 default
noncomputable abbrev zEr(k:Nat):PyData:=.tuple [.str (.ofString "."),.str (ltr k)]
noncomputable abbrev nkN(f:Nat→Nat)(g:zA0):List (zA0×SV):=[(.ofString "names",.r 0),(.ofString "letters",.d (.list (zEj (word f)))),(.ofString "ways",.d (.list (zDd f))),(.ofString "ground",.d (.str g))]
noncomputable abbrev nkO(f:Nat→Nat)(g:zA0)(Pp:Nat→Prop)(n:Nat)(l:List Nat):List SO:=[namO Pp (nmT f g) n,.accO 2 (l.map zEr),.attrs [(.ofString "_initial_size",.d (.int 0))]]
section
variable {fn:Fn}{d n₀:Nat}{c:Cx fn (d+3) n₀}{ps:List (zA0×SV)}{f:Nat→Nat}{g:zA0}{Pp:Nat→Prop}{n z:Nat}{l:List Nat}
theorem zXx(hl:l.length≤1000):CallS c ps (nkO f g Pp n l) (.ref 206) [.r 1,.d (.str (.ofString ".")),.d (.str (ltr z))] [] (.d .none) (nkO f g Pp n (l++[z])):=by
 have:=CallS.con (c:=c) (ps:=ps) (nx:=nkO f g Pp n l) [1,2] (zU8 (k:=0) (x:=.ofString ".") (y:=ltr z) (l:=l.map zEr) (by rw [length_map];(exact le_trans (by assumption) (le_of_ble_eq_true rfl)))) (zAg (by lia)) rfl rfl rfl rfl
 rw [show l.map zEr++[.tuple [.str (.ofString "."),.str (ltr z)]]=(l++[z]).map zEr by rw [map_append];rfl] at this
 exact this
theorem yD6(hl:l.length≤1000):CallS c ps (nkO f g Pp n l) (.ref 259) [.r 1] [] (.d (.int l.length)) (nkO f g Pp n l):=by
 have:=CallS.con (c:=c) (ps:=ps) (nx:=nkO f g Pp n l) [1,2] (zYc (k:=0) (l:=l.map zEr) (by rw [length_map];(exact le_trans (by assumption) (le_of_ble_eq_true rfl)))) (zAg (by omega)) rfl rfl rfl rfl
 rw [length_map] at this
 exact this
end
theorem zWe{c:Cx zYs 6 0}{Q:Flow→Shared→Prop}{f:Nat→Nat}{g:zA0}{rest:List Stmt}{bs:List (List Stmt)}{Pp:Nat→Prop}{n k j0:Nat}(hf:∀x,x<7→f x<7)(hk:k<7)(hj0:j0<7)(hP0:Pp (it f j0 k))(done:∀i,i<7→Pp (it f i k)→(∀j,j<i→¬Pp (it f j k))→J c Q ((.ofString "at",.d (.int (it f i k:Nat)))::(.ofString "pile",.r 1)::nkN f g) (nkO f g Pp n (zFs f i k)) (rest::bs)):
  J c Q ((.ofString "at",.d (.int (k:Nat)))::(.ofString "pile",.r 1)::nkN f g) (nkO f g Pp n []) ((naPush::rest)::bs):=by
 conv=>arg 5;arg 1;arg 1;whnf
 refine J.while (X:=Nat) (fun i=>8-i) (fun i=>i≤j0∧∀j,j<i→¬Pp (it f j k)) (fun i=>(.ofString "at",.d (.int (it f i k:Nat)))::(.ofString "pile",.r 1)::nkN f g) (fun i=>nkO f g Pp n (zFs f i k)) 0 ⟨zero_le _,fun j h=>absurd h (not_lt_zero j)⟩ ⟨rfl,rfl,rfl,rfl,rfl⟩ fun i ⟨hi,hn⟩=>?_
 have hx:=zJc hf i hk
 by_cases hp:Pp (it f i k)
 ·exact .mk (EvB.cmp (Ev.sub .str (.loc rfl) (zD2 _ hx▸SubS.text (zEq hx) (by (exact natCast_nonneg _)) (zN4 hx))) (.loc rfl) (.notinN (b:=false) rfl hx ⟨fun h=>(nomatch h),fun h=>absurd hp h⟩)) (fun hb=>nomatch hb) fun _=>done i (by (exact lt_of_le_of_lt (by assumption) (by assumption))) hp hn
 ·have hij:i<j0:=Nat.lt_of_le_of_ne hi fun e=>hp (e▸hP0)
  refine .mk (EvB.cmp (Ev.sub .str (.loc rfl) (zD2 _ hx▸SubS.text (zEq hx) (by (exact natCast_nonneg _)) (zN4 hx))) (.loc rfl) (.notinN (b:=true) rfl hx ⟨fun _=>hp,fun _=>rfl⟩)) (fun _ Q₁ q=>?_) fun hb=>nomatch hb
  refine J.seq (Ex.expr (Ev.meth (.loc rfl) (MethS.push rfl rfl) (.cons .str (.cons (Ev.sub .str (.loc rfl) (zD2 _ hx▸SubS.text (zEq hx) (by (exact natCast_nonneg _)) (zN4 hx))) .nil)) (zXx (by rw [zE1];lia)) (.k yAf))) ?_
  refine J.seq (Ex.assign (Ev.sub (.loc rfl) (.loc rfl) (SubS.itemD (by simp) (zCk hx)))) (J.pop ?_)
  rw [←zFm f i k,←zGx]
  exact J.next q (i+1) ⟨⟨hij,fun j hj=>by
   rcases lt_or_eq_of_le (le_of_lt_succ hj) with h|rfl
   ·exact hn j h
   ·exact hp⟩,by lia⟩ ⟨rfl,rfl,rfl,rfl,rfl⟩
theorem yB9{fn:Fn}{d n₀:Nat}{c:Cx fn (d+3) n₀}{ps:List (zA0×SV)}{f:Nat→Nat}{g:zA0}{Pp:Nat→Prop}{n z:Nat}{l:List Nat}(hl:l.length≤1000):CallS c ps (nkO f g Pp n (l++[z])) (.ref 222) [.r 1] [] (.d (zEr z)) (nkO f g Pp n l):=by
 have:=CallS.con (c:=c) (ps:=ps) (nx:=nkO f g Pp n (l++[z])) [1,2] (zU6 (k:=0) (l:=l.map zEr) (y:=zEr z) (by rw [length_map];omega)) (zAg (by lia)) rfl (by show [SO.accO 2 _,_]=[SO.accO 2 _,_];rw [map_append];rfl) rfl rfl
 exact this
theorem yA4{c:Cx zYs 6 0}{Q:Flow→Shared→Prop}{f:Nat→Nat}{g:zA0}{rest:List Stmt}{bs:List (List Stmt)}{Pp:Nat→Prop}{n k i:Nat}(hf:∀x,x<7→f x<7)(hk:k<7)(hi:i<8)(hc:n≤500)(hg:g.length≤100)(hn:∀j,j<i→¬Pp (it f j k))(hwP:∀x∈word f,Pp x)(done:J c Q ((.ofString "pile",.r 1)::nkN f g) (nkO f g (fun j=>Pp j∨∃t,t<i∧j=it f t k) (n+i) []) (rest::bs)):
  J c Q ((.ofString "name",.d (.str (nmT f g (it f i k))))::(.ofString "pile",.r 1)::nkN f g) (nkO f g Pp n (zFs f i k)) ((naPop::rest)::bs):=by
 conv=>arg 5;arg 1;arg 1;whnf
 refine J.namP (Pq:=fun j=>Pp j∨∃t,i≤t∧t<i∧j=it f t k) (n':=n+(i-i)) (fun j _=>⟨.inl,fun h=>h.elim id fun ⟨t,a,b,_⟩=>absurd b (Nat.not_lt.mpr a)⟩) (Nat.le_add_right _ _) ?_
 refine J.while (X:=Nat) (fun r=>r) (fun r=>r≤i) (fun r=>(.ofString "name",.d (.str (nmT f g (it f r k))))::(.ofString "pile",.r 1)::nkN f g) (fun r=>nkO f g (fun j=>Pp j∨∃t,r≤t∧t<i∧j=it f t k) (n+(i-r)) (zFs f r k)) i (le_refl _) ⟨rfl,rfl,rfl,rfl,rfl⟩ fun r hr=>?_
 induction r with
 |zero=>
  refine .mk (EvB.cmp (Ev.meth (.loc rfl) (MethS.pc rfl rfl) .nil (yD6 (by rw [zE1];decide)) (.k zXk)) .int .gtI) (fun hb=>nomatch hb) fun _=>?_
  exact J.less ⟨rfl,rfl,rfl,rfl,rfl⟩ (J.namP (fun j _=>or_congr_right ⟨fun ⟨t,_,b⟩=>⟨t,b⟩,fun ⟨t,b⟩=>⟨t,zero_le _,b⟩⟩) (le_refl _) done)
 |succ r=>
  have hx:=zJc hf r hk
  have hl:=zWh hf hg (it f (r+1) k)
  have hnm:blS (la (it f r k)) (nmT f g (it f (r+1) k))=nmT f g (it f r k):=by
   have e:=zCx hf hx fun h=>hn r hr (hwP _ h)
   rw [zU2,zFm]
   show _=zA1 g (trail f (word f) (it f r k))
   rw [e]
   rfl
  rw [zGx]
  have hpl:(zFs f r k++[it f r k]).length=r+1:=by rw [length_append,zE1];rfl
  refine .mk (EvB.cmp (Ev.meth (.loc rfl) (MethS.pc rfl rfl) .nil (yD6 (by lia)) (.k zXk)) .int .gtI) (fun _ Q₁ q=>?_) fun hb=>absurd (of_decide_eq_false hb) (by rw [hpl];lia)
  refine J.seq (Ex.assign (Ev.sub (Ev.meth (.loc rfl) (MethS.popA rfl rfl) .nil (yB9 (by rw [zE1];lia)) (.k yCp)) .int (SubS.tup (j:=1) rfl (le_of_ble_eq_true rfl)))) ?_
  refine J.seq (Ex.assign (Ev.call (.glob yDe) (.cons (Ev.listD (xs:=[_,_]) (.cons (Ev.lang hx (.loc rfl) (.loc rfl)) (.cons (.loc rfl) .nil))) .nil) (CallS.con0 (yBg (by (exact le_trans (by assumption) (le_of_ble_eq_true rfl))) zUk) rfl rfl) (.k yDh))) ?_
  rw [hnm]
  refine J.seq (Ex.setN (Pq:=fun j=>Pp j∨∃t,r≤t∧t<i∧j=it f t k) (.loc rfl) (.loc rfl) (.loc rfl) rfl hx (by lia) fun j _=>?_) (J.pop ?_)
  ·constructor
   ·rintro ((h|⟨t,a,b,e⟩)|e)
    ·exact .inl h
    ·exact .inr ⟨t,Nat.le_of_succ_le a,b,e⟩
    ·exact .inr ⟨r,le_refl _,hr,e⟩
   ·rintro (h|⟨t,a,b,e⟩)
    ·exact .inl (.inl h)
    ·rcases lt_or_eq_of_le a with h|rfl
     ·exact .inl (.inr ⟨t,h,b,e⟩)
     ·exact .inr e
  ·have en:n+(i-(r+1))+1=n+(i-r):=by lia
   rw [en]
   exact J.next q r ⟨Nat.le_of_succ_le hr,lt_succ_self r⟩ ⟨rfl,rfl,rfl,rfl,rfl⟩
theorem yA5{c:Cx zYs 6 0}{Q:Flow→Shared→Prop}{f:Nat→Nat}{g y:zA0}{rest:List Stmt}{bs:List (List Stmt)}(hf:∀x,x<7→f x<7)(hg:g.length≤100)(done:J c Q (nkN f g) [namO (fun _=>True) (nmT f g) 100] (rest::bs)):J c Q (naN f g y) [namO (fun k=>k∈word f) (nmT f g) (word f).length] ((naFor2::rest)::bs):=by
 conv=>arg 5;arg 1;arg 1;whnf
 have hwl:(word f).length≤7:=zA3 (zA5 hf) (zA9 hf)
 refine J.forRange (X:=(Nat→Prop)×Nat) 7 (fun k w=>(∀x∈word f,w.1 x)∧(∀j,j<k→w.1 j)∧w.2≤7+8*k) (fun _ _=>nkN f g) (fun _ w=>[namO w.1 (nmT f g) w.2]) (fun k=>k∈word f,(word f).length) ⟨fun _ h=>h,fun j h=>absurd h (not_lt_zero j),hwl⟩ (Ev.call (.built zAr zAq (by decide)) (.cons .int .nil) .range1 .t) rfl zAp zAw ⟨rfl,rfl,rfl,rfl,rfl⟩ ?turn
  fun w ⟨h1,h2,h3⟩=>J.pop (J.namP (fun j hj=>⟨fun _=>trivial,fun _=>h2 j hj⟩) (by (exact le_trans (by assumption) (le_of_ble_eq_true rfl))) done)
 rintro k ⟨P,n⟩ hk ⟨hwP,hkP,hn⟩ c' Q₁ sb q
 dsimp only at hwP hkP hn ⊢
 rw [show (0:Int)+(k:Nat)*1=(k:Nat) by lia]
 obtain ⟨j0,hj0,hw⟩:=zC1 hf hk
 refine J.seq (Ex.swap (.cons (Ev.call (.glob zOy) .nil (CallS.con [] zU4 rfl rfl rfl rfl rfl) (.k yCq)) (.cons (.loc rfl) .nil)) rfl rfl rfl) ?_
 refine J.less (ps':=(.ofString "at",.d (.int (k:Nat)))::(.ofString "pile",.r 1)::nkN f g) (nx':=nkO f g P n []) ⟨rfl,rfl,rfl,rfl,rfl⟩ ?_
 refine zWe hf hk hj0 (hwP _ hw) fun i hi hp hnp=>?_
 have hx:=zJc hf i hk
 refine J.seq (Ex.assign (Ev.sub (.loc rfl) (Ev.sub .str (.loc rfl) (zD2 _ hx▸SubS.text (zEq hx) (by (exact natCast_nonneg _)) (zN4 hx))) (SubS.nam rfl hx hp))) ?_
 refine J.less (ps':=(.ofString "name",.d (.str (nmT f g (it f i k))))::(.ofString "pile",.r 1)::nkN f g) (nx':=nkO f g P n (zFs f i k)) ⟨rfl,rfl,rfl,rfl,rfl⟩ ?_
 refine yA4 hf hk (by (exact le_succ_of_le (by assumption))) (by lia) hg hnp hwP (J.pop ?_)
 refine J.next q (fun j=>P j∨∃t,t<i∧j=it f t k,n+i) ⟨fun x h=>.inl (hwP x h),fun j hj=>?_,by show n+i≤_;lia⟩ ⟨rfl,rfl,rfl,rfl,rfl⟩
 rcases lt_or_eq_of_le (le_of_lt_succ hj) with h|rfl
 ·exact .inl (hkP j h)
 ·induction i with
  |zero=>exact .inl hp
  |succ i=>exact .inr ⟨0,Nat.succ_pos _,rfl⟩
theorem zWz{f:Nat→Nat}{g:zA0}(hf:∀x,x<7→f x<7)(hg:g.length≤100):Con 6 313 [.d (.list (zEj (word f))),.d (.list (zDd f)),.d (.str g)] [] [] (.r 0) [namO (fun _=>True) (nmT f g) 100]:=by
 refine Con.enterN (fn:=zYs) (fun _=>rfl) [] [] ?hbody (fun _=>.nil) (fun P s a1 a2 a3 X=>BindsTo.of_eq rfl)
 intro c Q ret fin
 conv=>arg 5;arg 1;whnf
 refine J.seq (Ex.swap (.cons (.loc rfl) (.cons (Ev.dict0 (Pp:=fun k=>k∈(word f).drop (word f).length) (nm:=nmT f g) fun k _ h=>by rw [List.drop_length] at h;cases h) .nil)) rfl rfl rfl) ?_
 refine J.less (ps':=naN f g g) (nx':=[namO (fun k=>k∈(word f).drop (word f).length) (nmT f g) 0]) ⟨rfl,rfl,rfl,rfl,rfl⟩ ?_
 refine yA3 hf hg (yA5 hf hg ?_)
 exact J.ret (.loc rfl) fun z s r O h=>ret _ _ _ _ O h
noncomputable def zBb(l:List Seg)(i:Nat):List (Str×Nat):=(List.range i).map fun j=>(txt [(l.getD j ([],0)).2],(zBo (l.take (j+1))).count 44)
theorem zG5{l:List Seg}{i:Nat}{p:Seg}(h:l[i]? = some p):zBb l (i+1)=zBb l i++[(txt [p.2],(zBo (l.take (i+1))).count 44)]:=by
 unfold zBb
 rw [range_succ,map_append,map_cons,map_nil,getD_eq_getElem?_getD,h]
 rfl
theorem zNm(l:List Seg)(i:Nat):(zBb l i).length=i:=by unfold zBb;simp
theorem zTe{l:List Seg}{tl:List Nat}{i:Nat}{p:Seg}(h:l[i]? = some p):Txt.slice (txt (zAc l tl i)) (some ((zBo (l.take (i+1))).length:Nat)) (some ((zBo (l.take (i+1))).length+1:Nat))=txt [p.2]:=by
 have e:=zBy (tl:=tl) h
 rw [zQw (le_succ _) (by show _≤(zAc l tl i).length;rw [e,length_append,length_cons];lia)]
 show txt (((zAc l tl i).drop _).take _)=_
 rw [e,List.drop_left,show (zBo (l.take (i+1))).length.succ-(zBo (l.take (i+1))).length=1 by lia]
 rfl
theorem zQs{l:List Seg}{tl:List Nat}{i:Nat}{p:Seg}(h:l[i]? = some p):Txt.slice (txt (zAc l tl i)) none (some ((zBo (l.take (i+1))).length:Nat))=txt (zBo (l.take (i+1))):=by
 have e:=zBy (tl:=tl) h
 rw [zIa (by show _≤(zAc l tl i).length;rw [e,length_append];lia)]
 show txt ((zAc l tl i).take _)=_
 rw [e,List.take_left]
theorem zQt(x:List Nat):Txt.count (txt x) (.ofString ",")=((x.count 44:Nat):Int):=zOm (txt x) 44
theorem zTd{l:List Seg}{tl:List Nat}{i:Nat}{p:Seg}(h:l[i]? = some p):Txt.slice (txt (zAc l tl i)) none (some ((zBo (l.take (i+1))).length:Nat))++Txt.slice (txt (zAc l tl i)) (some ((zBo (l.take (i+1))).length+1:Nat)) none=txt (zAc l tl (i+1)):=by
 have e:=zBy (tl:=tl) h
 have hl:(zBo (l.take (i+1))).length+1≤(cl (txt (zAc l tl i))).length:=by show _≤(zAc l tl i).length;rw [e,length_append,length_cons];lia
 rw [zC2 hl,zIa (Nat.le_of_succ_le hl)]
 apply zAm
 rw [zB7,←zFr h]
noncomputable abbrev zCg(es:List (Str×Nat)):List PyData:=es.map fun p=>.tuple [.str p.1,.int (p.2:Nat)]
noncomputable abbrev yB2(l:List Seg)(i:Nat):Nat:=(zBo (l.take (i+1))).length
noncomputable abbrev pgS(l:List Seg)(tl:List Nat)(i:Nat):Str:=txt (zAc l tl i)
noncomputable def yBw(l:List Seg)(i:Nat):SV:=if i<l.length then .r 2 else .d .none
noncomputable def yBv(l:List Seg)(tl:List Nat)(i:Nat):List SO:=if i<l.length then [zEw (yB2 l i),.mat (pgS l tl i) 1] else []
noncomputable def yDd:Fn:=⟨.ofString "_law_read",zAl (stAt 25),306,.ref 305,fun _=>[],rfl⟩
theorem q45(P:Params):keepIn (kW P) (.ref 45)=true:=by kernel_rfl
section
variable {fn:Fn}{d n₀:Nat}{c:Cx fn d n₀}{ps:List (zA0×SV)}{nx:List SO}{l:List Seg}{tl:List Nat}{i:Nat}
theorem CallS.count{x y:zA0}:CallS c ps nx (.builtin "str.count") [.d (.str x),.d (.str y)] [] (.d (.int (Txt.count x y))) nx:=fun z s xs O hx Q q=>by
 obtain ⟨_,_,rfl,r,r'⟩:=hx.c2
 obtain ⟨t,rfl⟩:=DRep.str_ r
 obtain ⟨t',rfl⟩:=DRep.str_ r'
 exact SC.count (q z _ _ (.refl _) (O.toks _) .int)
theorem zXy(hS:SegsOk l tl)(hi:i<l.length)(hl:(zAc l tl i).length≤10000):CallS c ps nx (.builtin "re.Pattern.search") [.v (.ref 50),.d (.str (pgS l tl i))] [] (.r (nx.length+1)) (nx++[zEw (yB2 l i)]++[.mat (pgS l tl i) nx.length]):=by
 obtain ⟨a,b,e,g⟩:=hS.hit (getElem?_eq_getElem hi)
 exact CallS.tok (le_trans hl (by decide)) a b e g
theorem zTz(hS:SegsOk l tl)(hl:(zAc l tl l.length).length≤10000):CallS c ps nx (.builtin "re.Pattern.search") [.v (.ref 50),.d (.str (pgS l tl l.length))] [] (.d .none) nx:=
 CallS.tokN (le_trans hl (by decide)) hS.none
end
noncomputable abbrev rdN(l:List Seg)(tl:List Nat)(i:Nat):List (zA0×SV):=[(.ofString "told",.r 0),(.ofString "found",yBw l i),(.ofString "page",.d (.str (pgS l tl i)))]
noncomputable abbrev rdT(l:List Seg)(tl:List Nat)(i:Nat):List SO:=.lst (zCg (zBb l i))::yBv l tl i
theorem zHq{l:List Seg}{tl:List Nat}{i:Nat}(h:i<l.length):yBw l i = .r 2∧yBv l tl i=[zEw (yB2 l i),.mat (pgS l tl i) 1]:=⟨if_pos h,if_pos h⟩
theorem zHp{l:List Seg}{tl:List Nat}{i:Nat}(h:¬i<l.length):yBw l i = .d .none∧yBv l tl i=[]:=⟨if_neg h,if_neg h⟩
noncomputable def rdWhile:Stmt:=(zAf (stAt 25)).getD 1 default
theorem zLy{c:Cx yDd 2 0}{Q:Flow→Shared→Prop}{rest:List Stmt}{bs:List (List Stmt)}{l:List Seg}{tl:List Nat}(hS:SegsOk l tl)(hl:(catS l tl).length≤10000)(done:J c Q [(.ofString "told",.r 0),(.ofString "page",.d (.str (pgS l tl l.length)))] [.lst (zCg (zBb l l.length))] (rest::bs)):J c Q (rdN l tl 0) (rdT l tl 0) ((rdWhile::rest)::bs):=by
 conv=>arg 5;arg 1;arg 1;whnf
 have hp:∀i,i≤l.length→(zAc l tl i).length≤10000:=fun i hi=>by have:=zD5 (l:=l) (tl:=tl) i hi;lia
 have ep:∀{i},i<l.length→rdN l tl i=[(.ofString "told",.r 0),(.ofString "found",.r 2),(.ofString "page",.d (.str (pgS l tl i)))]∧rdT l tl i=[.lst (zCg (zBb l i)),zEw (yB2 l i),.mat (pgS l tl i) 1]:=fun {i} h=>by
  unfold rdN rdT
  rw [(zHq (tl:=tl) h).1,(zHq (tl:=tl) h).2]
  exact ⟨rfl,rfl⟩
 have en:rdN l tl l.length=[(.ofString "told",.r 0),(.ofString "found",.d .none),(.ofString "page",.d (.str (pgS l tl l.length)))]∧rdT l tl l.length=[.lst (zCg (zBb l l.length))]:=by
  unfold rdN rdT
  rw [(zHp (tl:=tl) (lt_irrefl _)).1,(zHp (tl:=tl) (lt_irrefl _)).2]
  exact ⟨rfl,rfl⟩
 refine J.while (X:=Nat) (fun i=>l.length-i) (fun i=>i≤l.length) (fun i=>rdN l tl i) (fun i=>rdT l tl i) 0 (zero_le _) ?less fun i hi=>?_
 case less=>
  rcases lt_or_eq_of_le (zero_le l.length) with h|h
  ·rw [(ep h).1,(ep h).2];exact ⟨rfl,rfl,rfl,rfl,rfl⟩
  ·rw [←h] at en;rw [en.1,en.2];exact ⟨rfl,rfl,rfl,rfl,rfl⟩
 rcases lt_or_eq_of_le hi with h|rfl
 ·rw [(ep h).1,(ep h).2]
  have hx:=getElem?_eq_getElem h
  have hpl:(pgS l tl i).length≤100000:=le_trans (hp i hi) (by decide)
  have hll:l.length≤10000:=by have:=zD5 (l:=l) (tl:=tl) l.length (le_refl _);lia
  refine .mk (EvB.cmp (.loc rfl) .non .isnX) (fun hb Q₁ q=>?_) fun hb=>nomatch hb
  refine J.seq (Ex.tup2 (Ev.meth (.loc rfl) (MethS.span rfl rfl) (.cons .int .nil) (CallS.span rfl rfl) .b)) ?_
  refine J.seq (Ex.expr (Ev.meth (.loc rfl) (.append rfl) (.cons (Ev.tuple (xs:=[_,_]) (.cons (Ev.sliceT (.loc rfl) (.some (.loc rfl)) (.some (.loc rfl)) hpl) (.cons (Ev.meth (Ev.sliceT (.loc rfl) .none (.some (.loc rfl)) hpl) (MethS.str PySem.F.slot_str_count PySem.F.type_str_count) (.cons .str .nil) .count .b) .nil))) .nil) (CallS.append rfl (by rw [length_map,zNm];lia)) .b)) ?_
  rw [zTe hx,zQs hx,zQt,show zCg (zBb l i)++[.tuple [.str (txt [l[i].2]),.int ((zBo (l.take (i+1))).count 44:Nat)]]=zCg (zBb l (i+1)) by rw [zG5 hx,zCg,zCg,map_append];rfl]
  refine J.seq (Ex.assign (Ev.call (.glob zKd) (.cons (.loc rfl) .nil) (CallS.con [1,2] (yDm hpl) rfl rfl rfl rfl rfl) (.k q45))) ?_
  rw [zTd hx]
  rcases lt_or_eq_of_le (Nat.succ_le_of_lt h) with h1|h1
  ·refine J.seq (Ex.assign (Ev.meth (.glob zSj) .tok (.cons (.loc rfl) .nil) (zXy hS h1 (hp _ (le_of_lt h1))) .b)) (J.pop ?_)
   refine J.sel [0,3,4] (ps':=rdN l tl (i+1)) (nx':=rdT l tl (i+1)) (by rw [(ep h1).1,(ep h1).2];exact ⟨rfl,rfl,rfl,rfl⟩) ?_
   exact J.next q (i+1) ⟨h,by omega⟩ (by rw [(ep h1).1,(ep h1).2];exact ⟨rfl,rfl,rfl,rfl,rfl⟩)
  ·have h2:i+1=l.length:=h1
   rw [h2]
   refine J.seq (Ex.assign (Ev.meth (.glob zSj) .tok (.cons (.loc rfl) .nil) (zTz hS (hp _ (le_refl _))) .b)) (J.pop ?_)
   exact J.next q l.length ⟨le_refl _,by lia⟩ (by rw [en.1,en.2];exact ⟨rfl,rfl,rfl,rfl,rfl⟩)
 ·rw [en.1,en.2]
  exact .mk (EvB.cmp (.loc rfl) .non .isnN) (fun hb=>nomatch hb) fun _=>J.less ⟨rfl,rfl,rfl,rfl,rfl⟩ done
theorem yAp{l:List Seg}{tl:List Nat}(hS:SegsOk l tl)(hl:(catS l tl).length≤10000):Con 2 306 [.d (.str (pgS l tl 0))] [] [] (.d (.tuple [.list (zCg (zBb l l.length)),.str (txt (zBo l++tl))])) []:=by
 refine Con.enterN (fn:=yDd) (fun _=>rfl) [] [] ?hbody (fun _=>.nil) (fun P s a1 X=>BindsTo.of_eq rfl)
 intro c Q ret fin
 conv=>arg 5;arg 1;whnf
 have hp:∀i,i≤l.length→(zAc l tl i).length≤10000:=fun i hi=>by have:=zD5 (l:=l) (tl:=tl) i hi;omega
 have key:J c Q [(.ofString "told",.r 0),(.ofString "page",.d (.str (pgS l tl l.length)))] [.lst (zCg (zBb l l.length))] [(zAf (stAt 25)).drop 2]:=by
  conv=>arg 5;arg 1;whnf
  refine J.freeze (nx:=[]) ?_
  rw [show pgS l tl l.length=txt (zBo l++tl) by rw [pgS,zGw]]
  exact J.ret (Ev.tuple (xs:=[_,_]) (.cons (.loc rfl) (.cons (.loc rfl) .nil))) fun z s r O h=>ret _ _ _ _ O h
 by_cases h0:0<l.length
 ·refine J.seq (Ex.swap (.cons (Ev.list (xs:=[]) .nil) (.cons (Ev.meth (.glob zSj) .tok (.cons (.loc rfl) .nil) (zXy hS h0 (hp 0 (zero_le _))) .b) .nil)) rfl rfl rfl) ?_
  refine J.less (ps':=rdN l tl 0) (nx':=rdT l tl 0) (by unfold rdN rdT;rw [(zHq (tl:=tl) h0).1,(zHq (tl:=tl) h0).2];exact ⟨rfl,rfl,rfl,rfl,rfl⟩) (zLy hS hl key)
 ·have e0:l.length=0:=Nat.eq_zero_of_not_pos h0
  have hm:=fun ps nx=>zTz (c:=c) (ps:=ps) (nx:=nx) hS (hp _ (le_refl _))
  rw [e0] at hm
  refine J.seq (Ex.swap (.cons (Ev.list (xs:=[]) .nil) (.cons (Ev.meth (.glob zSj) .tok (.cons (.loc rfl) .nil) (hm _ _) .b) .nil)) rfl rfl rfl) ?_
  refine J.less (ps':=rdN l tl 0) (nx':=rdT l tl 0) (by unfold rdN rdT;rw [(zHp (tl:=tl) h0).1,(zHp (tl:=tl) h0).2];exact ⟨rfl,rfl,rfl,rfl,rfl⟩) (zLy hS hl key)
noncomputable abbrev lwSc:Scope:=zAl (stAt 31)
noncomputable abbrev zSv(L:Addr):List (zA0×Addr):=[(.ofString "words",(@HAdd.hAdd Nat Nat Nat _ L 9)),(.ofString "back",(@HAdd.hAdd Nat Nat Nat _ L 8)),(.ofString "texts",(@HAdd.hAdd Nat Nat Nat _ L 7)),(.ofString "word",(@HAdd.hAdd Nat Nat Nat _ L 6)),(.ofString "names",(@HAdd.hAdd Nat Nat Nat _ L 5)),(.ofString "due",(@HAdd.hAdd Nat Nat Nat _ L 4)),(.ofString "ground",(@HAdd.hAdd Nat Nat Nat _ L 3)),(.ofString "ways",(@HAdd.hAdd Nat Nat Nat _ L 2)),(.ofString "cells",(@HAdd.hAdd Nat Nat Nat _ L 1))]
noncomputable def zMu(fa:Addr)(cd:Value):Fn:=⟨.ofString "law",lwSc,fa,cd,zSv,rfl⟩
noncomputable def zW5(x:zA0):List (zA0×Addr)→Option Nat
 |[]=>none
 |p::r=>bif x==p.1 then some 0 else (zW5 x r).map (· + 1)
theorem zPb{x:zA0}:∀{l:List (zA0×Addr)} {k:Nat},zW5 x l=some k→∃a,l.lookup x=some a∧(l.map (·.2))[k]? = some a
 |[],_,h=>nomatch h
 |(y,a)::r,k,h=>by
  rw [lookup_cons]
  unfold zW5 at h
  dsimp only at h
  cases q:x==y with
  |true=>rw [q] at h;cases h;exact ⟨a,rfl,rfl⟩
  |false=>
   rw [q] at h
   obtain ⟨j,e,rfl⟩:=Option.map_eq_some_iff.mp h
   obtain ⟨b,h1,h2⟩:=zPb e
   exact ⟨b,h1,h2⟩
def LawC{fn:Fn}{d n₀:Nat}(c:Cx fn d n₀):Prop:=c.as₀.take 9=(zSv c.L).map (·.2)∧9≤n₀
section
variable {fn:Fn}{d n₀ n₁:Nat}{c:Cx fn d n₀}{E:Env}{ps cs:List (zA0×SV)}{nx nx':List SO}{z:Wd}{s:Shared}{x:zA0}{k:Nat}{v:SV}{px:Pos}{C:Addr}
theorem LawC.sub{c':Cx fn d n₀}(h:LawC c)(k:Sub c' c):LawC c':=⟨by rw [k.as,k.L];exact h.1,h.2⟩
theorem LawC.comp{c':Cx fn d n₁}(h:LawC c)(k:CompAt c c' C cs)(hn:autoParam (ble n₀ n₁=true) T0R):LawC c':=⟨by
 rw [k.L,←h.1,←k.A,take_take,min_eq_left h.2],le_trans h.2 (le_of_ble_eq_true hn)⟩
theorem LawC.at(hC:LawC c)(O:On c ps nx z s)(hk:zW5 x (zSv c.L)=some k):∃a,(zSv c.L).lookup x=some a∧z.as[k]? = some a:=by
 obtain ⟨a,h1,h2⟩:=zPb hk
 rw [←hC.1,←O.as0.1,take_take,min_eq_left hC.2] at h2
 exact ⟨a,h1,by rw [←h2];exact (getElem?_take_of_lt (lt_of_not_le fun h9=>by rw [List.getElem?_take_eq_none h9] at h2;cases h2)).symm⟩
inductive CelO:SO→Prop
 |un:CelO (.is fun _ _ o=>∃v,o.data = .cell v)
 |set (v:SV):CelO (.cell v)
noncomputable abbrev celO:SO:=.is fun _ _ o=>∃v,o.data = .cell v
theorem CelO.data{P:Params}{so:SO}{a:Addr}{o:Obj}(h:CelO so)(r:ORep P z so a o):∃v,o.data = .cell v:=by
 induction h with
 |un=>exact r
 |set v=>obtain ⟨val,e,_⟩:=r;exact ⟨_,e⟩
def StoreS(c:Cx fn d n₀)(x:zA0)(v:SV)(ps:List (zA0×SV))(nx:List SO)(ps':List (zA0×SV))(nx':List SO):Prop:=
 ∀z s a,On c ps nx z s→SRep z v a→∀Q:Unit→Shared→Prop,(∀s',On c ps' nx' z s'→Q () s')→wpAny c.M c.A (storeName c.env x a) Q noE s
theorem StoreS.loc(hx:autoParam (fn.scope.names.lookup x=some .local) T0R):StoreS c x v ps nx ((x,v)::ps) nx:=fun z s a O r Q q=>zB5 O r q hx
end
section
variable {fa:Addr}{cd:Value}{d n₀ n₁:Nat}{c:Cx (zMu fa cd) d n₀}{E:Env}{ps ps' ps₁ cs:List (zA0×SV)}{nx nx' nx₁ nx₂:List SO}{z:Wd}{s:Shared}{x y:zA0}{k:Nat}{v v₁ v₂:SV}{px py pos tp:Pos}{C:Addr}{e:Expr}
theorem StoreS.cel(hC:LawC c)(hk:autoParam (zW5 x (zSv c.L)=some k) T0R)(hv:CelO (nth nx k):=by constructor)(hx:autoParam (lwSc.names.lookup x=some .cell) T0R):StoreS c x v ps nx ps (upd nx k (.cell v)):=fun z s a O r Q q=>by
 obtain ⟨ad,hl,ha⟩:=hC.at O hk
 refine O.obj ha fun m o news g F N U ro _ _ G=>?_
 obtain ⟨v₀,hd⟩:=hv.data ro
 exact storeX_C F N hl U hd (fun h' o' F' N' hd'=>q _ (G (.cell v) o' h' s.toks ⟨a,hd',r⟩ F' N')) (zMu fa cd).hk hx
theorem Ev.cel(hC:LawC c)(hk:autoParam (zW5 x (zSv c.L)=some k) T0R)(hv:autoParam (nth nx k = .cell v) T0R)(hx:autoParam (lwSc.names.lookup x=some .cell) T0R)(hd:autoParam ((x==("__debug__" : Str))=false) T0R):Ev c c.env ps nx (.Name x px) v nx:=fun z s O Q q=>by
 obtain ⟨ad,hl,ha⟩:=hC.at O hk
 refine O.obj ha fun m o news g F N U ro _ _ G=>?_
 rw [hv] at ro
 obtain ⟨val,e,r⟩:=ro
 exact nameX_C N hl (zA2 U) e (q _ _ _ (.refl _) O r) (zMu fa cd).hk hx hd
theorem Ev.ccel{sc:Scope}{cl:List (zA0×Addr)}{L:Addr}(hC:LawC c)(hL:c.L=L)(hcl:autoParam (cl.lookup x=(zSv L).lookup x) T0R)(hk:autoParam (zW5 x (zSv c.L)=some k) T0R)(hv:autoParam (nth nx k = .cell v) T0R)(hx:autoParam ((compEnvC sc cl C E).kindOf x=some .cell) T0R)(hks:autoParam (sc.kind = .function) T0R)(hd:autoParam ((x==("__debug__" : Str))=false) T0R):Ev c (compEnvC sc cl C E) ps nx (.Name x px) v nx:=fun z s O Q q=>by
 obtain ⟨ad,hl,ha⟩:=hC.at O hk
 refine O.obj ha fun m o news g F N U ro _ _ G=>?_
 rw [hv] at ro
 obtain ⟨val,e,r⟩:=ro
 exact lcf_cell N (hcl.trans (hL▸hl)) (zA2 U) e (q _ _ _ (.refl _) O r) hks hx hd
end
section
variable {fn:Fn}{d n₀:Nat}{c:Cx fn d n₀}{ps ps' ps₁:List (zA0×SV)}{nx nx' nx₁ nx₂:List SO}{x y:zA0}{k kk:Nat}{v v₁ v₂:SV}{px py pos tp vp:Pos}{e e1 e2:Expr}
theorem Ex.asg(h:Ev c c.env ps nx e v nx₁)(st:StoreS c x v ps nx₁ ps' nx')(hs:autoParam (swapsWith e (some (.Name x px)) pos.line c.env=pure false) T0R):Ex c ps nx (.Assign [.Name x px] e pos) ps' nx':=
 fun z s O Q q=>wpAny_Assign_Name (h z s O _ fun z₁ s₁ a l₁ O₁ r=>st z₁ s₁ a O₁ r _ fun s₂ O₂=>q z₁ s₂ O₂) hs
theorem Ex.asg2{a b:PyData}(h:Ev c c.env ps nx e (.d (.tuple [a,b])) nx₁)(st1:StoreS c x (.d a) ps nx₁ ps₁ nx₂)(st2:StoreS c y (.d b) ps₁ nx₂ ps' nx')(hs:autoParam (swapsWithSole [.Tuple [.Name x px,.Name y py] kk tp] e pos.line c.env=pure false) T0R)(hw:autoParam (swappedStores [.Tuple [.Name x px,.Name y py] kk tp] e c.env=pure none) T0R):
  Ex c ps nx (.Assign [.Tuple [.Name x px,.Name y py] kk tp] e pos) ps' nx':=fun z s O Q q=>by
 refine Assign_Tuple (h z s O _ fun z₁ s₁ v l₁ O₁ r=>?_) hs hw
 obtain ⟨t,vs,rfl,hz,hr⟩:=DRep.tuple_ r
 obtain ⟨v1,_,rfl,r1,hr⟩:=hr.cons_
 obtain ⟨v2,_,rfl,r2,hr⟩:=hr.cons_
 cases hr
 refine O₁.same fun m news F N hZ g=>?_
 refine unpackN_ F N ⟨_,(N _ (hZ _ hz)).1,rfl,_,rfl⟩ rfl rfl rfl fun h' F' N'=>?_
 refine assignInOrder_cons (PyProof.Rows.assign_Name (st1 _ _ _ (g h' s₁.toks F' N') r1 _ fun s₂ O₂=>?_))
 exact assignInOrder_cons (PyProof.Rows.assign_Name (st2 _ _ _ O₂ r2 _ fun s₃ O₃=>assignInOrder_nil (q z₁ s₃ O₃)))
theorem Ex.asg2H(h:Ev c c.env ps nx e (.r k) nx₁)(hk:nth nx₁ k = .tup [v₁,v₂])(st1:StoreS c x v₁ ps nx₁ ps₁ nx₂)(st2:StoreS c y v₂ ps₁ nx₂ ps' nx')(hs:autoParam (swapsWithSole [.Tuple [.Name x px,.Name y py] kk tp] e pos.line c.env=pure false) T0R)(hw:autoParam (swappedStores [.Tuple [.Name x px,.Name y py] kk tp] e c.env=pure none) T0R):
  Ex c ps nx (.Assign [.Tuple [.Name x px,.Name y py] kk tp] e pos) ps' nx':=fun z s O Q q=>by
 refine Assign_Tuple (h z s O _ fun z₁ s₁ v l₁ O₁ r=>?_) hs hw
 obtain ⟨a,ha,rfl⟩:=r
 refine O₁.obj ha fun m ob news g F N U ro _ _ _=>?_
 rw [hk] at ro
 obtain ⟨vs,rfl,hr⟩:=ro
 obtain ⟨a1,_,rfl,r1,hr⟩:=hr.cons_
 obtain ⟨a2,_,rfl,r2,hr⟩:=hr.cons_
 cases hr.nil_
 have hin:=(N _ (zA2 U)).1
 refine O₁.same fun m news F N hZ g=>?_
 refine unpackN_ F N ⟨_,hin,rfl,_,rfl⟩ rfl rfl rfl fun h' F' N'=>?_
 refine assignInOrder_cons (PyProof.Rows.assign_Name (st1 _ _ _ (g h' s₁.toks F' N') r1 _ fun s₂ O₂=>?_))
 exact assignInOrder_cons (PyProof.Rows.assign_Name (st2 _ _ _ O₂ r2 _ fun s₃ O₃=>assignInOrder_nil (q z₁ s₃ O₃)))
end
noncomputable abbrev O9(w b t wd n du g wy c:SO)(r:List SO):List SO:=w::b::t::wd::n::du::g::wy::c::zG1 224 zDf::zG1 231 zDh::r
noncomputable abbrev cD(x:PyData):SO:=.cell (.d x)
noncomputable abbrev cR(k:Nat):SO:=.cell (.r k)
noncomputable abbrev zUn(L:Addr):List Addr:=(zSv L).map (·.2)
abbrev cTabs(nx:List SO):Prop:=nth nx 9=zG1 224 zDf∧nth nx 10=zG1 231 zDh
def yD4:Prop:=∀(fa:Addr) (cd:Value) (c:Cx (zMu fa cd) 40 11) (Q:Flow→Shared→Prop) (sl:Addr) (vs:List Value) (ns:List Int),LawC c→c.h₀.IsList sl vs.toArray→IntsAre vs ns→ns.length≤63→
 (∀ps nx z s x,cTabs nx→On c ps nx z s→SRep z (.d (.bool true)) x→Q (.ret x) s)→J c Q [(.ofString "script",.v (.ref sl))] (O9 celO celO celO celO celO celO celO celO celO []) [zAf (stAt 31)]
theorem zMi{P:Params}{z:Wd}{cm:zA0→Option Value}{cs:List (zA0×Addr)}{cells:List (Addr×Obj)}(h:CellsAre cm cs cells):∃os,cells=(cs.map (·.2)).zip os∧OReps P z (cs.map fun _=>celO) (cs.map (·.2)) os:=by
 induction h with
 |nil=>exact ⟨[],rfl,.nil⟩
 |cons hd _ ih=>
  obtain ⟨os,rfl,r⟩:=ih
  exact ⟨_::os,rfl,.cons ⟨_,hd⟩ r⟩
theorem zSx{L:Addr}(h1:@LT.lt Nat _ 224 L)(h2:@LT.lt Nat _ 231 L):(zUn L++[224,231]).Nodup:=by
 have e:zUn L=[9,8,7,6,5,4,3,2,1].map fun i:Nat=>(@HAdd.hAdd Nat Nat Nat _ L i):=rfl
 rw [e]
 refine nodup_append.mpr ⟨?_,by decide,fun a ha b hb q=>?_⟩
 ·unfold List.Nodup
  rw [pairwise_map]
  exact (show List.Pairwise (fun a b:Nat=>a≠b) [9,8,7,6,5,4,3,2,1] by decide).imp fun h e=>h (Nat.add_left_cancel e)
 ·obtain ⟨i,_,rfl⟩:=mem_map.mp ha
  have hb':@LT.lt Nat _ b L:=by
   rcases mem_cons.mp hb with rfl|hb
   ·exact h1
   ·rw [mem_singleton.mp hb];exact h2
  rw [←q] at hb'
  exact Nat.not_lt.mpr (Nat.le_add_right L i) hb'
theorem zSs{M:Model}{A:Around}{cd:Code}{s s₁:Shared}{cw:ClaimW}{cl:Str→Option Addr}{mean:ExcName→Option Value}{args:List WData}{tabs:List (Addr×Addr)}(hT:TabsAt tabs s₁.heap)(hr:∀a x,cw.raises a x=false)(hp:cw.post args (.bool true) args=true)(h:codeAny M A cd (fun r s'=>r = .ok (.ret (.bool true))∧(∀b o,(ghostOf s₁.heap tabs).get? b=some o→s'.heap.get? b=some o)∧s'.os=s₁.os∧AllBare s'.gens∧GrownAll tabs s'.heap) s):codeAny M A cd (GoodWG cw cl mean args s₁) s:=
 codeAny_mono h fun r s' ⟨hc,hk,hos,hg,hgr⟩=>by
  have grown:∀b o,b∈tabs.map (·.2)→s₁.heap.get? b=some o→isCodeTable s₁.heap b∧o=tabObj #[]∧∃ps,s'.heap.get? b=some (tabObj ps):=fun b o hb e=>by
   obtain ⟨q,hq,rfl⟩:=mem_map.mp hb
   have e2:=(hT q hq).2
   rw [e] at e2
   exact ⟨((hT q hq).1.tab (hT q hq).2).isCodeTable,Option.some.inj e2,hgr.get q hq⟩
  refine ⟨.inl ⟨.bool true,.bool true,[],hc,fun x=>hr _ x,.bool _,hp,fun _=>⟨.nil,fun a ha=>absurd ha List.not_mem_nil⟩⟩,⟨fun b o e=>?_,fun b o e=>?_⟩,hos,hg⟩
  ·by_cases hb:b∈tabs.map (·.2)
   ·obtain ⟨ht,rfl,ps,hP⟩:=grown b o hb e
    exact .inr (.inl ⟨ht,rfl,#[],ps,rfl,by rw [Array.empty_append];exact hP⟩)
   ·exact .inl (hk b o (ghost_ne e hb))
  ·by_cases hb:b∈tabs.map (·.2)
   ·obtain ⟨_,_,ps,hP⟩:=grown b o hb e
    exact ⟨_,hP⟩
   ·exact ⟨o,hk b o (ghost_ne e hb)⟩
theorem zSr(body:yD4):PySem.Challenge.rw_xr0024_01.Holds:=by
 refine head ?_
 intro w s₀ s₁ mg mb G Y fa o pm cd doc dV kV ho hd hcd hD hmg hg args vals as hpre hlay hrd hwl hlo
 have KX:(kW w.params).In s₁.heap:=Y.1
 have TB:=Y.2
 refine Ground.open G ?_
 intro T B D TE TW
 have hT9:TabsAt [(228,224),(235,231)] s₁.heap:=List.forall_mem_cons.mpr ⟨⟨codeHd_of_K KX (by kernel_rfl),TB.1⟩,List.forall_mem_cons.mpr ⟨⟨codeHd_of_K KX (by kernel_rfl),TB.2⟩,fun _ h=>nomatch h⟩⟩
 wrow_args hpre hlay hrd hwl hlo
 rename List Int=>ns
 rename Heap.IsList _ _ _=>hL
 rename IntsAre _ _=>hI
 rename ¬(_:Int)<_=>hlen
 refine enter_call ?_
 refine zSs hT9 (fun _ _=>rfl) (postW_of (by wrow_shape) (by wtm_val) (by w_fin)) ?_
 have he:=Dflts.none hD rfl
 subst he
 have he:=Dflts.noKw hD
 subst he
 refine call_cellsN (by decide) ho (fd_plain hd) (Top.nolimit T) hcd rfl (kinds_of (by kinds_ok)) (by decide) fun h₁ tk₁ cells F N0 X0=>?_
 have F1:=ghost_fr hT9 F
 have N1:=ghost_news hT9 F N0
 have l0:=ghost_lt hT9 F
 have l1:=l0 (224,tabObj #[]) (.head _)
 have l2:=l0 (231,tabObj #[]) (.tail _ (.head _))
 obtain ⟨os,rfl,R⟩:=zMi (P:=w.params) (z:=⟨zUn s₁.heap.objs.size++[224,231],[]⟩) X0
 let c:Cx (zMu fa cd) 40 11:={w:=w,p:=topProg,loose:=_,mean:=ExcName.means s₀.heap,mg:=mg,mb:=mb,dp:=302,un:=7,L:=s₁.heap.objs.size,outer:=[],A₀:=callerA,base:=ghostOf s₁.heap [(228,224),(235,231)],h₀:=ghostOf s₁.heap [(228,224),(235,231)],s₀:=s₁,as₀:=zUn s₁.heap.objs.size++[224,231],Z₀:=[],R:=[],B:=ghost_below hT9,X:=ghost_K hT9 KX (by kernel_rfl),T:=ghost_top hT9 T,hdp:=by decide,hun:=by decide,hn:=rfl}
 let Q:Flow→Shared→Prop:=fun fl s'=>fl = .ret (.bool true)∧(∀b o,(ghostOf s₁.heap [(228,224),(235,231)]).get? b=some o→s'.heap.get? b=some o)∧s'.os=s₁.os∧AllBare s'.gens∧GrownAll [(228,224),(235,231)] s'.heap
 have key:=body fa cd c Q _ _ ns ⟨rfl,by decide⟩ (ghost_list hT9 hL) hI (by lia) (fun ps nx z s x hx O r=>?_) ⟨_,[]⟩ {s₁ with heap:=h₁,toks:=tk₁} (.mk (objs:=os++[tabObj #[],tabObj #[]]) F1 (fun y sv e=>?_) ?_ ?_ ⟨zSx l1 l2,(fun _ _ _ h=>nomatch h),(fun _ _ _ h=>nomatch h),(fun _ h=>nomatch h)⟩ (by rw [hg];exact AllBare.empty) rfl (fun _ h=>nomatch h))
 ·exact wpAny_mono key (fun f s h=>by
   have h':Q f s:=by induction f<;>exact h
   exact ⟨by rw [h'.1],h'.2⟩) fun _ _ h=>h.elim
 ·cases DRep.bool_ r
  induction O with
  |@mk hh tk gs m as objs Z F K N O D G a0 Z0=>
   have at9:∀(k:Nat) (a:Addr) {p:Pos},(zUn s₁.heap.objs.size++[224,231])[k]? = some a→nth nx k=zG1 a p→∃t,hh.get? a=some (tabObj t):=fun k a p e h=>by
    have e':=e
    rw [show zUn s₁.heap.objs.size++[224,231]=List.take 11 _ from a0.symm] at e
    have hk:k<11:=(List.getElem?_eq_some_iff.mp e').1
    rw [getElem?_take_of_lt hk] at e
    obtain ⟨o,_,ro,hm⟩:=O.at e
    rw [h] at ro
    obtain ⟨_,t,rfl,_⟩:=ro
    exact ⟨t,(N _ (mem_append_left _ hm)).1⟩
   exact ⟨rfl,F.keep,rfl,G,⟨at9 9 224 rfl hx.1,at9 10 231 rfl hx.2,trivial⟩⟩
 ·rw [lookup_cons] at e
  cases q:y==Str.ofString "script" with
  |false=>rw [q] at e;cases e
  |true=>
   rw [q] at e
   cases e
   exact ⟨_,by rw [beq_iff_eq.mp q];rfl,rfl⟩
 ·have e:(zUn s₁.heap.objs.size++[224,231]).zip (os++[tabObj #[],tabObj #[]])=(zUn s₁.heap.objs.size).zip os++[(224,tabObj #[]),(231,tabObj #[])]:=List.zip_append (by rw [R.len.2];rfl)
  rw [e,append_nil]
  exact fun p hp=>N1 p ((mem_append.mp hp).elim id fun h=>nomatch h)
 ·exact R.append (.cons ⟨rfl,#[],rfl,.inl rfl⟩ (.cons ⟨rfl,#[],rfl,.inl rfl⟩ .nil))
noncomputable def lwSt(i:Nat):Stmt:=(zAf (stAt 31)).getD i default
theorem DRepL.set{Z:List (Addr×Obj)}{y:PyData}{v:Value}(r:DRep Z y v){l:List PyData}{vs:List Value}(h:DRepL Z l vs)(j:Nat):DRepL Z (l.set j y) (vs.set j v):=by
 induction l generalizing vs j with
 |nil=>rw [h.nil_];exact .nil
 |cons a l ih=>
  obtain ⟨w,us,rfl,p,q⟩:=h.cons_
  induction j with
  |zero=>exact .cons r q
  |succ j=>exact .cons p (ih q j)
theorem zQu{v:Value}{l:List Value}{k:Nat}(h:k<l.length):ki_setL l k v=some (l.set k v):=by
 induction l generalizing k with
 |nil=>exact absurd h (not_lt_zero _)
 |cons x r ih=>
  induction k with
  |zero=>rfl
  |succ k=>rw [ki_setL,ih (Nat.lt_of_succ_lt_succ h)];rfl
section
variable {fn:Fn}{d n₀:Nat}{c:Cx fn d n₀}{E:Env}{ps:List (zA0×SV)}{nx nx₁ nx₂:List SO}{z:Wd}{s:Shared}{o i value:Expr}{pos tpos:Pos}{k j:Nat}{l:List PyData}{y:PyData}{v:Value}{t:Tok}
theorem zJt(O:On c ps nx z s){a:Addr}(ha:z.as[k]? = some a)(hk:nth nx k = .lst l)(hj:j<l.length)(hl:l.length≤100000)(r:SRep z (.d y) v){Q:Unit→Shared→Prop}(h:∀s',On c ps (upd nx k (.lst (l.set j y))) z s'→Q () s'):wpAny c.M c.A (setItem (.ref a) (.int (j:Nat) t) v) Q noE s:=by
 refine O.obj ha fun m ob news g F N U ro _ _ G=>?_
 rw [hk] at ro
 obtain ⟨vs,n,rfl,rv⟩:=ro
 have hjv:j<vs.length:=rv.len▸hj
 exact ki_set F N (natCast_nonneg j) (Int.lt_of_le_of_lt (ofNat_le.mpr (le_trans (le_of_lt hj) hl)) (by decide)) (by rw [toNat_natCast];exact zQu hjv) (zE9 U _) fun h' F' N'=>h _ (G _ _ h' s.toks ⟨_,_,rfl,DRepL.set r rv j⟩ F' N')
theorem Ex.setL(hv:Ev c c.env ps nx value (.d y) nx₁)(ho:Ev c c.env ps nx₁ o (.r k) nx₁)(hi:Ev c c.env ps nx₁ i (.d (.int (j:Nat))) nx₁)(hk:nth nx₁ k = .lst l)(hj:j<l.length)(hl:l.length≤100000)(hs:autoParam (swapsWith value (some (.Subscript o i tpos)) pos.line c.env=pure false) T0R):
  Ex c ps nx (.Assign [.Subscript o i tpos] value pos) ps (upd nx₁ k (.lst (l.set j y))):=fun z s O Q q=>by
 refine wpAny_Assign_Subscript (hv z s O _ fun z₁ s₁ v₁ l₁ O₁ r₁=>ho z₁ s₁ O₁ _ fun z₂ s₂ v₂ l₂ O₂ r₂=>hi z₂ s₂ O₂ _ fun z₃ s₃ v₃ l₃ O₃ r₃=>?_) hs
 obtain ⟨a,ha,rfl⟩:=r₂.mono l₃
 obtain ⟨u,rfl⟩:=DRep.int_ r₃
 exact zJt O₃ ha hk hj hl (r₁.mono (l₂.trans l₃)) fun s' O'=>q z₃ s' O'
theorem Ex.augI{a b:Int}(ho:Ev c c.env ps nx o (.r k) nx)(hi:Ev c c.env ps nx i (.d (.int (j:Nat))) nx)(hk:nth nx k = .lst l)(hj:l[j]? = some (.int a))(hl:l.length≤100000)(hv:Ev c c.env ps nx value (.d (.int b)) nx)(ha:∀ov iv new,augStore i ov iv new=(do holding [new,ov,iv] (setItem ov iv new);release [new,ov,iv] [];pure .next):=by intros;rfl):Ex c ps nx (.AugAssign (.Subscript o i tpos) .Add value pos) ps (upd nx k (.lst (l.set j (.int (a+b))))):=fun z s O Q q=>by
 refine wpAny_AugAssign_SubscriptAny (ho z s O _ fun z₁ s₁ a₁ l₁ O₁ r₁=>hi z₁ s₁ O₁ _ fun z₂ s₂ a₂ l₂ O₂ r₂=>?_) ha
 have hjl:=(List.getElem?_eq_some_iff.mp hj).1
 obtain ⟨ad,ha,rfl⟩:=r₁.mono l₂
 obtain ⟨t₂,rfl⟩:=DRep.int_ r₂
 refine O₂.obj ha fun m ob news g F N U ro _ _ G=>?_
 rw [hk] at ro
 obtain ⟨vs,n,rfl,rv⟩:=ro
 obtain ⟨x,hx,rx⟩:=rv.at hj
 obtain ⟨tx,rfl⟩:=DRep.int_ rx
 refine wpAny_getItem_list ⟨_,(N _ (zA2 U)).1,rfl,n,rfl⟩ (natCast_nonneg j) (Int.lt_of_le_of_lt (ofNat_le.mpr (le_trans (le_of_lt hjl) hl)) (by decide)) (by rw [toNat_natCast];simpa using hx) (hv z₂ s₂ O₂ _ fun z₃ s₃ a₃ l₃ O₃ r₃=>?_)
 obtain ⟨tt,rfl⟩:=DRep.int_ r₃
 refine PyProof.Rows.iadd_int ?_
 obtain ⟨a',ha',e⟩:=SRep.mono l₃ (sv:=.r k) ⟨ad,ha,rfl⟩
 cases e
 exact zJt (O₃.toks _) ha' hk hjl hl .int fun s' O'=>q z₃ s' O'
theorem BinS.powI{i j:Int}(h:0≤j)(hj:j≤1000000)(hi:i.natAbs<2 ^ 64):BinS c ps nx .Pow (.d (.int i)) (.d (.int j)) (.d (.int (i ^ j.toNat))) nx:=fun z s a b O h1 h2 Q k=>by
 obtain ⟨t,rfl⟩:=DRep.int_ h1
 obtain ⟨u,rfl⟩:=DRep.int_ h2
 exact PyProof.Rows.pow_int_small h hj hi (k z _ _ (.refl _) (O.toks _) .int)
theorem CallS.lenV{sl:Addr}{vs:List Value}(hsl:c.h₀.IsList sl vs.toArray)(hn:vs.length≤100000):CallS c ps nx (.builtin "len") [.v (.ref sl)] [] (.d (.int (vs.length:Nat))) nx:=fun z s xs O hx Q q=>by
 obtain ⟨_,us,rfl,r,h2⟩:=hx.cons_
 rw [h2.nil_]
 subst r
 refine O.growZ fun m news F N _ _=>?_
 exact PyProof.Rows.len_list (stays_list F.keep hsl) (by rw [size_toArray];omega) (by rw [size_toArray];exact q z _ _ (.refl _) (O.toks _) .int)
theorem SubS.itemV{slice:Expr}{sl:Addr}{vs:List Value}{ns:List Int}(hsl:c.h₀.IsList sl vs.toArray)(hI:IntsAre vs ns)(hk:k<ns.length)(hn:ns.length≤1000)(hs:autoParam (∀a u,subscripted slice false (.ref a) (.int (k:Nat) u)=operate [.ref a,.int (k:Nat) u] (getItem (.ref a) (.int (k:Nat) u))) zKr):SubS c ps nx value slice (.v (.ref sl)) (.d (.int (k:Nat))) (.d (.int (ns.getD k 0))):=fun z s a₁ a₂ O h1 h2 Q q=>by
 subst h1
 obtain ⟨t,rfl⟩:=DRep.int_ h2
 refine O.growZ fun m news F N _ _=>?_
 refine zAv (x:=.ofString "x") (px:=default) ?_
 exact item_list_ints (stays_list F.keep hsl) hI (natCast_nonneg k) (ofNat_lt.mpr hk) (by omega) (fun t=>by rw [toNat_natCast];exact q _ _ O .int) (hs _ _) (fun _=>rfl)
theorem On.celO{v:SV}(O:On c ps nx z s)(hk:nth nx k = .cell v)(h:z.as[k]? = some a):On c ps (upd nx k celO) z s:=by
 cases O with
 |mk F K N O D G a0 Z0=>
  obtain ⟨o,e,r,_⟩:=O.at h
  rw [hk] at r
  obtain ⟨val,hd,_⟩:=r
  have hu:=O.upd (so:=celO) (o:=o) h ⟨_,hd⟩
  obtain ⟨hl,e⟩:=List.getElem?_eq_some_iff.mp e
  subst e
  rw [List.set_getElem_self] at hu
  exact .mk F K N hu D G a0 Z0
theorem J.celO{v:SV}{Q:Flow→Shared→Prop}{bs:List (List Stmt)}(hk:nth nx k = .cell v)(q:J c Q ps (upd nx k celO) bs)(hl:autoParam (blt k nx.length=true) T0R):J c Q ps nx bs:=fun z s O=>by
 have hz:=O.lenA
 exact q z s (O.celO hk (getElem?_eq_getElem (hz▸blt_eq.mp hl)))
end
theorem yDw{a:Int}(i:Nat)(hi:i<7):(7:Int) ^ i≠0∧Builtin.divisionGoesByPylong a (7 ^ i)=false:=by
 have h:∀i,i<7→((7:Int) ^ i≠0∧((7:Int) ^ i).natAbs<1073741824):=by decide
 exact ⟨(h i hi).1,PyProof.noPylong_small (h i hi).2⟩
theorem zJ1(a:Int){b:Nat}(hb:0<b):∃j:Nat,Int.fmod a b=(j:Int)∧j<b:=
 have h1:=Int.fmod_nonneg_of_pos a (ofNat_lt.mpr hb)
 have h2:=Int.fmod_lt_of_pos a (ofNat_lt.mpr hb)
 ⟨(Int.fmod a b).toNat,(Int.toNat_of_nonneg h1).symm,ofNat_lt.mp (by rw [Int.toNat_of_nonneg h1];exact h2)⟩
noncomputable abbrev zRk(sl:Addr):List (zA0×SV):=[(.ofString "script",.v (.ref sl))]
noncomputable abbrev U9(a b:Int):List SO:=O9 celO celO celO celO celO celO celO celO (cR 11) [.lst [.int a,.int b]]
section
variable {fa:Addr}{cd:Value}{c:Cx (zMu fa cd) 40 11}{Q:Flow→Shared→Prop}{rest:List Stmt}{bs:List (List Stmt)}{sl:Addr}{vs:List Value}{ns:List Int}{a b:Int}{f:Nat→Nat}{g e sg:zA0}{kh:Nat}
theorem yC4(hC:LawC c)(k:J c Q (zRk sl) (U9 670244 2) (rest::bs)):J c Q (zRk sl) (O9 celO celO celO celO celO celO celO celO celO []) ((lwSt 0::rest)::bs):=by
 conv=>arg 5;arg 1;arg 1;whnf
 exact J.seq (Ex.asg (Ev.list (xs:=[_,_]) (.cons .int (.cons .int .nil))) (StoreS.cel hC (k:=8))) k
theorem yC5(hC:LawC c)(hsl:c.h₀.IsList sl vs.toArray)(hI:IntsAre vs ns)(hn:ns.length≤63)(k:∀a b,J c Q (zRk sl) (U9 a b) (rest::bs)):J c Q (zRk sl) (U9 a b) ((lwSt 1::rest)::bs):=by
 conv=>arg 5;arg 1;arg 1;whnf
 have hl:=hI.length
 refine J.forRange (X:=Int×Int) vs.length (fun _ _=>True) (fun _ _=>zRk sl) (fun _ p=>U9 p.1 p.2) (a,b) trivial (Ev.call (.built zAr zAq (by decide)) (.cons (Ev.call (.built zD9 zD8 (by decide)) (.cons (.loc rfl) .nil) (CallS.lenV hsl (by lia)) .b) .nil) .range1 .t) rfl (zCj _ (by lia)) (zDs _) ⟨rfl,rfl,rfl,rfl,rfl⟩ ?turn fun p _=>J.pop (k p.1 p.2)
 rintro j ⟨a,b⟩ hj _ c' Q₁ sb q
 rw [show (0:Int)+(j:Nat)*1=(j:Nat) by lia]
 have hC':=hC.sub sb
 have hsl':=sb.H.symm▸hsl
 obtain ⟨m,hm,hm2⟩:=zJ1 (j:Nat) (b:=2) (by decide)
 have em:SV.d (.int (Int.fmod (j:Nat) 2)) = .d (.int (m:Nat)):=by rw [←hm];rfl
 rcases (show m=0∨m=1 by lia) with rfl|rfl
 ·exact J.seq (Ex.augI (.cel hC') (Ev.to (Ev.bin (.loc rfl) .int (BinS.modI (by decide))) em) rfl (a:=a) rfl (le_of_ble_eq_true rfl) (Ev.sub (.loc rfl) (.loc rfl) (SubS.itemV hsl' hI (by omega) (by (exact le_trans (by assumption) (le_of_ble_eq_true rfl)))))) (J.pop (J.next q (a+ns.getD j 0,b) trivial ⟨rfl,rfl,rfl,rfl,rfl⟩))
 ·exact J.seq (Ex.augI (.cel hC') (Ev.to (Ev.bin (.loc rfl) .int (BinS.modI (by decide))) em) rfl (a:=b) rfl (le_of_ble_eq_true rfl) (Ev.sub (.loc rfl) (.loc rfl) (SubS.itemV hsl' hI (by omega) (by (exact le_trans (by assumption) (le_of_ble_eq_true rfl)))))) (J.pop (J.next q (a,b+ns.getD j 0) trivial ⟨rfl,rfl,rfl,rfl,rfl⟩))
noncomputable def waysF(a:Int)(i:Nat):Nat:=(Int.fmod (Int.fdiv a (7 ^ i)) 7).toNat
theorem zM4(a:Int)(i:Nat):((waysF a i:Nat):Int)=Int.fmod (Int.fdiv a (7 ^ i)) 7:=Int.toNat_of_nonneg (Int.fmod_nonneg_of_pos _ (by decide))
theorem zTq(a:Int)(i:Nat):waysF a i<7:=ofNat_lt.mp (by rw [zM4];exact Int.fmod_lt_of_pos _ (by decide))
theorem yC6(hC:LawC c)(k:∀f,(∀x,x<7→f x<7)→J c Q (zRk sl) (O9 celO celO celO celO celO celO celO (cD (.list (zDd f))) (cR 11) [.lst [.int a,.int b]]) (rest::bs)):J c Q (zRk sl) (U9 a b) ((lwSt 2::rest)::bs):=by
 conv=>arg 5;arg 1;arg 1;whnf
 refine J.seq (Ex.asg (Ev.comp (out:=zDd (waysF a)) (fun i=>some (.int (waysF a i:Nat))) (zBr fun _ _=>rfl) (by decide) (Ev.call (.built zAr zAq (by decide)) (.cons .int .nil) .range1 .t) (SrcS.range rfl zAp zAw) ?turn rfl) (StoreS.cel hC (k:=7))) (J.less ⟨rfl,rfl,rfl,rfl,rfl⟩ (k _ fun x _=>zTq a x))
 intro i hi c' C h
 rw [show (0:Int)+(i:Nat)*1=(i:Nat) by lia] at h
 have p:=yDw (a:=a) i hi
 refine .one (Ev.to (Ev.bin (Ev.bin (Ev.sub (.ccel (hC.comp h) h.L) .int (SubS.item (j:=0) rfl (le_of_ble_eq_true rfl) rfl)) (Ev.bin .int (Ev.cloc h rfl) (BinS.powI (natCast_nonneg i) (by lia) (by decide))) (BinS.fdI (by rw [toNat_natCast];exact p.1) (by rw [toNat_natCast];exact p.2))) .int (BinS.modI (by decide))) ?_) ⟨rfl,rfl,rfl,rfl⟩
 rw [zM4,toNat_natCast]
end
def EndOk(e:zA0):Prop:=e = .ofString "\n"∨e = .ofString "\r\n"
theorem yAa{j:Nat}(h:j<2):∃g,[PyData.str (.ofString "local"),.str (.ofString "x.com")][j]? = some (.str g)∧zA6 g:=by
 rcases (show j=0∨j=1 by lia) with rfl|rfl
 ·exact ⟨_,rfl,.inl rfl⟩
 ·exact ⟨_,rfl,.inr rfl⟩
theorem yA9{j:Nat}(h:j<2):∃g,[PyData.str (.ofString "\n"),.str (.ofString "\r\n")][j]? = some (.str g)∧EndOk g:=by
 rcases (show j=0∨j=1 by omega) with rfl|rfl
 ·exact ⟨_,rfl,.inl rfl⟩
 ·exact ⟨_,rfl,.inr rfl⟩
theorem zWq{j:Nat}(h:j<3):∃g,[PyData.str (.ofString ","),.str (.ofString ";,"),.str (.ofString " ,")][j]? = some (.str g)∧zRo g:=by
 rcases (show j=0∨j=1∨j=2 by lia) with rfl|rfl|rfl
 ·exact ⟨_,rfl,.inr (.inl rfl)⟩
 ·exact ⟨_,rfl,.inr (.inr rfl)⟩
 ·exact ⟨_,rfl,.inl rfl⟩
theorem zD0{Z:List (Addr×Obj)}{ns:List Int}{vs:List Value}(h:DRepL Z (pints ns) vs):IntsAre vs ns:=by
 induction ns generalizing vs with
 |nil=>rw [h.nil_];exact .nil
 |cons a ns ih=>
  obtain ⟨v,us,rfl,p,q⟩:=h.cons_
  obtain ⟨t,rfl⟩:=DRep.int_ p
  exact .cons _ _ (ih q)
theorem zKv{r:List Nat}{x:Nat}:(natI r).any (· == (x:Int))=decide (x∈r):=by
 rw [natI,List.any_map]
 simp only [Function.comp_def]
 by_cases h:x∈r
 ·rw [decide_eq_true h]
  exact List.any_eq_true.mpr ⟨x,h,beq_self_eq_true _⟩
 ·rw [decide_eq_false h]
  exact List.any_eq_false.mpr fun y hy e=>h (Int.ofNat.inj (eq_of_beq e)▸hy)
theorem zXf(nx:List SO)(k:Nat):upd nx k (nth nx k)=nx:=by
 induction nx generalizing k with
 |nil=>rfl
 |cons a r ih=>
  induction k with
  |zero=>rfl
  |succ k=>exact congrArg (a :: ·) (ih k)
section
variable {fn:Fn}{d n₀:Nat}{c:Cx fn d n₀}{ps:List (zA0×SV)}{nx:List SO}{k:Nat}
theorem zJb{r:List Nat}{x:Nat}{v:SV}(hk:LstS nx v (pints (natI r))){z:Wd}{s:Shared}{a₁ a₂:Value}(O:On c ps nx z s)(h1:SRep z (.d (.int (x:Nat))) a₁)(h2:SRep z v a₂):∃t A vs,a₁ = .int (x:Nat) t∧a₂ = .ref A∧s.heap.IsList A vs.toArray∧IntsAre vs (natI r):=by
 obtain ⟨t,rfl⟩:=DRep.int_ h1
 refine O.growZD fun m news F N hZ ho _=>?_
 obtain ⟨A,vs,n,rfl,hm,rv⟩:=hk.at (c:=c) h2 hZ ho
 exact ⟨t,A,vs,rfl,rfl,⟨_,(N _ hm).1,rfl,n,rfl⟩,zD0 rv⟩
theorem CmpS.inI{r:List Nat}{x:Nat}{v:SV}(hk:LstS nx v (pints (natI r))):CmpS c ps nx .In (.d (.int (x:Nat))) v (decide (x∈r)):=fun z s a₁ a₂ O h1 h2 Q q=>by
 obtain ⟨t,A,vs,rfl,rfl,hl,hi⟩:=zJb hk O h1 h2
 exact in_list_ints hl hi (by rw [zKv];exact q _ O)
theorem CmpS.notinI{r:List Nat}{x:Nat}{v:SV}(hk:LstS nx v (pints (natI r))):CmpS c ps nx .NotIn (.d (.int (x:Nat))) v (!decide (x∈r)):=fun z s a₁ a₂ O h1 h2 Q q=>by
 obtain ⟨t,A,vs,rfl,rfl,hl,hi⟩:=zJb hk O h1 h2
 exact notin_list_ints hl hi (by rw [zKv];exact q _ O)
theorem CallS.max{ns:List Int}{M:Int}(hk:nth nx k = .lst (pints ns))(hM:M∈ns)(hle:∀a∈ns,a≤M):CallS c ps nx (.builtin "max") [.r k] [] (.d (.int M)) nx:=fun z s xs O hx Q q=>by
 obtain ⟨_,us,rfl,⟨a,ha,rfl⟩,h2⟩:=hx.cons_
 rw [h2.nil_]
 refine O.obj ha fun m ob news g F N U ro _ _ G=>?_
 rw [hk] at ro
 obtain ⟨vs,n,rfl,rv⟩:=ro
 refine kso_max F N ⟨_,(N _ (zA2 U)).1,rfl,n,rfl⟩ (zD0 rv) (List.length_pos_of_mem hM) rfl fun h' M' t tk F' N' hM' hle'=>?_
 rw [Int.le_antisymm (hle M' hM') (hle' M hM)]
 have O':=G (.lst (pints ns)) _ h' tk ⟨vs,n,rfl,rv⟩ F' ((zG7 U).symm▸N')
 rw [show upd nx k (.lst (pints ns))=nx by rw [←hk];exact zXf nx k] at O'
 exact q z _ _ (.refl _) O' .int
end
theorem yBz(P:Params):nsIn (kW P) mainGlobals (.ofString "max")=some none:=by kernel_rfl
theorem yBb:bootBuiltins (.ofString "max")=some (.builtin "max"):=by kernel_rfl
noncomputable def zBj(f:Nat→Nat)(k:Nat):List (List Nat):=((List.range k).filter (zBn f)).map (orb f)
theorem zKm{f:Nat→Nat}{k:Nat}(h:zBn f k=true):zBj f (k+1)=zBj f k++[orb f k]:=by
 unfold zBj
 rw [range_succ,List.filter_append,map_append]
 simp [h]
theorem zN9{f:Nat→Nat}{k:Nat}(h:zBn f k=false):zBj f (k+1)=zBj f k:=by
 unfold zBj
 rw [range_succ,List.filter_append,map_append]
 simp [h]
theorem zFv(f:Nat→Nat)(k:Nat):(zBj f k).length≤k:=by
 unfold zBj
 rw [length_map]
 exact le_trans (List.length_filter_le _ _) (by rw [length_range];exact le_refl _)
noncomputable abbrev zE3(R:List (List Nat)):List PyData:=R.map fun r=>.list (pints (natI r))
noncomputable abbrev setN(e sg:zA0)(kh:Nat):List (zA0×SV):=[(.ofString "end",.d (.str e)),(.ofString "signs",.d (.str sg)),(.ofString "head",.d (.int kh))]
noncomputable abbrev S9(f:Nat→Nat)(g:zA0)(r:List SO):List SO:=O9 celO celO celO celO celO celO (cD (.str g)) (cD (.list (zDd f))) celO r
section
variable {fa:Addr}{cd:Value}{c:Cx (zMu fa cd) 40 11}{Q:Flow→Shared→Prop}{rest:List Stmt}{bs:List (List Stmt)}{sl:Addr}{a b:Int}{f:Nat→Nat}{g e sg:zA0}{kh k:Nat}
theorem yC7(hC:LawC c)(k:∀g (kh:Nat),zA6 g→kh≤2→J c Q ((.ofString "head",.d (.int kh))::zRk sl) (O9 celO celO celO celO celO celO (cD (.str g)) (cD (.list (zDd f))) (cR 11) [.lst [.int a,.int b]]) (rest::bs)):
  J c Q (zRk sl) (O9 celO celO celO celO celO celO celO (cD (.list (zDd f))) (cR 11) [.lst [.int a,.int b]]) ((lwSt 3::rest)::bs):=by
 conv=>arg 5;arg 1;arg 1;whnf
 obtain ⟨j,hj,hj2⟩:=zJ1 b (b:=2) (by decide)
 obtain ⟨i,hi,hi3⟩:=zJ1 (Int.fdiv b 2) (b:=3) (by decide)
 obtain ⟨g,hg,hG⟩:=yAa hj2
 refine J.seq (Ex.asg2 (a:=.str g) (b:=.int (i:Nat)) (Ev.tuple (xs:=[.str g,.int (i:Nat)]) (.cons (Ev.sub (Ev.listD (xs:=[_,_]) (.cons .str (.cons .str .nil))) (Ev.to (Ev.bin (Ev.sub (.cel hC) .int (SubS.item (j:=1) rfl (le_of_ble_eq_true rfl) rfl)) .int (BinS.modI (by decide))) (congrArg (fun x=>SV.d (.int x)) hj)) (SubS.itemD (le_of_ble_eq_true rfl) hg))
  (.cons (Ev.to (Ev.bin (Ev.bin (Ev.sub (.cel hC) .int (SubS.item (j:=1) rfl (le_of_ble_eq_true rfl) rfl)) .int (BinS.fdI (by decide) (PyProof.noPylong_small (by decide)))) .int (BinS.modI (by decide))) (congrArg (fun x=>SV.d (.int x)) hi)) .nil))) (StoreS.cel hC (k:=6)) .loc) (k g i hG (by omega))
theorem yC8(hC:LawC c)(k:∀e sg,EndOk e→zRo sg→J c Q (setN e sg kh) (S9 f g []) (rest::bs)):
  J c Q ((.ofString "head",.d (.int kh))::zRk sl) (O9 celO celO celO celO celO celO (cD (.str g)) (cD (.list (zDd f))) (cR 11) [.lst [.int a,.int b]]) ((lwSt 4::rest)::bs):=by
 conv=>arg 5;arg 1;arg 1;whnf
 obtain ⟨j,hj,hj2⟩:=zJ1 (Int.fdiv b 6) (b:=2) (by decide)
 obtain ⟨i,hi,hi3⟩:=zJ1 (Int.fdiv b 12) (b:=3) (by decide)
 obtain ⟨e,he,hE⟩:=yA9 hj2
 obtain ⟨sg,hs,hS⟩:=zWq hi3
 refine J.seq (Ex.swap (.cons (Ev.sub (Ev.listD (xs:=[_,_]) (.cons .str (.cons .str .nil))) (Ev.to (Ev.bin (Ev.bin (Ev.sub (.cel hC) .int (SubS.item (j:=1) rfl (le_of_ble_eq_true rfl) rfl)) .int (BinS.fdI (by decide) (PyProof.noPylong_small (by decide)))) .int (BinS.modI (by decide))) (congrArg (fun x=>SV.d (.int x)) hj)) (SubS.itemD (le_of_ble_eq_true rfl) he))
  (.cons (Ev.sub (Ev.listD (xs:=[_,_,_]) (.cons .str (.cons .str (.cons .str .nil)))) (Ev.to (Ev.bin (Ev.bin (Ev.sub (.cel hC) .int (SubS.item (j:=1) rfl (le_of_ble_eq_true rfl) rfl)) .int (BinS.fdI (by decide) (PyProof.noPylong_small (by decide)))) .int (BinS.modI (by decide))) (congrArg (fun x=>SV.d (.int x)) hi)) (SubS.itemD (le_of_ble_eq_true rfl) hs)) .nil)) rfl rfl rfl) ?_
 exact J.celO (k:=8) rfl (J.less ⟨rfl,rfl,rfl,rfl,rfl⟩ (k e sg hE hS))
theorem yC9(k:J c Q ((.ofString "rings",.r 11)::setN e sg kh) (S9 f g [.lst []]) (rest::bs)):J c Q (setN e sg kh) (S9 f g []) ((lwSt 5::rest)::bs):=by
 conv=>arg 5;arg 1;arg 1;whnf
 exact J.seq (Ex.assign (Ev.list (xs:=[]) .nil)) k
noncomputable abbrev rgN(e sg:zA0)(kh k:Nat):List (zA0×SV):=(.ofString "ring",.r 12)::(.ofString "k",.d (.int (k:Nat)))::(.ofString "rings",.r 11)::setN e sg kh
noncomputable abbrev rgT(f:Nat→Nat)(g:zA0)(R:List (List Nat))(r:List Nat):List SO:=S9 f g [.lst (zE3 R),.lst (pints (natI r))]
noncomputable def lwSeek:Stmt:=(zC8 (lwSt 6)).getD 1 default
theorem zW8(hC:LawC c){R:List (List Nat)}{r:List Nat}(hr:Orb f k r){p1 p2 p3 p4 p5 p6:Pos}{kk:Nat}:Ev c c.env (rgN e sg kh k) (rgT f g R r) (.Subscript (.Name (.ofString "ways") p1) (.Subscript (.Name (.ofString "ring") p2) (.UnaryOp .USub (.Constant (.int 1) kk p3) p4) p5) p6) (.d (.int (f (lst r):Nat))) (rgT f g R r):=by
 obtain ⟨l,hl,hll⟩:=zD6 hr.ne
 have:=zA3 hr.nodup hr.lt
 exact Ev.sub (.cel hC) (Ev.sub (.loc rfl) .m1 (SubS.last (l:=l) (y:=.int (lst r:Nat)) (congrArg SO.lst hl) (by lia))) (SubS.itemD (le_of_ble_eq_true rfl) (zCk (hr.lt _ (zAs hr.ne))))
theorem zWa(hC:LawC c)(hf:∀x,x<7→f x<7)(hk:k<7){R:List (List Nat)}(done:J c Q (rgN e sg kh k) (rgT f g R (orb f k)) (rest::bs)):J c Q (rgN e sg kh k) (rgT f g R [k]) ((lwSeek::rest)::bs):=by
 conv=>arg 5;arg 1;arg 1;whnf
 refine J.while (X:=Nat×List Nat) (fun p=>p.1) (fun p=>p.2.length+p.1=8∧Orb f k p.2∧zI2 f p.1 p.2=orb f k) (fun _=>rgN e sg kh k) (fun p=>rgT f g R p.2) (7,[k]) ⟨rfl,Orb.start hk,rfl⟩ ⟨rfl,rfl,rfl,rfl,rfl⟩ ?_
 rintro ⟨q,r⟩ ⟨hq,hO,hg⟩
 dsimp only at hq hO hg
 have hr7:=zA3 hO.nodup hO.lt
 refine .mk (EvB.cmp (zW8 hC hO) (.loc rfl) (.notinI rfl)) (fun hb Q₁ qq=>?_) fun hb=>?_
 ·have hn:f (lst r)∉r:=fun c=>by rw [decide_eq_true c] at hb;cases hb
  induction q with
  |zero=>omega
  |succ q=>
   rw [zI2,if_neg hn] at hg
   refine J.seq (Ex.expr (Ev.meth (.loc rfl) (.append rfl) (.cons (zW8 hC hO) .nil) (CallS.append rfl (by rw [zT6];(exact le_trans (by assumption) (le_of_ble_eq_true rfl)))) .b)) (J.pop ?_)
   refine J.next qq (q,r++[f (lst r)]) ⟨⟨by rw [length_append,length_singleton];dsimp only;lia,hO.step hf hn,hg⟩,lt_succ_self _⟩ ⟨rfl,?_,rfl,rfl,rfl⟩
   show S9 f g [_,SO.lst (pints (natI r)++[.int (f (lst r):Nat)])]=S9 f g [_,SO.lst (pints (natI (r++[f (lst r)])))]
   simp only [natI,pints,map_append,map_cons,map_nil]
 ·have hin:f (lst r)∈r:=Classical.byContradiction fun c=>by rw [decide_eq_false c] at hb;cases hb
  have e:r=orb f k:=by
   rw [←hg]
   induction q with
   |zero=>rfl
   |succ q=>rw [zI2,if_pos hin]
  rw [e]
  exact done
theorem zWl{f:Nat→Nat}{k:Nat}(hO:Orb f k (orb f k)):∃M:Nat,(M:Int)∈natI (orb f k)∧(∀a∈natI (orb f k),a≤(M:Int))∧((((f (lst (orb f k)):Nat):Int)==(k:Int))&&(((k:Int)==(M:Int))&&true))=zBn f k:=by
 have key:∀r:List Nat,r≠[]→∃M∈r,∀a∈r,a≤M:=fun r hr=>by
  induction r with
  |nil=>exact absurd rfl hr
  |cons a r ih=>
   induction r with
   |nil=>exact ⟨a,.head _,fun b hb=>by rw [mem_singleton.mp hb];exact le_refl _⟩
   |cons b r=>
    obtain ⟨M,hM,h⟩:=ih (by simp)
    rcases Nat.le_total a M with q|q
    ·exact ⟨M,.tail _ hM,List.forall_mem_cons.mpr ⟨q,h⟩⟩
    ·exact ⟨a,.head _,List.forall_mem_cons.mpr ⟨le_refl _,fun x hx=>le_trans (h x hx) q⟩⟩
 obtain ⟨M,hM,h⟩:=key _ hO.ne
 refine ⟨M,List.mem_map_of_mem hM,fun a ha=>?_,?_⟩
 ·obtain ⟨x,hx,rfl⟩:=mem_map.mp ha
  exact ofNat_le.mpr (h x hx)
 ·rw [Bool.eq_iff_iff,isRing_iff]
  simp only [and_eq_true,beq_iff_eq,Int.ofNat_inj,and_true]
  obtain ⟨t,ht⟩:=hO.head
  refine and_congr Iff.rfl ⟨fun e x hx=>e▸h x hx,fun q=>Nat.le_antisymm (h k (by rw [ht];exact .head _)) (q M hM)⟩
theorem yCa(hC:LawC c)(hf:∀x,x<7→f x<7)(k:J c Q ((.ofString "rings",.d (.list (zE3 (rings f))))::setN e sg kh) (S9 f g []) (rest::bs)):J c Q ((.ofString "rings",.r 11)::setN e sg kh) (S9 f g [.lst []]) ((lwSt 6::rest)::bs):=by
 conv=>arg 5;arg 1;arg 1;whnf
 refine J.forRange (X:=Unit) 7 (fun _ _=>True) (fun _ _=>(.ofString "rings",.r 11)::setN e sg kh) (fun k _=>S9 f g [.lst (zE3 (zBj f k))]) () trivial (Ev.call (.built zAr zAq (by decide)) (.cons .int .nil) .range1 .t) rfl zAp zAw ⟨rfl,rfl,rfl,rfl,rfl⟩ ?turn fun _ _=>J.pop (J.freeze (nx:=S9 f g []) k)
 intro k _ hk _ c' Q₁ sb q
 rw [show (0:Int)+(k:Nat)*1=(k:Nat) by lia]
 have hC':=hC.sub sb
 refine J.seq (Ex.assign (Ev.list (xs:=[_]) (.cons (.loc rfl) .nil))) ?_
 refine zWa (R:=zBj f k) hC' hf hk ?_
 have hO:=(zEi hf hk).1
 obtain ⟨M,hM,hle,hR⟩:=zWl hO
 have hl:=zFv f k
 refine J.ite (EvB.and (EvB.cmp (zW8 hC' hO) (.loc rfl) .eqI) fun _=>EvB.and (EvB.cmp (.loc rfl) (Ev.call (.built yBz yBb (by decide)) (.cons (.loc rfl) .nil) (CallS.max rfl hM hle) .b) .eqI) fun _=>.andN) (fun hb=>?_) fun hb=>J.pop (J.pop ?_)
 ·rw [hR] at hb
  refine J.freeze (nx:=S9 f g [.lst (zE3 (zBj f k))]) (J.seq (Ex.expr (Ev.meth (.loc rfl) (.append rfl) (.cons (.loc rfl) .nil) (CallS.append rfl (by rw [length_map];lia)) .b)) (J.pop (J.pop ?_)))
  refine J.next q () trivial ⟨rfl,?_,rfl,rfl,rfl⟩
  show S9 f g [SO.lst _]=S9 f g [SO.lst _]
  rw [zKm hb,zE3,zE3,map_append]
  rfl
 ·rw [hR] at hb
  exact J.next q () trivial ⟨rfl,by rw [zN9 hb];rfl,rfl,rfl,rfl⟩
end
noncomputable abbrev zD3(r:List Nat):List Str:=r.map ltr
noncomputable abbrev zBl(R:List (List Nat)):List (List Str):=R.map zD3
theorem joinOk_of{sep:zA0}{ls:List zA0}(b:(ls.map (·.length)).sum+ls.length*sep.length≤16777216):JoinOk sep ls=true:=by
 have e:∀(ls:List zA0) (n:Nat),ls.foldl (fun a t=>a+t.length+sep.length) n=n+(ls.map (·.length)).sum+ls.length*sep.length:=fun ls=>by
  induction ls with
  |nil=>intro n;simp
  |cons x r ih=>intro n;rw [List.foldl_cons,ih,map_cons,sum_cons,length_cons,Nat.succ_mul];lia
 unfold JoinOk Builtin.Str.tooLong
 rw [List.foldl_toArray,e,sizeLine_eq,Bool.not_eq_true',decide_eq_false_iff_not,zero_add]
 exact Nat.not_lt_of_le (le_trans b (by decide))
theorem zRa{α β:Type}{g:α→β}{l:List α}{i:Nat}{x:α}(h:l[i]? = some x):(l.take (i+1)).map g=(l.take i).map g++[g x]:=by
 rw [take_add_one,map_append,h]
 rfl
theorem zC0(f:Nat→Nat):(rings f).length≤7:=zFv f 7
theorem zAu{f:Nat→Nat}(hf:∀x,x<7→f x<7){r:List Nat}(h:r∈rings f):r.length≤7∧∀x∈r,x<7:=by
 obtain ⟨k,hk,R⟩:=zA8 hf h
 exact ⟨zA3 R.nodup R.lt,R.lt⟩
noncomputable def zFw(kh:Int):List Str:=if 0<kh then [.ofString ""] else []
noncomputable def zAo(x:List Str):List Str:=x.dropLast.map (fun y=>Str.ofString " " ++ y)++[Str.ofString " " ++ x.getLastD (.ofString "") ++ .ofString ","]
noncomputable def zEk(sg:Str)(x:List Str):List Str:=if sg = .ofString " ," then zAo x else [Txt.join (.ofString "") (zAo x)]
noncomputable def zAx(sg:Str)(kh:Int)(xs:List (List Str)):List Str:=zFw kh++(xs.map (zEk sg)).flatten
theorem zKj{x:List Str}(h:x≠[]):(zAo x).length=x.length:=by
 unfold zAo
 rw [length_append,length_map,List.length_dropLast]
 exact Nat.sub_add_cancel (length_pos_iff.mpr h)
theorem zQq{sg:Str}{x:List Str}(h:x.length≤7):(zEk sg x).length≤8:=by
 unfold zEk
 split
 ·unfold zAo
  rw [length_append,length_map,List.length_dropLast,length_singleton]
  omega
 ·exact Nat.le_add_left 1 7
theorem zNa{sg:Str}{kh:Int}{xs:List (List Str)}(h:∀x∈xs,x.length≤7)(hl:xs.length≤7):(zAx sg kh xs).length≤1000:=by
 have:∀l:List (List Str),(∀x∈l,x.length≤7)→((l.map (zEk sg)).flatten).length≤8*l.length:=by
  intro l
  induction l with
  |nil=>intro _;exact le_refl _
  |cons a r ih=>
   intro h
   have h1:=zQq (sg:=sg) (h a (.head _))
   have h2:=ih fun x hx=>h x (.tail _ hx)
   rw [map_cons,flatten_cons,length_append,length_cons]
   lia
 have h1:=this xs h
 have h2:(zFw kh).length≤1:=by unfold zFw;split<;>decide
 unfold zAx
 rw [length_append]
 lia
theorem zKn{sg:Str}{kh:Int}{xs:List (List Str)}{k:Nat}{x:List Str}(h:xs[k]? = some x):zAx sg kh (xs.take (k+1))=zAx sg kh (xs.take k)++zEk sg x:=by
 unfold zAx
 rw [zRa h,List.flatten_append,append_assoc]
 congr 2
 exact append_nil _
theorem zI8{f:Nat→Nat}(hf:∀x,x<7→f x<7):rings f≠[]:=fun e=>by
 have:=zHt hf (k:=0) (by decide)
 unfold word at this
 rw [e] at this
 cases this
theorem zGt{f:Nat→Nat}(hf:∀x,x<7→f x<7):∀r∈zBl (rings f),r≠[]∧r.length≤7∧∀x∈r,x.length=1∧GoodX x∧Seen x:=fun r hr=>by
 obtain ⟨q,hq,rfl⟩:=mem_map.mp hr
 obtain ⟨k,hk,R⟩:=zA8 hf hq
 refine ⟨fun e=>R.ne (List.map_eq_nil_iff.mp e),by rw [length_map];exact (zAu hf hq).1,fun x hx=>?_⟩
 obtain ⟨y,hy,rfl⟩:=mem_map.mp hx
 have h7:=(zAu hf hq).2 y hy
 exact ⟨(zLi y h7).1,(zLi y h7).2,zSt y h7⟩
theorem zPn{f:Nat→Nat}(hf:∀x,x<7→f x<7):cnt (zBl (rings f))≤7:=by
 have e:cnt (zBl (rings f))=(word f).length:=by
  unfold cnt word
  rw [map_map,List.length_flatten]
  congr 1
  exact map_congr_left fun r _=>length_map _
 rw [e]
 exact zA3 (zA5 hf) (zA9 hf)
theorem zC5(a b c:Str):a++b++c=a++(b++c):=zAm (by rw [zB7,zB7,zB7,zB7,append_assoc])
noncomputable def yAj(x:Str):Str:=Str.ofString " " ++ x
theorem zI3{x:List Str}(h:x≠[]):zAo x=(commaLast x).map yAj:=by
 unfold zAo commaLast
 rw [getLast?_eq_some_getLast h,getLastD_eq_getLast?,getLast?_eq_some_getLast h,map_append]
 show _++[Str.ofString " " ++ x.getLast h ++ .ofString ","]=_++[Str.ofString " " ++ (x.getLast h ++ .ofString ",")]
 rw [zC5]
 rfl
theorem zF5(c:List Str):zBe (c.map prt)=Txt.join (.ofString "") (c.map yAj):=by
 unfold zBe
 rw [map_map]
 rfl
theorem zLe(x:Str):Txt.join (.ofString "") [x]=x:=zAm (by
 show (Txt.join (.ofString "") [x]).cps.toList=_
 rw [zDk]
 simp)
noncomputable def zUr(st:PgSt):List Str:=st.lines++[zBe (st.cur.map prt)]
theorem zPh{c:Nat}{l:List Str}{x:Str}:zBi c (l++[x])=(lastC x==some c):=by
 unfold zBi
 rw [List.getLast?_append]
 rfl
theorem zGo{sg:Str}(hs:sg = .ofString " ,"):∀(ys:List Str) (l c:List Str),c≠[]→zUr (ys.foldl (chunk sg) ⟨l,c,0⟩)=l++[zBe (c.map prt)]++ys.map yAj
 |[],l,c,_=>by simp [zUr]
 |y::r,l,c,hc=>by
  rw [List.foldl_cons,chunk,if_neg hc,if_pos (.inl hs),zGo hs r _ [y] (by simp)]
  show l++[_]++[zBe [prt y]]++_=_
  rw [show zBe [prt y]=yAj y from (zF5 [y]).trans (zLe _)]
  simp
theorem zDe{sg:Str}(hs:sg = .ofString " ,"):∀(ys:List Str) (l c:List Str),c≠[]→(ys.foldl (chunk sg) ⟨l,c,0⟩).k=0∧(ys.foldl (chunk sg) ⟨l,c,0⟩).cur≠[]∧(∀y,ys.getLast? = some y→zBi 44 (ys.foldl (chunk sg) ⟨l,c,0⟩).cur=(lastC y==some 44))
 |[],l,c,hc=>⟨rfl,hc,fun y h=>by cases h⟩
 |y::r,l,c,hc=>by
  rw [List.foldl_cons,chunk,if_neg hc,if_pos (.inl hs)]
  have h:=zDe hs r (l++[zBe (c.map prt)]) [y] (by simp)
  refine ⟨h.1,h.2.1,fun z hz=>?_⟩
  induction r with
  |nil=>cases hz;rfl
  |cons a r=>exact h.2.2 z (by rw [List.getLast?_cons_cons] at hz;exact hz)
theorem zJ3{sg:Str}(hs:sg≠.ofString " ,"):∀(ys:List Str) (l c:List Str),c≠[]→zBi 44 c=false→(∀y∈ys.dropLast,(lastC y==some 44)=false)→ys.foldl (chunk sg) ⟨l,c,0⟩=⟨l,c++ys,0⟩
 |[],l,c,_,_,_=>by simp
 |y::r,l,c,hc,hl,hy=>by
  rw [List.foldl_cons,chunk,if_neg hc,if_neg (by simp [hs,hl])]
  cases r with
  |nil=>rfl
  |cons a r=>
   rw [zJ3 hs (a::r) l (c++[y]) (by simp) (by rw [zPh];exact hy y (.head _)) fun z hz=>hy z (.tail _ hz)]
   simp
theorem zS9{x:List Str}(h:x≠[]):∃y r,commaLast x=y::r:=by
 unfold commaLast
 rw [getLast?_eq_some_getLast h]
 cases e:x.dropLast with
 |nil=>exact ⟨_,_,rfl⟩
 |cons a r=>exact ⟨_,_,rfl⟩
theorem zMn{x:List Str}(h:x≠[]):∃z,(commaLast x).getLast? = some z∧(lastC z==some 44)=true:=by
 unfold commaLast
 rw [getLast?_eq_some_getLast h]
 refine ⟨_,by rw [List.getLast?_append];rfl,?_⟩
 have e:(x.getLast h++Str.ofString ",").cps=(x.getLast h).cps.push 44:=by
  show (x.getLast h).cps++(Str.ofString ",").cps=_
  rw [zIs]
  rfl
 show (lastC (x.getLast h++Str.ofString ",")==some 44)=true
 unfold lastC
 rw [e]
 simp
def zFa(x:List Str):Prop:=∀y∈x,(lastC y==some 44)=false
theorem zMm{x:List Str}(h:x≠[])(hn:zFa x):∀y∈(commaLast x).dropLast,(lastC y==some 44)=false:=by
 have e:commaLast x=x.dropLast++[x.getLast h++Str.ofString ","]:=by
  unfold commaLast
  rw [getLast?_eq_some_getLast h]
 rw [e,List.dropLast_concat]
 exact fun y hy=>hn y (List.dropLast_subset _ hy)
noncomputable def zB4(st:PgSt):List Str:=if st.cur=[] then (if 0<st.k then st.lines++[.ofString ""] else st.lines) else zUr st
theorem zLz{sg:Str}{st:PgSt}{x:List Str}(h:x≠[])(hn:zFa x)(hst:st.cur=[]∨zBi 44 st.cur=true):
  zUr ((commaLast x).foldl (chunk sg) st)=zB4 st++zEk sg x∧((commaLast x).foldl (chunk sg) st).cur≠[]∧zBi 44 ((commaLast x).foldl (chunk sg) st).cur=true:=by
 have hp:=zI3 h
 obtain ⟨z,hz,hz2⟩:=zMn h
 have hi:=zMm h hn
 obtain ⟨y,r,e⟩:=zS9 h
 unfold zEk
 rw [hp]
 rw [e] at hz hi ⊢
 have first:chunk sg st y=⟨zB4 st,[y],0⟩:=by
  unfold chunk zB4
  by_cases hc:st.cur=[]
  ·rw [if_pos hc,if_pos hc]
  ·rw [if_neg hc,if_neg hc,if_pos (.inr (hst.resolve_left hc))]
   rfl
 rw [List.foldl_cons,first]
 by_cases hs:sg = .ofString " ,"
 ·have h1:=zGo hs r (zB4 st) [y] (by simp)
  have h2:=zDe hs r (zB4 st) [y] (by simp)
  rw [if_pos hs]
  refine ⟨?_,h2.2.1,?_⟩
  ·rw [h1,show zBe ([y].map prt)=yAj y from (zF5 [y]).trans (zLe _)]
   simp
  ·induction r with
   |nil=>
    cases hz
    exact hz2
   |cons a r=>
    rw [h2.2.2 z (by rw [List.getLast?_cons_cons] at hz;exact hz)]
    exact hz2
 ·rw [if_neg hs]
  induction r with
  |nil=>
   cases hz
   refine ⟨?_,by simp,hz2⟩
   show zB4 st++[zBe ([y].map prt)]=_
   rw [zF5]
  |cons a r=>
   rw [zJ3 hs (a::r) (zB4 st) [y] (by simp) (hi y (.head _)) fun w hw=>hi w (.tail _ hw)]
   refine ⟨?_,by simp,?_⟩
   ·show zB4 st++[zBe (([y]++a::r).map prt)]=_
    rw [zF5]
    rfl
   ·show zBi 44 ([y]++a::r)=true
    unfold zBi
    rw [show [y]++a::r=y::a::r from rfl,hz]
    exact hz2
theorem zJr{sg:Str}:∀(xs:List (List Str)) (st:PgSt),(∀x∈xs,x≠[]∧zFa x)→(st.cur=[]∨zBi 44 st.cur=true)→xs≠[]→zUr (zAb sg st xs)=zB4 st++(xs.map (zEk sg)).flatten
 |[],_,_,_,h=>absurd rfl h
 |[x],st,h,hst,_=>by
  have h1:=zLz (sg:=sg) (h x (.head _)).1 (h x (.head _)).2 hst
  show zUr ((commaLast x).foldl (chunk sg) st)=_
  rw [h1.1]
  simp
 |x::y::r,st,h,hst,_=>by
  have h1:=zLz (sg:=sg) (h x (.head _)).1 (h x (.head _)).2 hst
  show zUr (zAb sg ((commaLast x).foldl (chunk sg) st) (y::r))=_
  rw [zJr (y::r) _ (fun z hz=>h z (.tail _ hz)) (.inr h1.2.2) (by simp)]
  have:zB4 ((commaLast x).foldl (chunk sg) st)=zB4 st++zEk sg x:=by
   unfold zB4
   rw [if_neg h1.2.1]
   exact h1.1
  rw [this,append_assoc]
  rfl
theorem zQ7{sg e:Str}{kh:Int}{xs:List (List Str)}(h:∀x∈xs,x≠[]∧zFa x)(hx:xs≠[]):zE0 sg e kh xs=Txt.join e (zAx sg kh xs):=by
 unfold zE0
 have h1:=zJr (sg:=sg) xs ⟨[],[],kh⟩ h (.inl rfl) hx
 unfold zUr at h1
 rw [h1]
 unfold zAx zFw zB4
 rfl
theorem zJg{r:List Nat}(h:∀x∈r,x<7):zFa (zD3 r):=fun y hy=>by
 obtain ⟨k,hk,rfl⟩:=mem_map.mp hy
 have:∀k,k<7→(lastC (ltr k)==some 44)=false:=by decide
 exact this k (h k hk)
noncomputable def tailJ(e:List Nat)(l:List (List Nat)):List Nat:=(l.map (e ++ ·)).flatten
theorem tailJ_app(e:List Nat)(a b:List (List Nat)):tailJ e (a++b)=tailJ e a++tailJ e b:=by unfold tailJ;simp
theorem zCz(e:Str):∀(a:Str) (l:List Str),cl (Txt.join e (a::l))=cl a++tailJ (cl e) (l.map cl):=by
 intro a l
 show cl (Builtin.Str.glued e (a::l))=_
 rw [StrLaws.glued_eq_join]
 induction l generalizing a with
 |nil=>simp [tailJ,Str.join]
 |cons b r ih=>
  show cl (a++e++Str.join e (b::r))=_
  rw [zB7,zB7,ih]
  simp [tailJ]
noncomputable def zAj(pre mid:List Nat):List Nat→List Seg
 |[]=>[]
 |x::t=>(pre,codeOf x)::t.map fun y=>(mid,codeOf y)
noncomputable def zBc(pre mid nxt:List Nat):List (List Nat)→List Seg
 |[]=>[]
 |r::R=>zAj pre mid r++zBc nxt mid nxt R
noncomputable def zDa(sg:Str)(e:List Nat):List Nat:=(if sg = .ofString " ," then e else [])++[32]
noncomputable def zDb(e:List Nat):List Nat:=44::(e++[32])
noncomputable def zJl(kh:Int)(e:List Nat):List Nat:=(if 0<kh then e else [])++[32]
noncomputable def zAi(sg e:Str)(kh:Int)(R:List (List Nat)):List Seg:=zBc (zJl kh (cl e)) (zDa sg (cl e)) (zDb (cl e)) R
theorem zS5(a b:List Seg)(tl:List Nat):catS (a++b) tl=catS a (catS b tl):=by unfold catS;simp
theorem zL1:cl (Str.ofString " ")=[32]:=by decide
theorem zS7:cl (Str.ofString ",")=[44]:=by decide
noncomputable def partsC:List Nat→List (List Nat)
 |[]=>[]
 |[x]=>[[32,codeOf x,44]]
 |x::y::t=>[32,codeOf x]::partsC (y::t)
theorem zHd:∀{r:List Nat},r≠[]→(zAo (zD3 r)).map cl=partsC r
 |[],h=>absurd rfl h
 |[x],_=>by
  show [cl (Str.ofString " " ++ ltr x++Str.ofString ",")]=_
  rw [zB7,zB7,zL1,zS7,zOh]
  rfl
 |x::y::t,_=>by
  have ih:=zHd (r:=y::t) (by simp)
  show cl (Str.ofString " " ++ ltr x)::(zAo (zD3 (y::t))).map cl=_
  rw [ih,zB7,zL1,zOh]
  rfl
theorem zT9{sg:Str}{r:List Nat}(h:r≠[]):(zEk sg (zD3 r)).map cl=if sg = .ofString " ," then partsC r else [(partsC r).flatten]:=by
 unfold zEk
 split
 ·exact zHd h
 ·show [cl (Txt.join (.ofString "") (zAo (zD3 r)))]=_
  have:=zDk (zAo (zD3 r))
  rw [show cl (Txt.join (.ofString "") (zAo (zD3 r)))=_ from this]
  exact congrArg (fun z=>[z.flatten]) (zHd h)
theorem zH1(e:List Nat):∀{r:List Nat} {pre:List Nat} {tl:List Nat},r≠[]→catS (zAj (pre++[32]) (e++[32]) r) (44::tl)=pre++(partsC r).headD []++tailJ e (partsC r).tail++tl
 |[],_,_,h=>absurd rfl h
 |[x],pre,tl,_=>by simp [zAj,catS,partsC,tailJ]
 |x::y::t,pre,tl,_=>by
  have ih:=zH1 e (r:=y::t) (pre:=e) (tl:=tl) (by simp)
  have e1:zAj (pre++[32]) (e++[32]) (x::y::t)=(pre++[32],codeOf x)::zAj (e++[32]) (e++[32]) (y::t):=rfl
  rw [e1,catS_cons,ih]
  have e2:partsC (x::y::t)=[32,codeOf x]::partsC (y::t):=rfl
  rw [e2]
  have e3:∃a b,partsC (y::t)=a::b:=by induction t<;>exact ⟨_,_,rfl⟩
  obtain ⟨a,b,e3⟩:=e3
  rw [e3]
  simp [tailJ]
theorem zJo:∀{r:List Nat} {pre:List Nat} {tl:List Nat},r≠[]→catS (zAj (pre++[32]) [32] r) (44::tl)=pre++(partsC r).flatten++tl
 |[],_,_,h=>absurd rfl h
 |[x],pre,tl,_=>by simp [zAj,catS,partsC]
 |x::y::t,pre,tl,_=>by
  have ih:=zJo (r:=y::t) (pre:=[]) (tl:=tl) (by simp)
  have e1:zAj (pre++[32]) [32] (x::y::t)=(pre++[32],codeOf x)::zAj ([]++[32]) [32] (y::t):=rfl
  rw [e1,catS_cons,ih]
  have e2:partsC (x::y::t)=[32,codeOf x]::partsC (y::t):=rfl
  rw [e2]
  simp
noncomputable def rowC(sg:Str)(r:List Nat):List (List Nat):=if sg = .ofString " ," then partsC r else [(partsC r).flatten]
theorem zJp{sg:Str}(e:List Nat){r pre tl:List Nat}(h:r≠[]):∃a b,rowC sg r=a::b∧catS (zAj (pre++[32]) (zDa sg e) r) (44::tl)=pre++a++tailJ e b++tl:=by
 unfold rowC zDa
 by_cases hs:sg = .ofString " ,"
 ·rw [if_pos hs,if_pos hs]
  have e3:∃a b,partsC r=a::b:=by
   match r,h with
   |[x],_=>exact ⟨_,_,rfl⟩
   |x::y::t,_=>exact ⟨_,_,rfl⟩
  obtain ⟨a,b,e3⟩:=e3
  refine ⟨a,b,e3,?_⟩
  rw [zH1 e h,e3]
  rfl
 ·rw [if_neg hs,if_neg hs]
  refine ⟨_,[],rfl,?_⟩
  rw [List.nil_append,zJo h]
  simp [tailJ]
theorem zKu{sg:Str}(e:List Nat):∀{R:List (List Nat)} {r pre:List Nat},(∀r∈R,r≠[])→r≠[]→∃a b,rowC sg r=a::b∧catS (zBc (pre++[32]) (zDa sg e) (zDb e) (r::R)) [44]=pre++a++tailJ e b++tailJ e (R.map (rowC sg)).flatten
 |[],r,pre,_,h=>by
  obtain ⟨a,b,h1,h2⟩:=zJp (sg:=sg) e (pre:=pre) (tl:=[]) h
  refine ⟨a,b,h1,?_⟩
  show catS (zAj (pre++[32]) (zDa sg e) r++[]) [44]=_
  rw [append_nil,h2]
  simp [tailJ]
 |r'::R,r,pre,hR,h=>by
  obtain ⟨a,b,h1,h2⟩:=zJp (sg:=sg) e (pre:=pre) (tl:=(catS (zBc (zDb e) (zDa sg e) (zDb e) (r'::R)) [44]).tail) h
  obtain ⟨a',b',h3,h4⟩:=zKu e (R:=R) (r:=r') (pre:=e) (fun x hx=>hR x (.tail _ hx)) (hR r' (.head _))
  have hd:∀l,catS (zBc (zDb e) (zDa sg e) (zDb e) (r'::l)) [44]=44::catS (zBc (e++[32]) (zDa sg e) (zDb e) (r'::l)) [44]:=by
   intro l
   obtain ⟨x,t,rfl⟩:∃x t,r'=x::t:=by
    induction r' with
    |nil=>exact absurd rfl (hR [] (.head _))
    |cons x t=>exact ⟨x,t,rfl⟩
   show catS ((zDb e,codeOf x)::_) [44]=44::catS ((e++[32],codeOf x)::_) [44]
   rw [catS_cons,catS_cons]
   rfl
  refine ⟨a,b,h1,?_⟩
  show catS (zAj (pre++[32]) (zDa sg e) r++zBc (zDb e) (zDa sg e) (zDb e) (r'::R)) [44]=_
  rw [zS5]
  rw [hd] at h2 ⊢
  rw [List.tail_cons] at h2
  rw [h2,h4,map_cons,flatten_cons,h3,tailJ_app]
  simp [tailJ]
theorem zQr{sg:Str}{kh:Int}{R:List (List Nat)}(h:∀r∈R,r≠[]):(zAx sg kh (zBl R)).map cl=(zFw kh).map cl++(R.map (rowC sg)).flatten:=by
 unfold zAx
 rw [map_append,List.map_flatten,map_map,map_map]
 congr 2
 exact map_congr_left fun r hr=>zT9 (h r hr)
theorem zQ8{sg e:Str}{kh:Int}{R:List (List Nat)}(h:∀r∈R,r≠[])(hR:R≠[]):Txt.join e (zAx sg kh (zBl R))=txt (catS (zAi sg e kh R) [44]):=by
 apply zAm
 show cl (Txt.join e (zAx sg kh (zBl R)))=catS (zAi sg e kh R) [44]
 have hm:=zQr (sg:=sg) (kh:=kh) h
 obtain ⟨r,R',rfl⟩:∃r R',R=r::R':=by
  induction R with
  |nil=>exact absurd rfl hR
  |cons r R'=>exact ⟨r,R',rfl⟩
 have ha:=fun pre=>zKu (sg:=sg) (cl e) (R:=R') (r:=r) (pre:=pre) (fun x hx=>h x (.tail _ hx)) (h r (.head _))
 unfold zAi zJl
 unfold zFw at hm
 by_cases hk:0<kh
 ·rw [if_pos hk] at hm ⊢
  cases hl:zAx sg kh (zBl (r::R')) with
  |nil=>rw [hl] at hm;cases hm
  |cons a l=>
   rw [hl] at hm
   obtain ⟨x,y,h1,h2⟩:=ha (cl e)
   rw [zCz,h2]
   have h3:=List.cons.inj hm
   rw [h3.1]
   have h4:l.map cl=rowC sg r++(R'.map (rowC sg)).flatten:=h3.2
   rw [h4,tailJ_app,h1]
   have:cl (Str.ofString "")=[]:=by decide
   rw [this]
   simp [tailJ]
 ·rw [if_neg hk] at hm ⊢
  cases hl:zAx sg kh (zBl (r::R')) with
  |nil=>
   rw [hl] at hm
   obtain ⟨x,y,h1,h2⟩:=ha []
   have h4:[]=rowC sg r++(R'.map (rowC sg)).flatten:=hm
   rw [h1] at h4
   cases h4
  |cons a l=>
   rw [hl] at hm
   obtain ⟨x,y,h1,h2⟩:=ha []
   have h4:cl a::l.map cl=rowC sg r++(R'.map (rowC sg)).flatten:=hm
   rw [h1] at h4
   have h5:=List.cons.inj h4
   rw [zCz,h2,h5.1,show l.map cl=y++(R'.map (rowC sg)).flatten from h5.2,tailJ_app]
   simp
noncomputable def zAk(c:Nat):List Seg→List (Str×Nat)
 |[]=>[]
 |p::l=>(txt [p.2],c+p.1.count 44)::zAk (c+p.1.count 44) l
theorem zJy(l:List Seg):∀(r:List Seg) (i:Nat),i≤l.length→l.drop i=r→zBb l l.length=zBb l i++zAk ((zBo (l.take i)).count 44) r
 |[],i,hi,h=>by
  have h2:i=l.length:=Nat.le_antisymm hi (List.drop_eq_nil_iff.mp h)
  rw [h2,zAk,append_nil]
 |p::r,i,_,h=>by
  have hi:i<l.length:=lt_of_not_le fun c=>by rw [List.drop_eq_nil_of_le c] at h;cases h
  have hp:l[i]? = some p:=by
   have:=congrArg List.head? h
   rw [List.head?_drop] at this
   exact this
  have hd:l.drop (i+1)=r:=by
   have:=congrArg List.tail h
   rw [List.tail_drop] at this
   exact this
  rw [zJy l r (i+1) hi hd,zG5 hp,zAk,preS_succ hp,List.count_append]
  simp
theorem zTn(l:List Seg):zBb l l.length=zAk 0 l:=by
 have:=zJy l l 0 (zero_le _) rfl
 rw [this]
 rfl
noncomputable def zCp(c:Nat):List (List Nat)→List (Str×Nat)
 |[]=>[]
 |r::R=>(r.map fun x=>(ltr x,c))++zCp (c+1) R
theorem zM1(c:Nat):∀a b:List Seg,zAk c (a++b)=zAk c a++zAk (c+(zBo a).count 44) b
 |[],b=>by simp [zAk,zBo]
 |p::a,b=>by
  rw [List.cons_append,zAk,zM1 _ a b,zAk,List.cons_append]
  congr 3
  unfold zBo
  rw [map_cons,flatten_cons,List.count_append,Nat.add_assoc]
theorem zQk{pre mid:List Nat}(hm:mid.count 44=0):∀{r:List Nat},r≠[]→(zBo (zAj pre mid r)).count 44=pre.count 44
 |[],h=>absurd rfl h
 |x::t,_=>by
  have h:∀t:List Nat,(zBo (t.map fun y=>((mid,codeOf y):Seg))).count 44=0:=by
   intro t
   induction t with
   |nil=>rfl
   |cons a r ih=>
    unfold zBo at ih ⊢
    rw [map_cons,map_cons,flatten_cons,List.count_append,ih,hm]
  have h2:=h t
  unfold zBo zAj at *
  rw [map_cons,flatten_cons,List.count_append,h2]
  rfl
theorem zRd{pre mid:List Nat}(hm:mid.count 44=0)(c:Nat):∀{r:List Nat},r≠[]→zAk c (zAj pre mid r)=r.map fun x=>(ltr x,c+pre.count 44)
 |[],h=>absurd rfl h
 |x::t,_=>by
  have h:∀(t:List Nat) (c:Nat),zAk c (t.map fun y=>((mid,codeOf y):Seg))=t.map fun x=>(ltr x,c):=by
   intro t
   induction t with
   |nil=>intro c;rfl
   |cons a r ih=>
    intro c
    rw [map_cons,zAk,map_cons]
    show (_,c+mid.count 44)::zAk (c+mid.count 44) _=_
    rw [hm,add_zero,ih]
    rfl
  rw [zAj,zAk,h]
  rfl
theorem zH6{pre mid nxt:List Nat}(hm:mid.count 44=0)(hn:nxt.count 44=1):∀{R:List (List Nat)} {pre:List Nat} {c:Nat},(∀r∈R,r≠[])→zAk c (zBc pre mid nxt R)=zCp (c+pre.count 44) R
 |[],_,_,_=>rfl
 |r::R,pre,c,h=>by
  rw [zBc,zM1,zRd hm c (h r (.head _)),zQk hm (h r (.head _)),zH6 (pre:=pre) hm hn fun x hx=>h x (.tail _ hx),hn]
  rfl
theorem EndOk.cl{e:Str}(h:EndOk e):Mine.cl e=[10]∨Mine.cl e=[13,10]:=by
 rcases h with rfl|rfl
 ·exact .inl (by decide)
 ·exact .inr (by decide)
theorem zRc{sg e:Str}{kh:Int}{R:List (List Nat)}(he:EndOk e)(h:∀r∈R,r≠[]):zBb (zAi sg e kh R) (zAi sg e kh R).length=zCp 0 R:=by
 rw [zTn]
 unfold zAi
 have h1:(zDa sg (cl e)).count 44=0:=by unfold zDa;rcases he.cl with q|q<;>rw [q]<;>split<;>decide
 have h2:(zDb (cl e)).count 44=1:=by unfold zDb;rcases he.cl with q|q<;>rw [q]<;>decide
 have h3:(zJl kh (cl e)).count 44=0:=by unfold zJl;rcases he.cl with q|q<;>rw [q]<;>split<;>decide
 rw [zH6 (pre:=[]) h1 h2 h,h3]
noncomputable def zCn(c:Nat):Bool:=[67,97,98,100,101,102,103].contains c
noncomputable def zVy(c:Nat):Bool:=!(Rx.tok c) && !(zCn c)
theorem zE4{pre mid nxt:List Nat}{P:List Nat→Prop}(hm:P mid)(hn:P nxt):∀{R:List (List Nat)} {pre:List Nat},P pre→∀p∈zBc pre mid nxt R,P p.1∧∃k,p.2=codeOf k
 |[],_,_,p,hp=>by cases hp
 |r::R,pre,h,p,hp=>by
  rcases mem_append.mp hp with hp|hp
  ·induction r with
   |nil=>cases hp
   |cons x t=>
    rcases mem_cons.mp hp with rfl|hp
    ·exact ⟨h,x,rfl⟩
    ·obtain ⟨y,_,rfl⟩:=mem_map.mp hp
     exact ⟨hm,y,rfl⟩
  ·exact zE4 (pre:=pre) hm hn hn p hp
theorem zBm(k:Nat):codeOf k∈[67,97,98,100,101,102,103]:=by
 unfold codeOf
 by_cases h:k<7
 ·have:∀k,k<7→[67,97,98,100,101,102,103].getD k 67∈[67,97,98,100,101,102,103]:=by decide
  exact this k h
 ·rw [getD_eq_getElem?_getD,getElem?_eq_none (by simp;(exact le_of_not_lt (by assumption)))]
  exact .head _
theorem zIq(k:Nat):Rx.tok (codeOf k)=true∧zCn (codeOf k)=true:=by
 have:∀c∈[67,97,98,100,101,102,103],Rx.tok c=true∧zCn c=true:=by decide
 exact this _ (zBm k)
theorem yC1{sg e:Str}{kh:Int}(he:EndOk e):(∀c∈zDa sg (cl e),zVy c=true)∧(∀c∈zDb (cl e),zVy c=true)∧∀c∈zJl kh (cl e),zVy c=true:=by
 unfold zDa zDb zJl
 rcases he.cl with q|q<;>rw [q]<;>refine ⟨?_,by decide,?_⟩<;>split<;>decide
theorem zF2{sg e:Str}{kh:Int}{R:List (List Nat)}(he:EndOk e):∀p∈zAi sg e kh R,(∀c∈p.1,zVy c=true)∧∃k,p.2=codeOf k:=
 zE4 (pre:=[]) (P:=fun l=>∀c∈l,zVy c=true) (yC1 (kh:=kh) he).1 (yC1 (sg:=sg) (kh:=kh) he).2.1 (yC1 (sg:=sg) he).2.2
theorem zLb{c:Nat}(h:zVy c=true):Rx.tok c=false∧zCn c=false:=by
 unfold zVy at h
 rw [and_eq_true] at h
 exact ⟨by simpa using h.1,by simpa using h.2⟩
theorem zWo{sg e:Str}{kh:Int}{R:List (List Nat)}(he:EndOk e):SegsOk (zAi sg e kh R) [44] where
 sep:=fun p hp c hc=>(zLb ((zF2 he p hp).1 c hc)).1
 word:=fun p hp=>by
  obtain ⟨k,hk⟩:=(zF2 he p hp).2
  rw [hk]
  exact (zIq k).1
 gap:=fun p hp=>(zE4 (pre:=[]) (P:=fun l=>l≠[]) (by unfold zDa;simp) (by unfold zDb;simp) (by unfold zJl;simp) p (List.mem_of_mem_tail hp)).1
 tail:=by decide
theorem zGm:∀{l:List Seg} {tl:List Nat},(∀p∈l,(∀c∈p.1,zCn c=false)∧zCn p.2=true)→(∀c∈tl,zCn c=false)→(catS l tl).filter (fun c=>!zCn c)=zBo l++tl
 |[],tl,_,h=>by
  show tl.filter _=tl
  rw [List.filter_eq_self]
  exact fun c hc=>by rw [h c hc];rfl
 |p::l,tl,h,ht=>by
  have h1:=h p (.head _)
  rw [catS_cons,List.filter_append,filter_cons,h1.2,zGm (fun q hq=>h q (.tail _ hq)) ht]
  have:p.1.filter (fun c=>!zCn c)=p.1:=by
   rw [List.filter_eq_self]
   exact fun c hc=>by rw [h1.1 c hc];rfl
  rw [this]
  simp [zBo]
theorem zQ6{sg e:Str}{kh:Int}{R:List (List Nat)}(he:EndOk e):(catS (zAi sg e kh R) [44]).filter (fun c=>!zCn c)=zBo (zAi sg e kh R)++[44]:=
 zGm (fun p hp=>⟨fun c hc=>(zLb ((zF2 he p hp).1 c hc)).2,by
  obtain ⟨k,hk⟩:=(zF2 he p hp).2
  rw [hk]
  exact (zIq k).2⟩) (by decide)
theorem zKz:∀{l:List Seg} {tl:List Nat},(∀p∈l,p.1.length≤5)→(catS l tl).length≤6*l.length+tl.length
 |[],tl,_=>Nat.le_of_eq (zero_add _).symm
 |p::l,tl,h=>by
  have h1:=h p (.head _)
  have h2:=zKz (tl:=tl) fun q hq=>h q (.tail _ hq)
  rw [catS_cons,length_append,length_cons,length_cons]
  lia
theorem zFy{pre mid nxt:List Nat}:∀(R:List (List Nat)) (pre:List Nat),(∀r∈R,r.length≤7)→(zBc pre mid nxt R).length≤7*R.length
 |[],_,_=>le_refl _
 |r::R,pre,h=>by
  have h1:=h r (.head _)
  have h2:=zFy (mid:=mid) (nxt:=nxt) (pre:=pre) R nxt fun q hq=>h q (.tail _ hq)
  have h3:(zAj pre mid r).length=r.length:=by
   induction r with
   |nil=>rfl
   |cons x t=>show (_::_).length=_;rw [length_cons,length_map,length_cons]
  rw [zBc,length_append,h3,length_cons]
  lia
theorem zT5{sg e:Str}{kh:Int}{R:List (List Nat)}(he:EndOk e)(h7:R.length≤7)(h:∀r∈R,r.length≤7):(catS (zAi sg e kh R) [44]).length≤400:=by
 have h1:(zAi sg e kh R).length≤49:=le_trans (zFy (pre:=[]) R _ h) (by lia)
 have h2:=zKz (l:=zAi sg e kh R) (tl:=[44]) fun p hp=>(zE4 (pre:=[]) (P:=fun l=>l.length≤5)
  (by unfold zDa;rcases he.cl with q|q<;>rw [q]<;>split<;>decide) (by unfold zDb;rcases he.cl with q|q<;>rw [q]<;>decide) (by unfold zJl;rcases he.cl with q|q<;>rw [q]<;>split<;>decide) p hp).1
 exact le_trans h2 (by rw [length_singleton];lia)
theorem zPd(e:Str)(a:Str)(l:List Str):((a::l).map (·.length)).sum+(a::l).length*e.length=(cl (Txt.join e (a::l))).length+e.length:=by
 rw [zCz,length_append]
 have h:∀l:List Str,(tailJ (cl e) (l.map cl)).length=(l.map (·.length)).sum+l.length*e.length:=by
  intro l
  induction l with
  |nil=>exact (Nat.zero_mul _).symm▸rfl
  |cons b r ih=>
   unfold tailJ at ih ⊢
   rw [map_cons,map_cons,flatten_cons,length_append,ih,length_append,map_cons,sum_cons,length_cons,Nat.add_mul]
   show e.length+b.length+_=_
   lia
 rw [h,map_cons,sum_cons,length_cons,Nat.add_mul]
 show _=a.length+_+_
 lia
theorem zTb{e:Str}{ys:List Str}{cs:List Nat}(he:EndOk e)(h:Txt.join e ys=txt cs)(hc:cs.length≤400):(ys.map (·.length)).sum+ys.length*e.length≤16777216:=by
 have h2:e.length≤2:=by rcases he with rfl|rfl<;>decide
 induction ys with
 |nil=>rw [List.length_nil,Nat.zero_mul];exact zero_le _
 |cons a l=>
  rw [zPd,h]
  show cs.length+_≤_
  lia
theorem zLr{sg e:Str}{kh:Int}{f:Nat→Nat}(hf:∀x,x<7→f x<7):zE0 sg e kh (zBl (rings f))=Txt.join e (zAx sg kh (zBl (rings f)))∧Txt.join e (zAx sg kh (zBl (rings f)))=txt (catS (zAi sg e kh (rings f)) [44]):=by
 have hg:=zGt hf
 have hn:zBl (rings f)≠[]:=fun e=>zI8 hf (List.map_eq_nil_iff.mp e)
 refine ⟨zQ7 (fun x hx=>⟨(hg x hx).1,?_⟩) hn,zQ8 (fun r hr c=>(hg (zD3 r) (List.mem_map_of_mem hr)).1 (by rw [c];rfl)) (zI8 hf)⟩
 obtain ⟨q,hq,rfl⟩:=mem_map.mp hx
 exact zJg (zAu hf hq).2
theorem zFb{α:Type}(l:List α)(g:α→Option PyData):accN (fun i=>l[i]?.bind g) l.length=l.filterMap g:=by
 have:∀n,n≤l.length→accN (fun i=>l[i]?.bind g) n=(l.take n).filterMap g:=fun n=>by
  induction n with
  |zero=>intro _;rfl
  |succ n ih=>
   intro hn
   rw [accN,ih (le_of_lt hn),take_add_one,List.filterMap_append,getElem?_eq_getElem hn]
   cases e:g l[n]<;>simp [e]
 rw [this _ (le_refl _),take_length]
section
variable {E:Env}{fn:Fn}{d n₀:Nat}{c:Cx fn d n₀}{ps:List (zA0×SV)}{nx nx₁ nx':List SO}{e iter elt:Expr}{pos px py spos:Pos}{v:SV}{x y:zA0}{k n:Nat}{sc:Scope}{cl:List (zA0×Addr)}{lpos:Pos}{ifs:List Expr}{α:Type}
theorem Ev.compL(l:List α)(F:α→PyData)(g:α→Option PyData)(hn:l.length≤100000)(h:Ev c E ps nx iter (.d (.list (l.map F))) nx₁)(turn:∀a∈l,∀(c':Cx fn d nx₁.length) (C:Addr),CompAt c c' C [(x,.d (F a))]→EltS c' (compEnvC sc cl C E) ps nx₁ elt ifs (g a))(hclos:autoParam (closureFor sc E=pure cl) T0R)(hx:autoParam (sc.names.lookup x=some .local) T0R)(hcell:autoParam (∀y∈sc.names,y.2≠.cell) T0D)(hkind:autoParam (sc.kind = .function) T0R)(hnames:autoParam (∀y∈sc.names,y.2 = .local→sc.names.lookup y.1=some .local) T0D)(hs:autoParam (∀x,foldedSetIterable iter E x=pure x) T0I):
  Ev c E ps nx (.ListComp elt [⟨.Name x px,iter,ifs,0⟩] sc lpos) (.d (.list (l.filterMap g))) nx₁:=by
 have hl:(l.map F).length=l.length:=length_map _
 refine Ev.comp (fun i=>l[i]?.bind g) (n:=(l.map F).length) (by rw [hl];exact zFb l g) (hl▸hn) h SrcS.list (fun i hi c' C h=>?_) hclos hx hcell hkind hnames hs
 rw [hl] at hi
 have e:=getElem?_eq_getElem hi
 have e2:(l.map F).getD i .none=F l[i]:=by rw [getD_eq_getElem?_getD,getElem?_map,e];rfl
 rw [e2] at h
 rw [e]
 exact turn _ (getElem_mem hi) c' C h
theorem Ev.compM(l:List α)(F G:α→PyData)(hn:l.length≤100000)(h:Ev c E ps nx iter (.d (.list (l.map F))) nx₁)(turn:∀a∈l,∀(c':Cx fn d nx₁.length) (C:Addr),CompAt c c' C [(x,.d (F a))]→EltS c' (compEnvC sc cl C E) ps nx₁ elt ifs (some (G a)))(hclos:autoParam (closureFor sc E=pure cl) T0R)(hx:autoParam (sc.names.lookup x=some .local) T0R)(hcell:autoParam (∀y∈sc.names,y.2≠.cell) T0D)(hkind:autoParam (sc.kind = .function) T0R)(hnames:autoParam (∀y∈sc.names,y.2 = .local→sc.names.lookup y.1=some .local) T0D)(hs:autoParam (∀x,foldedSetIterable iter E x=pure x) T0I):
  Ev c E ps nx (.ListComp elt [⟨.Name x px,iter,ifs,0⟩] sc lpos) (.d (.list (l.map G))) nx₁:=by
 have:=Ev.compL (px:=px) (lpos:=lpos) l F (fun a=>some (G a)) hn h turn hclos hx hcell hkind hnames hs
 rwa [show l.filterMap (fun a=>some (G a))=l.map G from congrFun List.filterMap_eq_map l] at this
theorem zFc(n:Nat)(g:Nat→Option PyData)(hn:n≤1000)(h:Ev c c.env ps nx iter (.r k) nx₁)(hk:nth nx₁ k=zEs 0 (n:Nat) 1)(turn:∀i,i<n→∀(c':Cx fn d nx₁.length) (C:Addr),CompAt c c' C [(x,.d (.int (i:Nat)))]→EltS c' (compEnvC sc cl C c.env) ps nx₁ elt ifs (g i))(hclos:autoParam (closureFor sc c.env=pure cl) T0R)(hx:autoParam (sc.names.lookup x=some .local) T0R)(hcell:autoParam (∀y∈sc.names,y.2≠.cell) T0D)(hkind:autoParam (sc.kind = .function) T0R)(hnames:autoParam (∀y∈sc.names,y.2 = .local→sc.names.lookup y.1=some .local) T0D)(hs:autoParam (∀x,foldedSetIterable iter c.env x=pure x) T0I)(hsw:autoParam (swapsWith (.ListComp elt [⟨.Name x px,iter,ifs,0⟩] sc lpos) (some (.Name y py)) spos.line c.env=pure true) T0R)(hy:autoParam (fn.scope.names.lookup y=some .local) T0R):
  Ex c ps nx (.Assign [.Name y py] (.ListComp elt [⟨.Name x px,iter,ifs,0⟩] sc lpos) spos) ((y,.d (.list (accN g n)))::ps) nx₁:=
 zGi g rfl (le_trans hn (by decide)) h (SrcS.range hk (zCj n hn) (zDs n)) (fun i hi c' C h=>turn i hi c' C (by rw [show (0:Int)+(i:Nat)*1=(i:Nat) by omega] at h;exact h)) hclos hx hcell hkind hnames hs hsw hy
theorem Ev.compS(cs:List Nat)(g:Nat→Option PyData)(hn:cs.length≤100000)(ha:(txt cs).cps.all (· < 128)=true)(h:Ev c E ps nx iter (.d (.str (txt cs))) nx₁)(turn:∀a∈cs,∀(c':Cx fn d nx₁.length) (C:Addr),CompAt c c' C [(x,.d (.str (txt [a])))]→EltS c' (compEnvC sc cl C E) ps nx₁ elt ifs (g a))(hclos:autoParam (closureFor sc E=pure cl) T0R)(hx:autoParam (sc.names.lookup x=some .local) T0R)(hcell:autoParam (∀y∈sc.names,y.2≠.cell) T0D)(hkind:autoParam (sc.kind = .function) T0R)(hnames:autoParam (∀y∈sc.names,y.2 = .local→sc.names.lookup y.1=some .local) T0D)(hs:autoParam (∀x,foldedSetIterable iter E x=pure x) T0I):
  Ev c E ps nx (.ListComp elt [⟨.Name x px,iter,ifs,0⟩] sc lpos) (.d (.list (cs.filterMap g))) nx₁:=by
 refine Ev.comp (fun i=>cs[i]?.bind g) (n:=cs.length) (zFb cs g) hn h (SrcS.str ha) (fun i hi c' C h=>?_) hclos hx hcell hkind hnames hs
 have e:=getElem?_eq_getElem hi
 have e2:(txt cs).cps.getD i 0=cs[i]:=by
  rw [Array.getD_eq_getD_getElem?]
  show ((cs.toArray)[i]?).getD 0=_
  rw [List.getElem?_toArray,e]
  rfl
 rw [e2] at h
 rw [e]
 exact turn _ (getElem_mem hi) c' C h
theorem Ev.ltr{i:Expr}{a kk:Nat}(h:Ev c E ps nx i (.d (.int (a:Nat))) nx₁)(ha:a<7)(hs:autoParam (∀z u,subscripted i false (.str (.ofString "Cabdefg") z) (.int a u)=operate [.str (.ofString "Cabdefg") z,.int a u] (getItem (.str (.ofString "Cabdefg") z) (.int a u))) zKr):Ev c E ps nx (.Subscript (.Constant (.str (.ofString "Cabdefg")) kk px) i pos) (.d (.str (Mine.ltr a))) nx₁:=
 Ev.sub .str h (zD2 _ ha▸SubS.text (zEq ha) (by (exact natCast_nonneg _)) (zN4 ha) hs)
end
noncomputable abbrev pN(r:List Nat):List PyData:=r.map fun x=>.int (x:Nat)
theorem zQ5(r:List Nat):pints (natI r)=pN r:=map_map ..
noncomputable abbrev D9(f:Nat→Nat)(g:zA0)(r:List SO):List SO:=O9 celO celO celO celO celO (cD (.list (zDc (rings f)))) (cD (.str g)) (cD (.list (zDd f))) celO r
noncomputable abbrev rgsN(f:Nat→Nat):zA0×SV:=(.ofString "rings",.d (.list (zE3 (rings f))))
noncomputable abbrev zDr(l:List zA0):PyData:=.list (l.map .str)
theorem zR4(a b:List zA0):zDr (a++b) = .list (a.map .str++b.map .str):=congrArg PyData.list (map_append ..)
section
variable {fa:Addr}{cd:Value}{c:Cx (zMu fa cd) 40 11}{Q:Flow→Shared→Prop}{rest:List Stmt}{bs:List (List Stmt)}{f:Nat→Nat}{g e sg:zA0}{kh k:Nat}
theorem yCb(hC:LawC c)(hf:∀x,x<7→f x<7)(k:J c Q (rgsN f::setN e sg kh) (D9 f g []) (rest::bs)):J c Q (rgsN f::setN e sg kh) (S9 f g []) ((lwSt 7::rest)::bs):=by
 conv=>arg 5;arg 1;arg 1;whnf
 have hl:=zC0 f
 refine J.seq (Ex.asg (Ev.compM (rings f) (fun r=>.list (pints (natI r))) zRj (by (exact le_trans (by assumption) (le_of_ble_eq_true rfl))) (.loc rfl) fun r hr c' C h=>?_) (StoreS.cel hC (k:=5))) k
 have h7:=zAu hf hr
 refine .one (Ev.compM r (fun x=>.int (x:Nat)) (fun k=>.str (ltr k)) (by lia) (Ev.to (Ev.cloc h rfl) (congrArg (fun l=>SV.d (.list l)) (zQ5 r))) fun x hx c'' C' h'=>?_) ⟨rfl,rfl,rfl,rfl⟩
 exact .one (Ev.ltr (Ev.cloc h' rfl) (h7.2 x hx)) ⟨rfl,rfl,rfl,rfl⟩
theorem yCc(hC:LawC c)(k:J c Q ((.ofString "rows",.d (zDr (zFw kh)))::rgsN f::setN e sg kh) (D9 f g []) (rest::bs)):J c Q (rgsN f::setN e sg kh) (D9 f g []) ((lwSt 8::rest)::bs):=by
 conv=>arg 5;arg 1;arg 1;whnf
 refine J.seq (Ex.assign ?_) k
 by_cases h:(0:Int)<kh
 ·rw [zFw,if_pos h]
  exact Ev.ifb (EvB.cmp (.loc rfl) .int .gtI) (decide_eq_true h) (Ev.listD (xs:=[_]) (.cons .str .nil))
 ·rw [zFw,if_neg h]
  exact Ev.ifn (EvB.cmp (.loc rfl) .int .gtI) (decide_eq_false h) (Ev.listD (xs:=[]) .nil)
theorem zLs(q:List Nat)(z:Nat):zAo (zD3 (q++[z]))=q.map (fun k=>Str.ofString " " ++ ltr k)++[Str.ofString " " ++ ltr z ++ .ofString ","]:=by
 unfold zAo
 rw [zD3,map_append,List.map_singleton,List.dropLast_concat,List.getLastD_concat,map_map]
 rfl
theorem zQa(q:List Nat)(z:Nat):((zAo (zD3 (q++[z]))).map (·.length)).sum+(zAo (zD3 (q++[z]))).length*(Str.ofString "").length≤2*q.length+3:=by
 rw [zLs,show (Str.ofString "").length=0 by decide,Nat.mul_zero,map_append,List.sum_append]
 have:((q.map fun k=>Str.ofString " " ++ ltr k).map (·.length)).sum=2*q.length:=by
  induction q with
  |nil=>rfl
  |cons a r ih=>
   rw [map_cons,map_cons,sum_cons,ih,Str.length_append,show (Str.ofString " ").length=1 by decide,show (ltr a).length=1 from rfl,length_cons]
   lia
 rw [this,List.map_singleton,List.sum_singleton,Str.length_append,Str.length_append,show (Str.ofString " ").length=1 by decide,show (Str.ofString ",").length=1 by decide,show (ltr z).length=1 from rfl]
 exact le_refl _
noncomputable abbrev rwN(f:Nat→Nat)(e sg:zA0)(kh i:Nat):List (zA0×SV):=(.ofString "rows",.d (zDr (zAx sg kh ((zBl (rings f)).take i))))::rgsN f::setN e sg kh
theorem yCd(hC:LawC c)(hf:∀x,x<7→f x<7)(k:J c Q (rwN f e sg kh (rings f).length) (D9 f g []) (rest::bs)):J c Q ((.ofString "rows",.d (zDr (zFw kh)))::rgsN f::setN e sg kh) (D9 f g []) ((lwSt 9::rest)::bs):=by
 conv=>arg 5;arg 1;arg 1;whnf
 have hl:=zC0 f
 have hrl:(zDc (rings f)).length=(rings f).length:=length_map _
 refine J.forList (X:=Unit) (y:=zDc (rings f)) (fun _ _=>True) (fun i _=>rwN f e sg kh i) (fun _ _=>D9 f g []) () trivial (.cel hC) ⟨?_,rfl,rfl,rfl,rfl⟩ ?turn fun _ _=>J.pop (by rw [hrl];exact k)
 ·rw [show rwN f e sg kh 0=(.ofString "rows",.d (zDr (zFw kh)))::rgsN f::setN e sg kh by rw [rwN,List.take_zero,zAx,map_nil,List.flatten_nil,append_nil]]
  rfl
 intro i _ hi _ c' Q₁ sb q
 rw [hrl] at hi
 have hx:=getElem?_eq_getElem hi
 have hr:=getElem_mem hi
 generalize (rings f)[i]=r at hx hr
 have hC':=hC.sub sb
 have h7:=zAu hf hr
 obtain ⟨kk,hkk,R⟩:=zA8 hf hr
 obtain ⟨p,z,rfl⟩:∃p z,r=p++[z]:=⟨r.dropLast,r.getLast R.ne,(List.dropLast_concat_getLast R.ne).symm⟩
 have hpl:p.length≤7:=by have:=h7.1;rw [length_append] at this;(exact le_of_lt (by assumption))
 rw [show (zDc (rings f)).getD i .none = .list (p.map (fun k=>.str (ltr k))++[.str (ltr z)]) by rw [getD_eq_getElem?_getD,getElem?_map,hx];show zRj (p++[z])=_;rw [zRj,map_append];rfl]
 have hpd:zDq (p.map (fun k=>PyData.str (ltr k))++[.str (ltr z)]) none (some (-1))=p.map fun k=>.str (ltr k):=by rw [zBf,List.dropLast_concat]
 have hsz:(Str.ofString " ").length=1:=by decide
 have hsz2:(Str.ofString ",").length=1:=by decide
 have hlt:∀x,(ltr x).length=1:=fun _=>rfl
 have hx2:(zBl (rings f))[i]? = some (zD3 (p++[z])):=by rw [getElem?_map,hx];rfl
 have e1:=zKn (sg:=sg) (kh:=(kh:Int)) hx2
 have hrt:(zAx sg (kh:Int) ((zBl (rings f)).take i)).length≤1000:=zNa (fun y hy=>by obtain ⟨w,hw,rfl⟩:=mem_map.mp (mem_of_mem_take hy);rw [length_map];exact (zAu hf hw).1) (by rw [length_take,length_map];lia)
 have hpn:(zAo (zD3 (p++[z]))).length=p.length+1:=by rw [zKj (by simp),length_map,length_append];rfl
 refine J.seq (Ex.assign (Ev.to (v':=.d (zDr (zAo (zD3 (p++[z]))))) (Ev.bin (Ev.compM p (fun k=>.str (ltr k)) (fun k=>.str (Str.ofString " " ++ ltr k)) (by (exact le_trans (by assumption) (le_of_ble_eq_true rfl))) (Ev.to (Ev.sliceL (.loc rfl) rfl .none (.some .m1) (by rw [length_append,length_map];show _+1≤_;(exact lt_of_le_of_lt (by assumption) (le_of_ble_eq_true rfl)))) (congrArg (fun l=>SV.d (.list l)) hpd)) ?elt) (Ev.listD (xs:=[_]) (.cons (Ev.bin (Ev.bin .str (Ev.sub (.loc rfl) .m1 (SubS.last (l:=p.map fun k=>.str (ltr k)) (y:=.str (ltr z)) rfl (by rw [length_map];(exact le_trans (by assumption) (le_of_ble_eq_true rfl))))) (BinS.addT (by rw [hsz,hlt,sizeLine_eq];decide))) .str (BinS.addT (by rw [Str.length_append,hsz,hsz2,hlt,sizeLine_eq];decide))) .nil)) (BinS.addL rfl rfl (by rw [length_map];show _+1≤_;(exact lt_of_le_of_lt (by assumption) (le_of_ble_eq_true rfl))))) (by rw [zLs,zDr,map_append,map_map];rfl))) ?_
 case elt=>exact fun a ha c'' C h=>.one (Ev.bin .str (Ev.cloc h rfl) (BinS.addT (by rw [hsz,hlt,sizeLine_eq];decide))) ⟨rfl,rfl,rfl,rfl⟩
 refine J.seq (Ex.assign (nx':=D9 f g []) (v:=.d (zDr (zAx sg kh ((zBl (rings f)).take (i+1))))) ?val) (J.pop (J.next q () trivial ⟨rfl,rfl,rfl,rfl,rfl⟩))
 rw [e1,zR4]
 by_cases hs:sg = .ofString " ,"
 ·rw [zEk,if_pos hs]
  exact Ev.ifb (EvB.cmp (.loc rfl) .str .eqT) (by rw [hs];exact beq_self_eq_true _) (Ev.bin (.loc rfl) (.loc rfl) (BinS.addL rfl rfl (by rw [length_map,length_map];lia)))
 ·rw [zEk,if_neg hs]
  exact Ev.ifn (EvB.cmp (.loc rfl) .str .eqT) (beq_eq_false_iff_ne.mpr hs) (Ev.bin (.loc rfl) (Ev.listD (xs:=[_]) (.cons (Ev.meth .str (MethS.str PySem.F.slot_str_join PySem.F.type_str_join) (.cons (.loc rfl) .nil) (CallS.joinD (joinOk_of (le_trans (zQa p z) (by lia)))) .b) .nil)) (BinS.addL rfl rfl (by rw [length_map];show _+1≤_;(exact lt_of_le_of_lt (by assumption) (le_of_ble_eq_true rfl)))))
end
theorem zGj:∀xs:List Str,PyData.depthAll (xs.map .str)=0
 |[]=>rfl
 |x::xs=>by rw [map_cons,PyData.depthAll,zGj xs];rfl
theorem zFz{xs:List Str}(h:xs.all PyData.strOk=true):SeqAt.shaped (.list (xs.map .str))=true:=by
 simp only [SeqAt.shaped,PyData.canLay0,canLayAll_strs',h,PyData.depth,zGj,Bool.true_and]
 decide
theorem zHx:∀{es:List (Str×Nat)},(es.all fun p=>PyData.strOk p.1)=true→PyData.canLayAll0 (zCg es)=true
 |[],_=>rfl
 |p::es,h=>by
  rw [all_cons,and_eq_true] at h
  show (PyData.canLay0 (.tuple [.str p.1,.int (p.2:Nat)])&&PyData.canLayAll0 (zCg es))=true
  rw [zHx h.2]
  simp [PyData.canLay0,PyData.canLayAll0,h.1]
theorem zGk:∀es:List (Str×Nat),PyData.depthAll (zCg es)≤1
 |[]=>zero_le _
 |p::es=>by
  have:=zGk es
  show max (PyData.depth (.tuple [.str p.1,.int (p.2:Nat)])) (PyData.depthAll (zCg es))≤1
  exact Nat.max_le.mpr ⟨by simp [PyData.depth,PyData.depthAll],this⟩
theorem zKp{es:List (Str×Nat)}(h:(es.all fun p=>PyData.strOk p.1)=true):SeqAt.shaped (.list (zCg es))=true:=by
 have h1:=zGk es
 have h2:=zHx h
 unfold SeqAt.shaped
 rw [PyData.canLay0,h2,Bool.true_and]
 refine decide_eq_true ?_
 rw [PyData.depth]
 (exact lt_of_le_of_lt (by assumption) (le_of_ble_eq_true rfl))
theorem zK6(k:Nat):PyData.strOk (ltr k)=true:=by
 have:∀c∈[67,97,98,100,101,102,103],decide (c<0x110000)=true:=by decide
 unfold PyData.strOk ltr
 show (#[codeOf k].all _)=true
 simp only [List.all_toArray,all_cons,List.all_nil,Bool.and_true]
 exact this _ (zBm k)
theorem zIe:∀(c:Nat) (R:List (List Nat)),((zCp c R).all fun p=>PyData.strOk p.1)=true
 |_,[]=>rfl
 |c,r::R=>by
  rw [zCp,List.all_append,zIe (c+1) R,Bool.and_true,List.all_map,all_eq_true]
  exact fun x _=>zK6 x
theorem zPl(c:Nat):(Builtin.Str.occurrences (Str.ofString "Cabdefg") ⟨#[c]⟩ 0 (Str.ofString "Cabdefg").length 1).isEmpty = !zCn c:=by
 have h:=StrLaws.found_one (Str.ofString "Cabdefg") c
 rw [show (Str.ofString "Cabdefg").cps.toList=[67,97,98,100,101,102,103] by decide] at h
 have e:decide (c∈[67,97,98,100,101,102,103])=zCn c:=by
  unfold zCn
  rw [List.contains_eq_mem]
 rw [e] at h
 rw [←h,Bool.not_not]
theorem zN1(l:List Nat):Txt.join (Str.ofString "") (l.map fun c=>txt [c])=txt l:=by
 apply zAm
 show (Txt.join (Str.ofString "") _).cps.toList=l
 rw [zDk,map_map]
 induction l with
 |nil=>rfl
 |cons a r ih=>
  rw [map_cons,flatten_cons,ih]
  rfl
theorem zH5:∀{R:List (List Nat)} {c i:Nat} {r:List Nat},R[i]? = some r→zCp c (R.take (i+1))=zCp c (R.take i)++r.map fun x=>(ltr x,c+i)
 |[],_,_,_,h=>by simp at h
 |a::R,c,0,r,h=>by
  cases h
  simp [zCp]
 |a::R,c,i+1,r,h=>by
  have ih:=zH5 (R:=R) (c:=c+1) (i:=i) (r:=r) h
  rw [List.take_succ_cons,List.take_succ_cons,zCp,zCp,ih,append_assoc,show c+1+i=c+(i+1) by lia]
section
variable {E:Env}{fn:Fn}{d n₀:Nat}{c:Cx fn d n₀}{ps:List (zA0×SV)}{nx:List SO}{v₁ v₂:SV}
theorem CmpS.neS{l:List PyData}(h₁:RdS nx v₁ (.list l))(h₂:RdS nx v₂ (.list l))(hs:SeqAt.shaped (.list l)=true)(hl:PyData.canLayAll0 l=true):CmpS c ps nx .NotEq v₁ v₂ false:=by
 have:=CmpS.neD (c:=c) (ps:=ps) h₁ h₂ hs hs
 rwa [show (!PyData.eqv (.list l) (.list l))=false by rw [PyData.eqv,SeqAt.eqvAll_refl _ hl];rfl] at this
theorem CmpS.notinT{x y:zA0}:CmpS c ps nx .NotIn (.d (.str y)) (.d (.str x)) (Builtin.Str.occurrences x y 0 x.length 1).isEmpty:=fun z s a b O h1 h2 Q q=>by
 obtain ⟨t,rfl⟩:=DRep.str_ h1
 obtain ⟨u,rfl⟩:=DRep.str_ h2
 exact PyProof.Rows.notIn_str (by rw [Bool.not_not];exact q _ O)
end
theorem zZ2(P:Params):nsIn (kW P) mainGlobals (.ofString "_law_page")=some (some (.ref 299)):=by kernel_rfl
theorem zSk(P:Params):nsIn (kW P) mainGlobals (.ofString "_law_turned")=some (some (.ref 292)):=by kernel_rfl
theorem zZ3(P:Params):nsIn (kW P) mainGlobals (.ofString "_law_read")=some (some (.ref 306)):=by kernel_rfl
theorem yE2(P:Params):keepIn (kW P) (.ref 299)=true:=by kernel_rfl
theorem yE1(P:Params):keepIn (kW P) (.ref 292)=true:=by kernel_rfl
theorem yE3(P:Params):keepIn (kW P) (.ref 306)=true:=by kernel_rfl
theorem zTa(R:List (List Nat)):zDc R=(zBl R).map fun r=>.list (r.map .str):=by
 rw [zDc,zBl,map_map]
 exact map_congr_left fun r _=>by show PyData.list _=PyData.list _;rw [zD3,map_map];rfl
theorem zOf(l:List Nat):((l.map fun c=>txt [c]).map (·.length)).sum=l.length:=by
 induction l with
 |nil=>rfl
 |cons a r ih=>
  rw [map_cons,map_cons,sum_cons,ih,length_cons]
  show 1+_=_
  lia
theorem mem_catS{l:List Seg}{tl:List Nat}{c:Nat}(h:c∈catS l tl):(∃p∈l,c∈p.1∨c=p.2)∨c∈tl:=by
 induction l with
 |nil=>exact .inr h
 |cons p l ih=>
  have h':c∈p.1++(p.2::catS l tl):=by
   have e:catS (p::l) tl=p.1++(p.2::catS l tl):=by unfold catS;simp
   exact e▸h
  rcases mem_append.mp h' with h|h
  ·exact .inl ⟨p,.head _,.inl h⟩
  rcases mem_cons.mp h with h|h
  ·exact .inl ⟨p,.head _,.inr h⟩
  ·exact (ih h).imp (fun ⟨q,a,b⟩=>⟨q,.tail _ a,b⟩) id
theorem zWn{sg e:zA0}{kh:Int}{R:List (List Nat)}(he:EndOk e):∀c∈catS (zAi sg e kh R) [44],c<128:=fun c hc=>by
 have hE:∀c∈cl e,c<128:=by rcases he.cl with h|h<;>rw [h]<;>decide
 have h32:∀c∈[32],c<128:=by decide
 have app:∀{a b:List Nat},(∀c∈a,c<128)→(∀c∈b,c<128)→∀c∈a++b,c<128:=fun ha hb c h=>(mem_append.mp h).elim (ha c) (hb c)
 have ifE:∀{p:Prop} [Decidable p],∀c∈(if p then cl e else []),c<128:=fun {p} _=>by split;exact hE;exact fun _ h=>nomatch h
 rcases mem_catS hc with ⟨p,hp,h⟩|h
 ·have:=zE4 (pre:=[]) (P:=fun l=>∀c∈l,c<128) (app ifE h32) (List.forall_mem_cons.mpr ⟨by decide,app hE h32⟩) (app ifE h32) p hp
  rcases h with h|h
  ·exact this.1 c h
  ·obtain ⟨k,e⟩:=this.2
   rw [h,e]
   exact (show ∀c∈[67,97,98,100,101,102,103],c<128 by decide) _ (zBm k)
 ·rw [mem_singleton.mp h];decide
noncomputable abbrev pgC(sg e:zA0)(kh:Nat)(f:Nat→Nat):List Nat:=catS (zAi sg e (kh:Int) (rings f)) [44]
noncomputable abbrev yCs(sg:zA0)(kh:Nat)(f:Nat→Nat):List zA0:=zAx sg kh (zBl (rings f))
noncomputable abbrev yCi(f:Nat→Nat)(e sg:zA0)(kh:Nat):List (zA0×SV):=[(.ofString "page",.d (.str (txt (pgC sg e kh f)))),(.ofString "rows",.d (zDr (yCs sg kh f))),rgsN f,(.ofString "end",.d (.str e))]
noncomputable abbrev yAw(f:Nat→Nat):PyData:=.list (zCg (zCp 0 (rings f)))
noncomputable abbrev rdL(f:Nat→Nat):List (zA0×SV):=[(.ofString "read",.d (yAw f)),rgsN f]
theorem zWp{sg e:zA0}{kh:Nat}{f:Nat→Nat}(he:EndOk e):(pgC sg e kh f).filter (fun c=>!zCn c)=zBo (zAi sg e (kh:Int) (rings f))++[44]:=zQ6 he
theorem zQc{sg e:zA0}{kh:Nat}{f:Nat→Nat}(hf:∀x,x<7→f x<7)(he:EndOk e):(pgC sg e kh f).length≤400:=zT5 he (zC0 f) fun r hr=>(zAu hf hr).1
theorem zIw(cs:List Nat):(cs.filterMap fun a=>if (!zCn a)=true then some (PyData.str (txt [a])) else none)=((cs.filter fun c=>!zCn c).map fun c=>txt [c]).map .str:=by
 induction cs with
 |nil=>rfl
 |cons a r ih=>
  cases h:zCn a with
  |true=>rw [List.filterMap_cons_none (by rw [h];rfl),List.filter_cons_of_neg (by rw [h];decide)];exact ih
  |false=>rw [List.filterMap_cons_some (b:=.str (txt [a])) (by rw [h];rfl),List.filter_cons_of_pos (by rw [h];rfl),map_cons,map_cons,ih]
theorem range_getD{α β:Type}(L:List α)(d:α)(F:α→β):(List.range L.length).map (fun j=>F (L.getD j d))=L.map F:=by
 refine ext_getElem? fun i=>?_
 rw [getElem?_map,getElem?_map]
 by_cases h:i<L.length
 ·rw [getElem?_range h,getElem?_eq_getElem h,Option.map_some,Option.map_some,getD_eq_getElem?_getD,getElem?_eq_getElem h]
  rfl
 ·rw [getElem?_eq_none (by rw [length_range];exact le_of_not_lt h),getElem?_eq_none (le_of_not_lt h)]
  rfl
theorem zTm(R:List (List Nat))(i:Nat)(hi:i≤R.length):zM7 (fun i j=>.tuple [(zEj (R.getD i [])).getD j .none,.int (i:Nat)]) (fun i=>(zEj (R.getD i [])).length) i=zCg (zCp 0 (R.take i)):=by
 induction i with
 |zero=>rw [List.take_zero];rfl
 |succ i ih=>
  have h:R[i]? = some (R.getD i []):=by rw [getD_eq_getElem?_getD,getElem?_eq_getElem hi];rfl
  rw [zM7,ih (Nat.le_of_succ_le hi),zH5 h,zCg,zCg,map_append,map_map,zero_add,range_getD _ _ (fun y=>PyData.tuple [y,.int (i:Nat)]),map_map]
  rfl
section
variable {fa:Addr}{cd:Value}{c:Cx (zMu fa cd) 40 11}{Q:Flow→Shared→Prop}{rest:List Stmt}{bs:List (List Stmt)}{f:Nat→Nat}{g e sg:zA0}{kh:Nat}
theorem zZi(hC:LawC c)(hf:∀x,x<7→f x<7)(he:EndOk e)(hsg:zRo sg)(hk:kh≤2)(k:J c Q (yCi f e sg kh) (D9 f g []) (rest::bs)):J c Q (rwN f e sg kh (rings f).length) (D9 f g []) ((lwSt 10::rest)::bs):=by
 conv=>arg 5;arg 1;arg 1;whnf
 have hgd:=zGt hf
 have pg:=yAo (sg:=sg) (sep:=e) (rings:=zBl (rings f)) (kh:=kh) hsg (by (exact le_trans (by assumption) (le_of_ble_eq_true rfl))) (fun h=>zI8 hf (List.map_eq_nil_iff.mp h)) (fun r hr=>⟨(hgd r hr).1,fun x hx=>⟨((hgd r hr).2.2 x hx).1,((hgd r hr).2.2 x hx).2.1⟩⟩) (fun r hr x hx=>((hgd r hr).2.2 x hx).2.2) (le_trans (zPn hf) (by decide)) (by rcases he with rfl|rfl<;>decide)
 have ht:=zLr (sg:=sg) (e:=e) (kh:=(kh:Int)) hf
 rw [←zTa,ht.1.trans ht.2] at pg
 refine J.seq (Ex.assign (Ev.call (.glob zZ2) (.cons (Ev.call (.glob zSk) (.cons (.cel hC) .nil) (CallS.con0 (zTc hf) rfl rfl) (.k yE1)) (.cons (.loc rfl) (.cons (.loc rfl) (.cons (.loc rfl) .nil)))) (CallS.con [9,10] pg rfl rfl rfl rfl rfl) (.k yE2))) (J.less ⟨?_,rfl,rfl,rfl,rfl⟩ k)
 rw [rwN,show (zBl (rings f)).take (rings f).length=zBl (rings f) from List.take_of_length_le (by rw [length_map];exact le_refl _)]
 rfl
noncomputable abbrev yCr(f:Nat→Nat)(e sg:zA0)(kh:Nat):List (zA0×SV):=(.ofString "left",.d (.str (txt (zBo (zAi sg e (kh:Int) (rings f))++[44]))))::(.ofString "read",.d (yAw f))::yCi f e sg kh
theorem zZj(hf:∀x,x<7→f x<7)(he:EndOk e)(k:J c Q (yCr f e sg kh) (D9 f g []) (rest::bs)):J c Q (yCi f e sg kh) (D9 f g []) ((lwSt 11::rest)::bs):=by
 conv=>arg 5;arg 1;arg 1;whnf
 have rd:=yAp (zWo (sg:=sg) (kh:=(kh:Int)) (R:=rings f) he) (le_trans (zQc hf he) (by decide))
 rw [zRc he fun r hr=>(zA8 hf hr).choose_spec.2.ne] at rd
 exact J.seq (Ex.asg2 (Ev.call (.glob zZ3) (.cons (.loc rfl) .nil) (CallS.con0 rd rfl rfl) (.k yE3)) .loc .loc) k
theorem zZk(hf:∀x,x<7→f x<7)(he:EndOk e)(k:J c Q (rdL f) (D9 f g []) (rest::bs)):J c Q (yCr f e sg kh) (D9 f g []) ((lwSt 12::rest)::bs):=by
 conv=>arg 5;arg 1;arg 1;whnf
 have hcl:=zQc (sg:=sg) (kh:=kh) hf he
 have ht:=(zLr (sg:=sg) (e:=e) (kh:=(kh:Int)) hf).2
 have hlt:∀c∈pgC sg e kh f,c<128:=zWn he
 refine J.iff (EvB.orF (EvB.cmp (.loc rfl) (Ev.meth (.loc rfl) (MethS.str PySem.F.slot_str_join PySem.F.type_str_join) (.cons (.loc rfl) .nil) (CallS.joinD (joinOk_of (zTb he ht hcl))) .b) .neT) (by rw [ht];exact bne_self_eq_false _)
  (EvB.orF (EvB.cmp (.loc rfl) (Ev.meth .str (MethS.str PySem.F.slot_str_join PySem.F.type_str_join) (.cons (Ev.to (Ev.compS (pgC sg e kh f) (fun a=>if (!zCn a)=true then some (.str (txt [a])) else none) (by (exact le_trans (by assumption) (le_of_ble_eq_true rfl))) (by rw [List.all_toArray];exact all_eq_true.mpr fun c hc=>decide_eq_true (hlt c hc)) (.loc rfl) fun a _ c' C h=>?elt) (congrArg (fun l=>SV.d (.list l)) (zIw _))) .nil) (CallS.joinD ?ok) .b) .neT) ?ne .orN)) rfl (J.pop (J.less ⟨rfl,rfl,rfl,rfl,rfl⟩ k))
 case elt=>exact EltS.ift (EvB.cmp (Ev.cloc h rfl) .str (by have:=CmpS.notinT (c:=c') (ps:=yCr f e sg kh) (nx:=D9 f g []) (x:=.ofString "Cabdefg") (y:=txt [a]);rw [show Builtin.Str.occurrences _ (txt [a]) _ _ _=_ from rfl,zPl] at this;exact this)) (fun _=>Ev.cloc h rfl) ⟨rfl,rfl,rfl,rfl⟩
 case ok=>
  refine joinOk_of ?_
  rw [zOf,show (Str.ofString "").length=0 by decide,Nat.mul_zero]
  exact le_trans (List.length_filter_le _ _) (le_trans hcl (by decide))
 case ne=>rw [zN1,zWp he];exact bne_self_eq_false _
theorem zZl(hC:LawC c)(hf:∀x,x<7→f x<7)(k:J c Q (rdL f) (D9 f g []) (rest::bs)):J c Q (rdL f) (D9 f g []) ((lwSt 13::rest)::bs):=by
 conv=>arg 5;arg 1;arg 1;whnf
 have hl:=zC0 f
 have hrl:(zDc (rings f)).length=(rings f).length:=length_map _
 have hr7:∀i,(zEj ((rings f).getD i [])).length≤7:=fun i=>by
  rw [length_map,getD_eq_getElem?_getD]
  cases h:(rings f)[i]? with
  |none=>exact zero_le _
  |some r=>exact (zAu hf (mem_of_getElem? h)).1
 have ei:∀i:Nat,(0:Int)+(i:Nat)*1=(i:Nat):=fun i=>by lia
 have ho:=zTm (rings f) (rings f).length (le_refl _)
 rw [take_length] at ho
 refine J.iff (EvB.cmp (.loc rfl) (Ev.comp2 (n:=(rings f).length) (V₁:=fun i j=>(zEj ((rings f).getD i [])).getD j .none) (v₁:=fun i=>.d (zRj ((rings f).getD i []))) _ ho (by (exact le_trans (by assumption) (le_of_ble_eq_true rfl))) (fun i _=>le_trans (hr7 i) (by decide)) (Ev.call (.built zAr zAq (by decide)) (.cons (Ev.call (.built zD9 zD8 (by decide)) (.cons (.cel hC) .nil) (CallS.lenD (by lia)) .b) .nil) .range1 .t) (SrcS.range rfl (zCj _ (by lia)) (by rw [hrl];exact zDs _)) ?h2 (fun _ _ _=>SrcS.list) ?turn rfl) (CmpS.neS rfl rfl (zKp (zIe 0 _)) (zHx (zIe 0 _)))) rfl (J.pop (J.less ⟨rfl,rfl,rfl,rfl,rfl⟩ k))
 case h2=>
  intro i hi c' C h
  rw [ei] at h
  have hx:(zDc (rings f))[i]? = some (zRj ((rings f).getD i [])):=by rw [getElem?_map,getD_eq_getElem?_getD,getElem?_eq_getElem hi];rfl
  exact Ev.sub (.ccel (hC.comp h) h.L) (Ev.cloc h rfl) (SubS.itemD (by lia) hx)
 case turn=>
  intro i j hi hj c' C h
  rw [ei] at h
  exact .one (Ev.tuple (xs:=[_,_]) (.cons (Ev.cloc h rfl) (.cons (Ev.cloc h rfl) .nil))) ⟨rfl,rfl,rfl,rfl⟩
end
section
variable {E:Env}{fn:Fn}{d n₀:Nat}{c:Cx fn d n₀}{ps:List (zA0×SV)}{nx nx₁ nx':List SO}{z:Wd}{s:Shared}{e iter elt:Expr}{pos px py tp spos:Pos}{v:SV}{x y:zA0}{k kk n:Nat}{sc:Scope}{cl:List (zA0×Addr)}{lpos:Pos}{ifs:List Expr}{α:Type}{RR Z:List (Addr×Obj)}{as:List Addr}
theorem zO7{V:Nat→PyData}{a b:Nat→PyData}{I D C:Addr}{hl:as.length=nx.length}(hV:∀i,i<n→V i = .tuple [a i,b i])(hC:E.locals=C)(hx:E.kindOf x=some .local)(hy:E.kindOf y=some .local)(hp:(E.scope.kind == .class || (E.scope.kind == .module&&E.locals != E.globals))=false)(hIC:I≠C)(hDC:D≠C)(hRR:∀q∈RR,q.1≠C):
  zM6 c ps nx RR Z hl E (.Tuple [.Name x px,.Name y py] kk tp) yD5 V [] (fun i=>[(y,.d (b i)),(x,.d (a i))]) n I D C:=fun i oI oC ys z s v Q hi ⟨hc,l,j,hd⟩ r O hn k=>by
 rw [hV i hi] at r
 obtain ⟨t,vs,rfl,hz,hr⟩:=DRep.tuple_ r
 refine wpAny_letOwnedTupleGo_listiter ⟨oI,(O.atR (.head _)).1,hc,hd⟩ ?_
 obtain ⟨v1,_,rfl,r1,hr⟩:=hr.cons_
 obtain ⟨v2,_,rfl,r2,hr⟩:=hr.cons_
 cases hr
 refine O.same fun m news F N hZ g=>?_
 refine unpackN_ F N ⟨_,(N _ (hZ _ hz)).1,rfl,_,rfl⟩ rfl rfl rfl fun h' F' N'=>?_
 refine assignInOrder_cons (zHb hC hx hp hIC hDC hRR (g h' s.toks F' N') hn (sv:=.d (a i)) r1 fun s₂ oC₂ O₂ n₂=>?_)
 exact assignInOrder_cons (zHb hC hy hp hIC hDC hRR O₂ n₂ (sv:=.d (b i)) r2 fun s₃ oC₃ O₃ n₃=>assignInOrder_nil (k s₃ oC₃ O₃ n₃))
theorem Ev.compP(l:List α)(A B G:α→PyData)(hn:l.length≤100000)(h:Ev c E ps nx iter (.d (.list (l.map fun a=>.tuple [A a,B a]))) nx₁)(turn:∀a∈l,∀(c':Cx fn d nx₁.length) (C:Addr),CompAt c c' C [(y,.d (B a)),(x,.d (A a))]→EltS c' (compEnvC sc cl C E) ps nx₁ elt [] (some (G a)))(hclos:autoParam (closureFor sc E=pure cl) T0R)(hx:autoParam (sc.names.lookup x=some .local) T0R)(hy:autoParam (sc.names.lookup y=some .local) T0R)(hcell:autoParam (∀y∈sc.names,y.2≠.cell) T0D)(hkind:autoParam (sc.kind = .function) T0R)(hnames:autoParam (∀y∈sc.names,y.2 = .local→sc.names.lookup y.1=some .local) T0D)(hs:autoParam (∀x,foldedSetIterable iter E x=pure x) T0I):
  Ev c E ps nx (.ListComp elt [⟨.Tuple [.Name x px,.Name y py] kk tp,iter,[],0⟩] sc lpos) (.d (.list (l.map G))) nx₁:=by
 have hl:(l.map fun a=>PyData.tuple [A a,B a]).length=l.length:=length_map _
 have ho:=zFb l fun a=>some (G a)
 rw [show l.filterMap (fun a=>some (G a))=l.map G from congrFun List.filterMap_eq_map l] at ho
 rw [←hl] at hn ho
 refine (show l.map G=accN _ _ from ho.symm)▸Ev.compG (step:=zNg elt (.Tuple [.Name x px,.Name y py] kk tp) iter [] sc lpos cl E) (accN fun i=>l[i]?.bind fun a=>some (G a)) (fun _ _ _=>rfl) h SrcG.list rfl (zDw (tg:=.Tuple [.Name x px,.Name y py] kk tp) (nm:=fun i=>[(y,.d ((l[i]?.map B).getD .none)),(x,.d ((l[i]?.map A).getD .none))]) _ hn fun i hi c' C h=>?_) hclos hcell hkind hnames (fun _ _ _ _ _ _ a b r=>zO7 (fun i hi=>?_) rfl (lookup_relabel_local hx) (lookup_relabel_local hy) (zEf hkind) a b r) hs
 ·rw [hl] at hi
  have e:=getElem?_eq_getElem hi
  rw [e] at h
  rw [e]
  exact turn _ (getElem_mem hi) c' C h
 ·rw [hl] at hi
  rw [getD_eq_getElem?_getD,getElem?_map,getElem?_eq_getElem hi]
  rfl
theorem On.pushR{R:List (Addr×Obj)}{n:Nat}{hl:as.length=n}{C D:Addr}{oC oD:Obj}{so:SO}(O:On (c.cmp ((C,oC)::(D,oD)::R) Z as n hl) ps nx z s)(ho:ORep c.w.params ⟨z.as++[D],z.Z⟩ so D oD)(hR:∀q∈(C,oC)::R,q.1≠D):On (c.cmp ((C,oC)::R) Z as n hl) ps (nx++[so]) ⟨z.as++[D],z.Z⟩ s:=by
 induction O with
 |@mk hh t gs m as' os Z' F K N O D' G a0 Z0=>
  have le:Wd.Le ⟨as',Z'⟩ ⟨as'++[D],Z'⟩:=⟨⟨[D],rfl⟩,fun _ h=>h⟩
  have up:∀q∈(C,oC)::R,q∈(C,oC)::(D,oD)::R:=fun q hq=>by
   rcases mem_cons.mp hq with rfl|hq
   ·exact .head _
   ·exact .tail _ (.tail _ hq)
  have a0':as'.take n=as:=a0
  have hnl:n≤as'.length:=by rw [←hl,←a0',length_take];exact Nat.min_le_right _ _
  have hD:(D,oD)∈(C,oC)::(D,oD)::R:=.tail _ (.head _)
  refine .mk (c:=c.cmp ((C,oC)::R) Z as n hl) (objs:=os++[oD]) F (fun y sv e=>let ⟨v,a,b⟩:=K y sv e;⟨v,a,b.mono le⟩) (fun q hq=>?_) ((O.mono le).append (.cons ho .nil)) ⟨nodup_append.mpr ⟨D'.nd,nodup_cons.mpr ⟨List.not_mem_nil,.nil⟩,fun a ha b hb q=>?_⟩,fun a ha q hq=>?_,fun a ha q hq=>?_,fun p hp q hq=>D'.zr p hp q (up q hq)⟩ G ?_ Z0
  ·rw [zM5 (by rw [O.len.1,O.len.2])] at hq
   rcases mem_append.mp hq with hq|hq
   ·rcases mem_append.mp hq with hq|hq
    ·exact N q (mem_append_left _ hq)
    ·rw [mem_singleton.mp hq];exact N _ (mem_append_right _ (mem_append_right _ hD))
   rcases mem_append.mp hq with hq|hq
   ·exact N q (mem_append_right _ (mem_append_left _ hq))
   ·exact N q (mem_append_right _ (mem_append_right _ (up q hq)))
  ·rw [mem_singleton.mp hb] at q
   exact D'.ar a ha _ hD q.symm
  ·rcases mem_append.mp ha with ha|ha
   ·exact D'.az a ha q hq
   ·rw [mem_singleton.mp ha];exact D'.zr q hq _ hD
  ·rcases mem_append.mp ha with ha|ha
   ·exact D'.ar a ha q (up q hq)
   ·rw [mem_singleton.mp ha];exact hR q hq
  ·show (as'++[D]).take n=as
   rw [List.take_append_of_le_length hnl]
   exact a0'
theorem Ev.compRH(n:Nat)(g:Nat→Option PyData)(hn:n≤1000)(h:Ev c E ps nx iter (.r k) nx₁)(hk:nth nx₁ k=zEs 0 (n:Nat) 1)(turn:∀i,i<n→∀(c':Cx fn d nx₁.length) (C:Addr),CompAt c c' C [(x,.d (.int (i:Nat)))]→EltS c' (compEnvC sc cl C E) ps nx₁ elt ifs (g i))(hclos:autoParam (closureFor sc E=pure cl) T0R)(hx:autoParam (sc.names.lookup x=some .local) T0R)(hcell:autoParam (∀y∈sc.names,y.2≠.cell) T0D)(hkind:autoParam (sc.kind = .function) T0R)(hnames:autoParam (∀y∈sc.names,y.2 = .local→sc.names.lookup y.1=some .local) T0D)(hs:autoParam (∀x,foldedSetIterable iter E x=pure x) T0I):
  Ev c E ps nx (.ListComp elt [⟨.Name x px,iter,ifs,0⟩] sc lpos) (.r nx₁.length) (nx₁++[.lst (accN g n)]):=fun z s O Q q=>by
 rw [eval_ListComp]
 refine zOl (step:=zNg elt (.Name x px) iter ifs sc lpos cl E) (accN g) (fun _ _ _=>rfl) h (SrcS.range hk (zCj n hn) (zDs n)) rfl (zDw g (le_trans hn (by decide)) fun i hi c' C h=>turn i hi c' C (by rw [show (0:Int)+(i:Nat)*1=(i:Nat) by lia] at h;exact h)) hclos hcell hkind hnames (fun _ _ _ _ _ _ a b r=>zCr rfl (lookup_relabel_local hx) (zEf hkind) a b r) hs O ?_
 rintro C D oC ys Z as hl z₄ s₄ O₄ hDC hR hz ha hn ⟨m,hm⟩ r₄ l₄
 refine ⟨m,hm.ns (O₄.atR (.head _)).1,fun h'' hs''=>?_⟩
 have le:Wd.Le z₄ ⟨z₄.as++[D],z₄.Z⟩:=⟨⟨[D],rfl⟩,fun _ h=>h⟩
 have O₅:=O₄.pushR (so:=.lst (accN g n)) ⟨ys,ys.length,rfl,r₄.mono le.2⟩ fun q hq=>by
  rcases mem_cons.mp hq with rfl|hq
  ·exact Ne.symm hDC
  ·exact (hR q hq).2
 refine q _ _ _ (l₄.trans le) (On.dropR (hl:=hl) (h':=h'') (tk:=s₄.toks) O₅ (fun b o e=>hs''.extBut b o e) (fun q hq=>(hR q hq).1) hz ha hn) ⟨D,?_,rfl⟩
 show (z₄.as++[D])[nx₁.length]? = some D
 rw [←O₄.lenA,getElem?_append_right (le_refl _),sub_self]
 rfl
end
section
variable {fn:Fn}{d n₀:Nat}{c:Cx fn d n₀}{E:Env}{ps:List (zA0×SV)}{nx:List SO}{v:SV}
theorem LstS.here{z:Wd}{s:Shared}{a:Value}{l:List PyData}(hk:LstS nx v l)(O:On c ps nx z s)(r:SRep z v a):∃A vs,a = .ref A∧s.heap.IsList A vs.toArray∧DRepL z.Z l vs:=by
 refine O.growZD fun m news F N hZ ho _=>?_
 obtain ⟨A,vs,n,rfl,hm,rv⟩:=hk.at (c:=c) r hZ ho
 exact ⟨A,vs,rfl,⟨_,(N _ hm).1,rfl,n,rfl⟩,rv⟩
theorem MethS.lstL{l:List PyData}{name:zA0}{id:String}(hk:LstS nx v l)(slot:Slot "list" name id)(hty:typeOf (.builtin id)=pure (.type "method_descriptor")):MethS c ps nx v name (.builtin id) [v]:=fun z s a O r pl Q q=>by
 refine O.growZD fun m news F N hZ ho _=>?_
 obtain ⟨A,vs,n,rfl,hm,rv⟩:=hk.at (c:=c) r hZ ho
 exact zUp N hm slot hty (q s _ O (.cons r .nil))
theorem zP6{r:List Nat}{x:Nat}(h:x∈r):(natI r).idxOf (x:Int)=r.idxOf x:=by
 induction r with
 |nil=>cases h
 |cons a r ih=>
  unfold natI at ih ⊢
  rw [map_cons,List.idxOf_cons,List.idxOf_cons]
  by_cases e:a=x
  ·subst e;simp
  ·have h1:((a:Int)==(x:Int))=false:=by rw [beq_eq_false_iff_ne];exact fun q=>e (Int.ofNat.inj q)
   have h2:(a==x)=false:=by rw [beq_eq_false_iff_ne];exact e
   rw [h1,h2,ih ((mem_cons.mp h).resolve_left fun q=>e q.symm)]
theorem zW6{r:List Nat}(hl:r.length≤7)(h:∀x∈r,x<7):PyData.layable0 (.list ((natI r).map .int))=true:=by
 have h1:∀r:List Nat,PyData.canLayAll0 ((natI r).map .int)=true:=by
  intro r
  induction r with
  |nil=>rfl
  |cons a r ih=>exact ih
 have h2:∀r:List Nat,PyData.depthAll ((natI r).map .int)=0:=by
  intro r
  induction r with
  |nil=>rfl
  |cons a r ih=>
   show max (PyData.depth (.int (a:Nat))) (PyData.depthAll ((natI r).map .int))=0
   rw [ih]
   rfl
 have h4:∀x,x<7→PyData.weight (.int (x:Nat))≤3:=by decide
 have h3:∀r:List Nat,(∀x∈r,x<7)→PyData.weightAll ((natI r).map .int)≤4*r.length:=by
  intro r
  induction r with
  |nil=>intro _;exact le_refl _
  |cons a r ih=>
   intro h
   have a1:=ih fun x hx=>h x (.tail _ hx)
   have a2:=h4 a (h a (.head _))
   show PyData.weight (.int (a:Nat))+1+PyData.weightAll ((natI r).map .int)≤_
   rw [length_cons]
   lia
 have a3:=h3 r h
 unfold PyData.layable0
 rw [PyData.canLay0,h1,PyData.depth,h2,PyData.weight,Bool.true_and,and_eq_true]
 exact ⟨by decide,decide_eq_true (by lia)⟩
noncomputable def tx0(g:Str)(wd:List Nat)(k:Nat):Str:=if k∈wd then zA1 g (wd.drop (wd.idxOf k)) else .ofString ""
theorem zJd(g:Str):∀{r:List Nat},r≠[]→Txt.join (.ofString ".") (zD3 r) ++ .ofString "." ++ g=zA1 g r
 |[],h=>absurd rfl h
 |[x],_=>by
  have:Txt.join (.ofString ".") (zD3 [x])=ltr x:=zAm (by rw [show zD3 [x]=[ltr x] from rfl,zCz];simp [tailJ])
  rw [this]
  simp [zA1]
 |x::y::t,_=>by
  have ih:=zJd g (r:=y::t) (by simp)
  have:Txt.join (.ofString ".") (zD3 (x::y::t))=ltr x ++ .ofString "." ++ Txt.join (.ofString ".") (zD3 (y::t)):=zAm (by
   rw [show zD3 (x::y::t)=ltr x::ltr y::zD3 t from rfl,show zD3 (y::t)=ltr y::zD3 t from rfl,zB7,zB7,zCz,zCz]
   simp [tailJ])
  rw [this,zC5,zC5,←zC5 (Txt.join _ _),ih]
  simp [zA1,zC5]
theorem zSu(r:List Nat):((zD3 r).map (·.length)).sum=r.length:=by
 induction r with
 |nil=>rfl
 |cons a r ih=>
  show 1+((zD3 r).map (·.length)).sum=_
  rw [ih,length_cons]
  lia
theorem zG6:∀(c:Nat) (R:List (List Nat)),(zCp c R).map (·.1)=zD3 R.flatten
 |_,[]=>rfl
 |c,r::R=>by
  rw [zCp,map_append,zG6 (c+1) R,flatten_cons]
  show map _ (map _ r)++map ltr R.flatten=map ltr (r++R.flatten)
  rw [map_append,map_map]
  rfl
theorem zIz{R:List (List Nat)}{i:Nat}{r:List Nat}(h:R[i]? = some r):(R.take (i+1)).flatten=(R.take i).flatten++r:=by
 rw [take_add_one,h,List.flatten_append]
 simp
theorem CallS.indexI{r:List Nat}{x:Nat}(hk:LstS nx v (pints (natI r)))(hl:r.length≤7)(h7:∀x∈r,x<7)(hx:x∈r):CallS c ps nx (.builtin "list.index") [v,.d (.int (x:Nat))] [] (.d (.int (r.idxOf x:Nat))) nx:=fun z s xs O hx' Q q=>by
 obtain ⟨_,_,rfl,r1,h2⟩:=hx'.cons_
 obtain ⟨_,_,rfl,r2,h3⟩:=h2.cons_
 cases h3.nil_
 obtain ⟨t,rfl⟩:=DRep.int_ r2
 obtain ⟨A,vs,rfl,ha,rv⟩:=hk.here O r1
 exact index_list_ints ha (zD0 rv) (zW6 hl h7) (List.mem_map_of_mem hx) (by rw [zP6 hx];exact q z _ _ (.refl _) (O.toks _) .int)
end
theorem zQd{α:Type}(l:List α)(i:Nat)(h:i≤l.length):zDq l (some (i:Int)) none=l.drop i:=by
 unfold zDq
 have e1:kms_lo (some (i:Int)) l.length=i:=by
  show (if (i:Int)<0 then l.length-(-(i:Int)).toNat else min (i:Int).toNat l.length)=i
  rw [if_neg (Int.not_lt.mpr (natCast_nonneg i)),toNat_natCast,min_eq_left h]
 have e2:kms_hi none l.length=l.length:=rfl
 rw [e1,e2]
 exact List.take_of_length_le (by rw [length_drop];exact le_refl _)
theorem zTr(R:List (List Nat))(i:Nat)(hi:i≤R.length):zM7 (fun i j=>(pints (natI (R.getD i []))).getD j .none) (fun i=>(pints (natI (R.getD i []))).length) i=pints (natI (R.take i).flatten):=by
 induction i with
 |zero=>rw [List.take_zero];rfl
 |succ i ih=>
  have h:R[i]? = some (R.getD i []):=by rw [getD_eq_getElem?_getD,getElem?_eq_getElem hi];rfl
  rw [zM7,ih (Nat.le_of_succ_le hi),zIz h,range_getD _ _ (fun y=>y),List.map_id',show natI ((R.take i).flatten++R.getD i [])=natI (R.take i).flatten++natI (R.getD i []) from map_append,show ∀a b:List Int,pints (a++b)=pints a++pints b from fun _ _=>map_append]
theorem zVv(P:Params):nsIn (kW P) mainGlobals (.ofString "_law_named")=some (some (.ref 313)):=by kernel_rfl
theorem yE4(P:Params):keepIn (kW P) (.ref 313)=true:=by kernel_rfl
noncomputable abbrev namedO(f:Nat→Nat)(g:zA0):SO:=namO (fun _=>True) (nmT f g) 100
noncomputable abbrev N9(f:Nat→Nat)(g:zA0)(t wd:SO)(r:List SO):List SO:=O9 celO celO t wd (cR 11) (cD (.list (zDc (rings f)))) (cD (.str g)) (cD (.list (zDd f))) celO (namedO f g::r)
noncomputable abbrev wdO(f:Nat→Nat):SO:=cD (.list (pints (natI (word f))))
section
variable {fa:Addr}{cd:Value}{c:Cx (zMu fa cd) 40 11}{Q:Flow→Shared→Prop}{rest:List Stmt}{bs:List (List Stmt)}{f:Nat→Nat}{g:zA0}
theorem zBv(hg:zA6 g):g.length=5:=by rcases hg with rfl|rfl<;>decide
theorem zZm(hC:LawC c)(hf:∀x,x<7→f x<7)(hg:zA6 g)(k:J c Q [rgsN f] (N9 f g celO celO []) (rest::bs)):J c Q (rdL f) (D9 f g []) ((lwSt 14::rest)::bs):=by
 conv=>arg 5;arg 1;arg 1;whnf
 have hl:=zG6 0 (rings f)
 have hlen:(zCp 0 (rings f)).length≤7:=by
  have:=congrArg List.length hl
  rw [length_map,length_map] at this
  rw [this]
  exact zA3 (zA5 hf) (zA9 hf)
 refine J.seq (Ex.asg (nx₁:=D9 f g [namedO f g]) (Ev.call (.glob zVv) (.cons (Ev.to (Ev.compP (zCp 0 (rings f)) (fun p=>.str p.1) (fun p=>.int (p.2:Nat)) (fun p=>.str p.1) (by (exact le_trans (by assumption) (le_of_ble_eq_true rfl))) (.loc rfl) fun p _ c' C h=>.one (Ev.cloc h rfl) ⟨rfl,rfl,rfl,rfl⟩) ?eq) (.cons (.cel hC) (.cons (.cel hC) .nil))) (CallS.con [] (zWz hf (by rw [zBv hg];decide)) rfl rfl rfl rfl rfl) (.k yE4)) (StoreS.cel hC (k:=4))) (J.less ⟨rfl,rfl,rfl,rfl,rfl⟩ k)
 rw [show (zCp 0 (rings f)).map (fun p=>PyData.str p.1)=((zCp 0 (rings f)).map (·.1)).map .str by rw [map_map];rfl,hl,zD3,map_map]
 rfl
theorem zZn(hC:LawC c)(hf:∀x,x<7→f x<7)(k:J c Q [rgsN f] (N9 f g celO (wdO f) []) (rest::bs)):J c Q [rgsN f] (N9 f g celO celO []) ((lwSt 15::rest)::bs):=by
 conv=>arg 5;arg 1;arg 1;whnf
 have hl:=zC0 f
 have hrl:(zE3 (rings f)).length=(rings f).length:=length_map _
 have hr7:∀i,(pints (natI ((rings f).getD i []))).length≤7:=fun i=>by
  rw [zT6,getD_eq_getElem?_getD]
  cases h:(rings f)[i]? with
  |none=>exact zero_le _
  |some r=>exact (zAu hf (mem_of_getElem? h)).1
 have ho:=zTr (rings f) (rings f).length (le_refl _)
 rw [take_length,←hrl] at ho
 refine J.seq (Ex.asg (Ev.comp2 (V₁:=fun i j=>(pints (natI ((rings f).getD i []))).getD j .none) (v₁:=fun i=>.d (.list (pints (natI ((rings f).getD i []))))) _ ho (by lia) (fun i _=>le_trans (hr7 i) (by decide)) (.loc rfl) SrcS.list ?h2 (fun _ _ _=>SrcS.list) ?turn rfl) (StoreS.cel hC (k:=3))) k
 case h2=>
  intro i hi c' C h
  rw [hrl] at hi
  have hx:(zE3 (rings f)).getD i .none = .list (pints (natI ((rings f).getD i []))):=by rw [getD_eq_getElem?_getD,getElem?_map,getD_eq_getElem?_getD,getElem?_eq_getElem hi];rfl
  rw [hx] at h
  exact Ev.cloc h rfl
 case turn=>
  intro i j hi hj c' C h
  exact .one (Ev.cloc h rfl) ⟨rfl,rfl,rfl,rfl⟩
noncomputable abbrev txO(f:Nat→Nat)(T:Nat→zA0):SO:=.lst ((List.range 7).map fun i=>.str (T i))
theorem zZo(hC:LawC c)(hf:∀x,x<7→f x<7)(hg:zA6 g)(k:J c Q [rgsN f] (N9 f g (cR 12) (wdO f) [txO f (tx0 g (word f))]) (rest::bs)):J c Q [rgsN f] (N9 f g celO (wdO f) []) ((lwSt 16::rest)::bs):=by
 conv=>arg 5;arg 1;arg 1;whnf
 have hw7:=zA3 (zA5 hf) (zA9 hf)
 have hwl:=zT6 (word f)
 have hgl:=zBv hg
 have hd1:(Str.ofString ".").length=1:=by decide
 refine J.seq (Ex.asg (Ev.compRH 7 (fun i=>some (.str (tx0 g (word f) i))) (by decide) (Ev.call (.built zAr zAq (by decide)) (.cons .int .nil) .range1 .t) rfl fun i hi c' C h=>?_) (StoreS.cel hC (k:=2))) ?next
 case next=>
  rw [zBr (f:=fun i=>.str (tx0 g (word f) i)) fun _ _=>rfl]
  exact J.sel [0,1,2,3,4,5,6,7,8,9,10,11,13] (nx':=N9 f g (cR 12) (wdO f) [txO f (tx0 g (word f))]) ⟨rfl,rfl,rfl,rfl⟩ k
 have hC':=hC.comp h
 have hix:=List.idxOf_le_length (a:=i) (l:=word f)
 by_cases hin:i∈word f
 ·have hr:(word f).drop ((word f).idxOf i)≠[]:=fun e=>by
   have:=List.idxOf_lt_length_iff.mpr hin
   exact absurd (List.drop_eq_nil_iff.mp e) (Nat.not_le.mpr this)
  have hpk:zDq (pints (natI (word f))) (some ((word f).idxOf i:Nat)) none=pN ((word f).drop ((word f).idxOf i)):=by
   rw [zQd _ _ (by rw [hwl];exact hix),zQ5,pN,pN,map_drop]
  have hdl:((word f).drop ((word f).idxOf i)).length≤7:=by rw [length_drop];lia
  have e:tx0 g (word f) i=Txt.join (.ofString ".") (zD3 ((word f).drop ((word f).idxOf i))) ++ .ofString "." ++ g:=by rw [tx0,if_pos hin,zJd g hr]
  have hsm:((zD3 ((word f).drop ((word f).idxOf i))).map (·.length)).sum+(zD3 ((word f).drop ((word f).idxOf i))).length*(Str.ofString ".").length≤14:=by rw [zSu,length_map,hd1];lia
  have hj:=zHv hsm
  rw [e]
  refine .one (Ev.ifb (EvB.cmp (Ev.cloc h rfl) (.ccel hC' h.L (k:=3) (hv:=rfl)) (.inI rfl)) (decide_eq_true hin) (Ev.bin (Ev.bin (Ev.meth .str (MethS.str PySem.F.slot_str_join PySem.F.type_str_join) (.cons (Ev.to (Ev.compM ((word f).drop ((word f).idxOf i)) (fun x=>.int (x:Nat)) (fun k=>.str (ltr k)) (by (exact le_trans (by assumption) (le_of_ble_eq_true rfl))) (Ev.to (Ev.sliceL (.ccel hC' h.L (k:=3) (hv:=rfl)) rfl (.some (Ev.meth (.ccel hC' h.L (k:=3) (hv:=rfl)) (MethS.lstL rfl PySem.F.slot_list_index PySem.F.type_list_index) (.cons (Ev.cloc h rfl) .nil) (CallS.indexI rfl hw7 (zA9 hf) hin) .b)) .none (by lia)) (congrArg (fun l=>SV.d (.list l)) hpk)) fun x hx c'' C' h'=>.one (Ev.ltr (Ev.cloc h' rfl) (zA9 hf x (List.mem_of_mem_drop hx))) ⟨rfl,rfl,rfl,rfl⟩) (congrArg (fun l=>SV.d (.list l)) ?eq)) .nil) (CallS.joinD (joinOk_of (le_trans hsm (by decide)))) .b) .str (BinS.addT ?_)) (.ccel hC' h.L) (BinS.addT ?_))) ⟨rfl,rfl,rfl,rfl⟩
  case eq=>rw [zD3,map_map];rfl
  ·rw [sizeLine_eq];(exact lt_of_le_of_lt (by assumption) (le_of_ble_eq_true rfl))
  ·rw [Str.length_append,sizeLine_eq];lia
 ·rw [tx0,if_neg hin]
  exact .one (Ev.ifn (EvB.cmp (Ev.cloc h rfl) (.ccel hC' h.L (k:=3) (hv:=rfl)) (.inI rfl)) (decide_eq_false hin) .str) ⟨rfl,rfl,rfl,rfl⟩
end
structure PathTo(f:Nat→Nat)(k:Nat)(p:List Nat):Prop where
 ne:p≠[]
 at':∀i x,p[i]? = some x→x=it f i k
 out:∀i,i+1<p.length→it f i k∉word f
theorem PathTo.last{f:Nat→Nat}{k:Nat}{p:List Nat}(h:PathTo f k p):lst p=it f (p.length-1) k:=h.at' _ _ (zCv h.ne)
theorem PathTo.start(f:Nat→Nat)(k:Nat):PathTo f k [k]:=⟨by simp,fun i x h=>by
 induction i with
 |zero=>cases h;rfl
 |succ i=>simp at h,fun i h=>by simp at h⟩
theorem PathTo.step{f:Nat→Nat}{k:Nat}{p:List Nat}(h:PathTo f k p)(hn:lst p∉word f):PathTo f k (p++[f (lst p)]):=by
 have hl:=h.last
 have hp:=length_pos_iff.mpr h.ne
 refine ⟨by simp,fun i x hi=>?_,fun i hi=>?_⟩
 ·by_cases c:i<p.length
  ·rw [getElem?_append_left c] at hi
   exact h.at' i x hi
  ·rw [getElem?_append_right (by (exact le_of_not_lt (by assumption)))] at hi
   have:i=p.length:=by
    cases e:i-p.length with
    |zero=>lia
    |succ q=>rw [e] at hi;simp at hi
   subst this
   rw [sub_self] at hi
   cases hi
   rw [hl,←zFm f (p.length-1) k,show p.length-1+1=p.length by lia]
 ·rw [length_append,length_singleton] at hi
  by_cases c:i+1<p.length
  ·exact h.out i c
  ·rw [show i=p.length-1 by lia,←hl]
   exact hn
theorem PathTo.len{f:Nat→Nat}(hf:∀x,x<7→f x<7){k:Nat}(hk:k<7){p:List Nat}(h:PathTo f k p):p.length≤7:=by
 obtain ⟨j,hj,hw⟩:=zC1 hf hk
 exact le_of_not_lt fun c=>h.out j (by (exact lt_of_le_of_lt (by assumption) (by assumption))) hw
theorem PathTo.lt{f:Nat→Nat}(hf:∀x,x<7→f x<7){k:Nat}(hk:k<7){p:List Nat}(h:PathTo f k p):∀x∈p,x<7:=fun x hx=>by
 obtain ⟨i,hi⟩:=getElem?_of_mem hx
 rw [h.at' i x hi]
 exact zJc hf i hk
theorem zGy{f:Nat→Nat}(hf:∀x,x<7→f x<7):∀{p:List Nat} {k:Nat},k<7→PathTo f k p→lst p∈word f→trail f (word f) k=p.dropLast++(word f).drop ((word f).idxOf (lst p))
 |[],_,_,h,_=>absurd rfl h.ne
 |[x],k,_,h,hw=>by
  have:x=k:=h.at' 0 x rfl
  subst this
  exact zCi hw
 |x::y::t,k,hk,h,hw=>by
  have e:x=k:=h.at' 0 x rfl
  subst e
  have h0:x∉word f:=h.out 0 (by simp)
  have h':PathTo f (f x) (y::t):=⟨by simp,fun i z hz=>by
   rw [h.at' (i+1) z hz]
   rfl,fun i hi=>by
   have:=h.out (i+1) (by simp at hi ⊢;omega)
   exact this⟩
  rw [zCx hf hk h0,zGy hf (hf x hk) h' (by rw [←zHy (a:=x)];exact hw),zHy]
  rfl
noncomputable def txk(f:Nat→Nat)(g:Str)(k x:Nat):Str:=if x<k then nmT f g x else tx0 g (word f) x
theorem zTp{f:Nat→Nat}{g:Str}{k x:Nat}(h:x∈word f):txk f g k x=zA1 g ((word f).drop ((word f).idxOf x)):=by
 unfold txk tx0
 rw [if_pos h]
 unfold nmT
 rw [zCi h]
 split<;>rfl
theorem zXd{f:Nat→Nat}{g:Str}{k:Nat}(hk:k<7):((List.range 7).map (txk f g k)).set k (nmT f g k)=(List.range 7).map (txk f g (k+1)):=by
 apply ext_getElem?
 intro i
 rw [List.getElem?_set,getElem?_map,getElem?_map]
 by_cases h:i<7
 ·rw [getElem?_range h]
  by_cases e:k=i
  ·subst e
   simp [txk,hk]
  ·rw [if_neg e]
   have:(i<k+1)↔i<k:=by lia
   simp [txk,this]
 ·rw [getElem?_eq_none (by rw [length_range];(exact le_of_not_lt (by assumption)))]
  by_cases e:k=i
  ·omega
  ·rw [if_neg e]
   rfl
noncomputable def zBu(r:List Nat):List Str:=r.map fun x=>ltr x ++ .ofString "."
theorem zFh(g:Str):∀(r s:List Nat),Txt.join (.ofString "") (zBu r)++zA1 g s=zA1 g (r++s)
 |[],s=>zAm (by
  rw [zB7]
  show (Txt.join (Str.ofString "") []).cps.toList++_=_
  rw [zDk]
  rfl)
 |x::r,s=>by
  have ih:=zFh g r s
  have e:Txt.join (.ofString "") (zBu (x::r))=ltr x ++ .ofString "." ++ Txt.join (.ofString "") (zBu r):=zAm (by
   have h1:=zDk (zBu (x::r))
   have h2:=zDk (zBu r)
   show (Txt.join (Str.ofString "") (zBu (x::r))).cps.toList=_
   rw [h1,zB7]
   show _=_++(Txt.join (Str.ofString "") (zBu r)).cps.toList
   rw [h2]
   rfl)
  rw [e,zC5,ih]
  rfl
theorem zMr(r:List Nat):((zBu r).map (·.length)).sum=2*r.length:=by
 have hd1:(Str.ofString ".").length=1:=by decide
 induction r with
 |nil=>rfl
 |cons a r ih=>
  show (ltr a++Str.ofString ".").length+((zBu r).map (·.length)).sum=_
  rw [ih,Str.length_append,hd1,length_cons]
  show 1+1+_=_
  lia
theorem zGr:∀i,i<7→(Str.ofString "Cabdefg").cps[i]? = some (codeOf i):=by decide
theorem letters_size:(Str.ofString "Cabdefg").cps.size=7:=by decide
theorem zUq{x y:Str}(hx:PyData.strOk x=true)(hy:PyData.strOk y=true):PyData.strOk (x++y)=true:=by
 unfold PyData.strOk at *
 rw [Str.cps_append,Array.all_append,hx,hy]
 rfl
theorem zPs{g:Str}(hg:zA6 g):∀l,PyData.strOk (zA1 g l)=true
 |[]=>by rcases hg with rfl|rfl<;>kernel_rfl
 |k::r=>zUq (zUq (zK6 k) (by kernel_rfl)) (zPs hg r)
section
variable {E:Env}{fn:Fn}{d n₀:Nat}{c:Cx fn d n₀}{ps:List (zA0×SV)}{nx nx₁:List SO}{iter elt:Expr}{px:Pos}{x:zA0}{sc:Scope}{cl:List (zA0×Addr)}{lpos:Pos}
theorem Ev.compA{y:zA0}(o:Nat→Nat)(G:Nat→PyData)(hy:∀i,i<7→y.cps[i]? = some (codeOf (o i)))(hsz:y.cps.size=7)(h:Ev c E ps nx iter (.d (.str y)) nx₁)(turn:∀i,i<7→∀(c':Cx fn d nx₁.length) (C:Addr),CompAt c c' C [(x,.d (.str (Mine.ltr (o i))))]→EltS c' (compEnvC sc cl C E) ps nx₁ elt [] (some (G i)))(hclos:autoParam (closureFor sc E=pure cl) T0R)(hx:autoParam (sc.names.lookup x=some .local) T0R)(hcell:autoParam (∀y∈sc.names,y.2≠.cell) T0D)(hkind:autoParam (sc.kind = .function) T0R)(hnames:autoParam (∀y∈sc.names,y.2 = .local→sc.names.lookup y.1=some .local) T0D)(hs:autoParam (∀x,foldedSetIterable iter E x=pure x) T0I):
  Ev c E ps nx (.ListComp elt [⟨.Name x px,iter,[],0⟩] sc lpos) (.d (.list ((List.range 7).map G))) nx₁:=by
 have ha:y.cps.all (· < 128)=true:=by
  rw [Array.all_eq_true]
  intro i hi
  have e:=hy i (hsz▸hi)
  rw [Array.getElem?_eq_getElem hi] at e
  rw [Option.some.inj e]
  exact decide_eq_true ((show ∀c∈[67,97,98,100,101,102,103],c<128 by decide) _ (zBm _))
 refine Ev.comp (fun i=>some (G i)) (n:=y.cps.size) (by rw [hsz];exact zBr fun _ _=>rfl) (by rw [hsz];decide) h (SrcS.str ha) (fun i hi c' C h=>?_) hclos hx hcell hkind hnames hs
 rw [hsz] at hi
 have e:y.cps.getD i 0=codeOf (o i):=by rw [Array.getD_eq_getD_getElem?,hy i hi];rfl
 rw [e] at h
 exact turn i hi c' C h
end
theorem zQb(p:List Nat):zDq (pints (natI p)) none (some (-1))=pN p.dropLast:=by
 rw [zBf,zQ5,pN,pN,←List.map_dropLast]
noncomputable abbrev wlN(f:Nat→Nat)(k:Nat):List (zA0×SV):=[(.ofString "path",.r 13),(.ofString "k",.d (.int (k:Nat))),rgsN f]
noncomputable abbrev wlT(f:Nat→Nat)(g:zA0)(k:Nat)(p:List Nat):List SO:=N9 f g (cR 12) (wdO f) [txO f (txk f g k),.lst (pints (natI p))]
noncomputable def lwClimb:Stmt:=(zC8 (lwSt 17)).getD 1 default
section
variable {fa:Addr}{cd:Value}{c:Cx (zMu fa cd) 40 11}{Q:Flow→Shared→Prop}{rest:List Stmt}{bs:List (List Stmt)}{f:Nat→Nat}{g:zA0}{k:Nat}
theorem zKf{p1 p2 p3 p4:Pos}{kk:Nat}{p:List Nat}(hp:p≠[])(hl:p.length≤7):Ev c c.env (wlN f k) (wlT f g k p) (.Subscript (.Name (.ofString "path") p1) (.UnaryOp .USub (.Constant (.int 1) kk p2) p3) p4) (.d (.int (lst p:Nat))) (wlT f g k p):=by
 obtain ⟨l,e,hll⟩:=zD6 hp
 exact Ev.sub (.loc rfl) .m1 (SubS.last (l:=l) (y:=.int (lst p:Nat)) (congrArg SO.lst e) (by lia))
theorem zSw(hC:LawC c)(hf:∀x,x<7→f x<7)(hk:k<7)(done:∀p,PathTo f k p→lst p∈word f→J c Q (wlN f k) (wlT f g k p) (rest::bs)):J c Q (wlN f k) (wlT f g k [k]) ((lwClimb::rest)::bs):=by
 conv=>arg 5;arg 1;arg 1;whnf
 refine J.while (X:=List Nat) (fun p=>8-p.length) (PathTo f k) (fun _=>wlN f k) (fun p=>wlT f g k p) [k] (PathTo.start f k) ⟨rfl,rfl,rfl,rfl,rfl⟩ fun p hP=>?_
 have hl:=hP.len hf hk
 have h7:=hP.lt hf hk _ (zAs hP.ne)
 refine .mk (EvB.cmp (zKf hP.ne hl) (.cel hC (k:=3) (hv:=rfl)) (.notinI rfl)) (fun hb Q₁ q=>?_) fun hb=>?_
 ·have hn:lst p∉word f:=fun c=>by rw [decide_eq_true c] at hb;cases hb
  refine J.seq (Ex.expr (Ev.meth (.loc rfl) (.append rfl) (.cons (Ev.sub (.cel hC (k:=7) (hv:=rfl)) (zKf hP.ne hl) (SubS.itemD (le_of_ble_eq_true rfl) (zCk h7))) .nil) (CallS.append rfl (by rw [zT6];(exact le_trans (by assumption) (le_of_ble_eq_true rfl)))) .b)) (J.pop ?_)
  refine J.next q (p++[f (lst p)]) ⟨hP.step hn,by rw [length_append,length_singleton];lia⟩ ⟨rfl,?_,rfl,rfl,rfl⟩
  show N9 f g (cR 12) (wdO f) [_,SO.lst (pints (natI p)++[.int (f (lst p):Nat)])]=N9 f g (cR 12) (wdO f) [_,SO.lst (pints (natI (p++[f (lst p)])))]
  rw [show natI (p++[f (lst p)])=natI p++[(f (lst p):Int)] from map_append,show pints (natI p++[(f (lst p):Int)])=pints (natI p)++[.int (f (lst p):Nat)] from map_append]
 ·exact done p hP (Classical.byContradiction fun c=>by rw [decide_eq_false c] at hb;cases hb)
theorem zZp(hC:LawC c)(hf:∀x,x<7→f x<7)(hg:zA6 g)(k:J c Q [rgsN f] (N9 f g (cR 12) (wdO f) [txO f (nmT f g)]) (rest::bs)):J c Q [rgsN f] (N9 f g (cR 12) (wdO f) [txO f (tx0 g (word f))]) ((lwSt 17::rest)::bs):=by
 conv=>arg 5;arg 1;arg 1;whnf
 have hgl:=zBv hg
 have hw7:=zA3 (zA5 hf) (zA9 hf)
 have hd1:(Str.ofString ".").length=1:=by decide
 have hd0:(Str.ofString "").length=0:=by decide
 have e7:(List.range 7).map (fun i=>PyData.str (txk f g 7 i))=(List.range 7).map fun i=>.str (nmT f g i):=map_congr_left fun i hi=>by rw [txk,if_pos (mem_range.mp hi)]
 have e0:(List.range 7).map (fun i=>PyData.str (tx0 g (word f) i))=(List.range 7).map fun i=>.str (txk f g 0 i):=map_congr_left fun i hi=>by rw [txk,if_neg (not_lt_zero i)]
 refine J.forRange (X:=Unit) 7 (fun _ _=>True) (fun _ _=>[rgsN f]) (fun k _=>N9 f g (cR 12) (wdO f) [txO f (txk f g k)]) () trivial (Ev.call (.built zAr zAq (by decide)) (.cons .int .nil) .range1 .t) rfl zAp zAw ⟨rfl,by rw [txO,txO,←e0];rfl,rfl,rfl,rfl⟩ ?turn fun _ _=>J.pop (by rw [txO,e7];exact k)
 intro k _ hk _ c' Q₁ sb q
 rw [show (0:Int)+(k:Nat)*1=(k:Nat) by lia]
 have hC':=hC.sub sb
 refine J.seq (Ex.assign (Ev.list (xs:=[_]) (.cons (.loc rfl) .nil))) ?_
 refine zSw hC' hf hk fun p hP hin=>?_
 have hl:=hP.len hf hk
 have h7:=hP.lt hf hk _ (zAs hP.ne)
 have hpt:=zGy hf hk hP hin
 have hts:((zBu p.dropLast).map (·.length)).sum+(zBu p.dropLast).length*(Str.ofString "").length≤14:=by rw [zMr,hd0,List.length_dropLast];lia
 have hj:=zHv hts
 have hit:((List.range 7).map fun i=>PyData.str (txk f g k i))[lst p]? = some (.str (zA1 g ((word f).drop ((word f).idxOf (lst p))))):=by
  rw [getElem?_map,getElem?_range h7,←zTp (k:=k) hin]
  rfl
 have hst:((List.range 7).map fun i=>PyData.str (txk f g k i)).set k (.str (nmT f g k))=(List.range 7).map fun i=>.str (txk f g (k+1) i):=by
  have:=congrArg (map PyData.str) (zXd (f:=f) (g:=g) hk)
  rw [List.map_set,map_map,map_map] at this
  exact this
 have hnm:nmT f g k=Txt.join (.ofString "") (zBu p.dropLast)++zA1 g ((word f).drop ((word f).idxOf (lst p))):=by rw [zFh,nmT,hpt]
 rw [hnm] at hst
 refine J.seq (Ex.setL (nx₁:=wlT f g k p) (k:=12) (j:=k) (l:=(List.range 7).map fun i=>PyData.str (txk f g k i)) (Ev.bin (Ev.meth .str (MethS.str PySem.F.slot_str_join PySem.F.type_str_join) (.cons (Ev.to (Ev.compM p.dropLast (fun x=>.int (x:Nat)) (fun x=>.str (ltr x ++ .ofString ".")) (by rw [List.length_dropLast];omega) (Ev.to (Ev.sliceL (.loc rfl) rfl .none (.some .m1) (by rw [zT6];(exact le_trans (by assumption) (le_of_ble_eq_true rfl)))) (congrArg (fun l=>SV.d (.list l)) (zQb p))) fun x hx c'' C h=>.one (Ev.bin (Ev.ltr (Ev.cloc h rfl) (hP.lt hf hk x (List.dropLast_subset _ hx))) .str (BinS.addT (by rw [sizeLine_eq,hd1,show (ltr x).length=1 from rfl];decide))) ⟨rfl,rfl,rfl,rfl⟩) (congrArg (fun l=>SV.d (.list l)) ?eq)) .nil) (CallS.joinD (joinOk_of (le_trans hts (by decide)))) .b) (Ev.sub (.cel hC' (k:=2) (hv:=rfl)) (zKf hP.ne hl) (SubS.item rfl (le_of_ble_eq_true rfl) hit)) (BinS.addT ?_)) (.cel hC' (k:=2) (hv:=rfl)) (.loc rfl) rfl (by rw [length_map,length_range];exact hk) (le_of_ble_eq_true rfl)) (J.pop (J.next q () trivial ⟨rfl,?_,rfl,rfl,rfl⟩))
 case eq=>rw [zBu,map_map];rfl
 ·rw [sizeLine_eq,zAa,length_drop];lia
 ·show N9 f g (cR 12) (wdO f) [SO.lst _]=N9 f g (cR 12) (wdO f) [SO.lst _]
  rw [hst]
end
noncomputable def zEx(p:Array Nat)(xs:List Str):List Str:=p.toList.map fun i=>xs.getD i default
theorem yB0{l:List Value}(h:2≤l.length):∃v₁ v₂ r,l=v₁::v₂::r:=by
 match l,h with
 |v₁::v₂::r,_=>exact ⟨v₁,v₂,r,rfl⟩
theorem zJx{vs:List Value}{xs:List Str}(h:StrsAre vs xs):∀(l:List Nat),(∀i∈l,i<xs.length)→StrsAre (l.map fun i=>vs.getD i Value.none) (l.map fun i=>xs.getD i default)
 |[],_=>.nil
 |i::l,hl=>by
  have hi:=hl i (.head _)
  obtain ⟨t,ht⟩:=StrsAre.at h (j:=i) (getElem?_eq_getElem hi)
  rw [map_cons,map_cons,getD_eq_getElem?_getD,ht,getD_eq_getElem?_getD,getElem?_eq_getElem hi]
  exact .cons _ _ (zJx h l fun j hj=>hl j (.tail _ hj))
section
variable {prog:Program}{w:World}{A:Around}{E:Value→Shared→Prop}{s:Shared}{h₀:Heap}{L:Addr}{m:Str→Option Value}{news:List (Addr×Obj)}{a kS:Addr}{vs:List Value}{xs ks:List Str}{e1 e:Nat}{P:PySem.Fin→Shared→Prop}
def zRq(K:Nat→Nat)(N:Nat)(xs:List Str)(out:List Value):Prop:=∃p:Array Nat,Fr1 N p N∧zCq K p N∧StrsAre out (zEx p xs)
theorem yAq{K:Nat→Nat}{keys:Array Value}(F:Fr h₀ L s.heap m)(N:News h₀ L s.heap (news++[(kS,seqObj "list" keys e),(a,seqObj "list" #[] e1)]))(hka:kS≠a)(hnk:∀p∈news,p.1≠kS)(hna:∀p∈news,p.1≠a)(hv:StrsAre vs xs)(hk:StrsAre keys.toList ks)(hl:ks.length=xs.length)(h2:2≤xs.length)(h64:xs.length<64)(hK:∀i j,i<xs.length→j<xs.length→((ks.getD i default).cps.toList<(ks.getD j default).cps.toList↔K i<K j))(h:∀h' tk out c,Fr h₀ L h' m→News h₀ L h' ((a,seqObj "list" out c)::news)→zRq K xs.length xs out.toList→P (.done (.ret .none)) {s with heap:=h',toks:=tk}):
  wpAny (model prog w) A (ksk_end a false vs.toArray e1 (.ref kS) keys) P E s:=by
 have hvl:=hv.length
 have hkl:keys.size=xs.length:=by have:=hk.length;rw [Array.length_toList] at this;lia
 have hzs:(keys.zip vs.toArray).size=xs.length:=by rw [Array.size_zip,hkl,size_toArray,hvl,Nat.min_self]
 unfold ksk_end
 dsimp only
 rw [if_neg (by decide:¬(false=true)),if_neg (by rw [size_toArray];lia:¬vs.toArray.size<2),if_neg (by rw [size_toArray];omega:¬vs.toArray.size<2),if_neg (by decide:¬(false=true))]
 obtain ⟨v₁,v₂,r,er⟩:=yB0 (l:=keys.toList) (by rw [Array.length_toList];lia)
 have ek:keys=(v₁::v₂::r).toArray:=by rw [←er,Array.toArray_toList]
 rw [show keyKind' keys=pure oneType' by rw [ek];exact keyKind_strs (er▸hk)]
 refine wpAny_bind (wpAny_pure ?_)
 have it:∀i,i<xs.length→kas_item (keys.zip vs.toArray) i=(keys.toList.getD i Value.none,vs.getD i Value.none):=fun i hi=>by
  have a1:i<keys.size:=by lia
  have a2:i<vs.length:=by lia
  simp [kas_item,Array.getD,hzs,hi,a1,a2]
 have start:SortSt.mk' oneType' (keys.zip vs.toArray) #[] 7 none=kas_st oneType' (keys.zip vs.toArray) (List.toArray (List.range (keys.zip vs.toArray).size)):=by
  unfold kas_st
  rw [kas_range]
 rw [start,hzs]
 refine wpAny_bind (wpAny_mono (kas_runs (prog:=prog) (w:=w) (A:=A) (E:=E) (it:=keys.zip vs.toArray) (κ:=oneType') (n:=xs.length) (s:=s)
  (Q:=fun _ st' s'=>s'=s∧failedOf st'=none∧∃p:Array Nat,Fr1 xs.length p xs.length∧zCq K p xs.length∧arrOf st'=p.map (kas_item (keys.zip vs.toArray)))
  (G:=fun p s'=>s'=s∧Fr1 xs.length p xs.length∧zCq K p xs.length) h2 h64 (fun p' st' s' _ harr hfl hg=>⟨hg.1,hfl,p',hg.2.1,hg.2.2,harr⟩)
  (zX4 (K:=K) (fun i j C s hi hj hC=>?_) (by (exact le_of_lt (by assumption))) fun p' hF hA=>⟨rfl,hF,hA⟩)) (fun r s' hr=>?_) fun _ _ e=>e)
 ·unfold kas_cmp
  rw [it i hi,it j hj]
  obtain ⟨t,ht⟩:=StrsAre.at hk (j:=i) (y:=ks.getD i default) (by rw [getD_eq_getElem?_getD,getElem?_eq_getElem (by lia)];rfl)
  obtain ⟨u,hu⟩:=StrsAre.at hk (j:=j) (y:=ks.getD j default) (by rw [getD_eq_getElem?_getD,getElem?_eq_getElem (by lia)];rfl)
  rw [show keys.toList.getD i Value.none = .str (ks.getD i default) t by rw [getD_eq_getElem?_getD,ht];rfl,show keys.toList.getD j Value.none = .str (ks.getD j default) u by rw [getD_eq_getElem?_getD,hu];rfl]
  refine kas_lt_str ?_
  rw [show decide ((ks.getD i default).cps.toList<(ks.getD j default).cps.toList)=decide (K i<K j) from decide_eq_decide.mpr (hK i j hi hj)]
  exact hC
 ·have e':=hr.1
  subst e'
  refine an2 hr.2 ?_
  intro hfl hE
  refine ex1 hE ?_
  intro p hE
  refine an3 hE ?_
  intro hF hA harr
  rcases r with ⟨u,st'⟩
  dsimp only at hfl harr ⊢
  have nk:=N (kS,seqObj "list" keys e) (mem_append_right _ (.head _))
  have na:=N (a,seqObj "list" #[] e1) (mem_append_right _ (.tail _ (.head _)))
  have hin:∀i∈p.toList,i<xs.length:=fun i hi=>by
   obtain ⟨k,hk,e⟩:=List.mem_iff_getElem.mp hi
   rw [Array.length_toList,hF.size] at hk
   have:=hF.low k hk
   rw [zC9] at this
   rw [←e]
   simpa [hF.size,hk] using this
  have hout:((arrOf st').map (·.2)).toList=p.toList.map fun i=>vs.getD i Value.none:=by
   rw [harr,Array.toList_map,Array.toList_map,map_map]
   exact map_congr_left fun i hi=>by rw [Function.comp,it i (hin i hi)]
  have hsz:((arrOf st').map (·.2)).size=xs.length:=by rw [←Array.length_toList,hout,length_map,Array.length_toList,hF.size]
  have s1:=Heap.SameBut.update s'.heap kS (Obj.mapSeq fun _=>(#[]:Array Value))
  have na1:(s'.heap.update kS (Obj.mapSeq fun _=>(#[]:Array Value))).get? a=some (seqObj "list" #[] e1):=(s1.2 a hka.symm).trans na.1
  have s2:=Heap.SameBut.update (s'.heap.update kS (Obj.mapSeq fun _=>(#[]:Array Value))) a (Obj.mapSeq fun _=>(arrOf st').map (·.2))
  unfold ksk_tail
  dsimp only
  refine wpAny_bind (listUpdate_at nk.1 rfl ?_ (by rw [hkl,sizeLine_eq];lia) (zero_le _))
  refine wpAny_bind (wpAny_letGo ?_)
  refine wpAny_bind (seqEpoch_at na1 rfl ?_)
  refine wpAny_bind (listUpdate_at na1 rfl ?_ (zero_le _) (by rw [if_neg Bool.false_ne_true];rw [hsz,sizeLine_eq];lia))
  rw [hfl]
  rw [bne_self_eq_false,if_neg Bool.false_ne_true]
  obtain ⟨c2,hc2⟩:∃c2,((s'.heap.update kS (Obj.mapSeq fun _=>(#[]:Array Value))).update a (Obj.mapSeq fun _=>(arrOf st').map (·.2))).get? a=some (seqObj "list" ((arrOf st').map (·.2)) c2):=⟨_,get?_update_seq na1 fun _=>(arrOf st').map (·.2)⟩
  refine wpAny_pure (h _ _ ((arrOf st').map (·.2)) c2 (ksk_fr (ksk_fr F s1 nk.2.1 nk.2.2) s2 na.2.1 na.2.2) (fun q hq=>?_) ⟨p,hF,hA,?_⟩)
  ·rcases mem_cons.mp hq with rfl|hq
   ·exact ⟨hc2,na.2⟩
   ·exact ksk_news (ksk_news (fun q hq=>N q (mem_append_left _ hq)) s1 hnk) s2 hna q hq
  ·rw [hout]
   exact zJx hv _ hin
def zRp(h₀:Heap)(L:Addr)(m:Str→Option Value)(need:List (Addr×Obj))(k:Str)(s₁:Shared)(v:Value)(s₂:Shared):Prop:=∃h' tk gs t',s₂ = {s₁ with heap:=h',toks:=tk,gens:=gs}∧AllBare gs∧v = .str k t'∧Fr h₀ L h' m∧News h₀ L h' need
theorem zX2{K:Nat→Nat}{f:Value}(F:Fr h₀ L s.heap m)(N:News h₀ L s.heap (news++[(kS,seqObj "list" #[] 0),(a,seqObj "list" #[] e1)]))(hka:kS≠a)(hnk:∀p∈news,p.1≠kS)(hna:∀p∈news,p.1≠a)(hv:StrsAre vs xs)(hl:ks.length=xs.length)(h2:2≤xs.length)(h64:xs.length<64)(hK:∀i j,i<xs.length→j<xs.length→((ks.getD i default).cps.toList<(ks.getD j default).cps.toList↔K i<K j))(turn:∀(i:Nat) (v:Value) (k:Str),vs[i]? = some v→ks[i]? = some k→∀(h:Heap) (tk:Nat) (gs:Array GenState) (own:List (Addr×Obj)),AllBare gs→Fr h₀ L h m→News h₀ L h (news++own)→
   wpAny (model prog w) A (call f [v]) (zRp h₀ L m (news++own) k {s with heap:=h,toks:=tk,gens:=gs}) (fun _ _=>False) {s with heap:=h,toks:=tk,gens:=gs})(G:AllBare s.gens)(h:∀h' tk gs out c,AllBare gs→Fr h₀ L h' m→News h₀ L h' ((a,seqObj "list" out c)::news)→zRq K xs.length xs out.toList→P (.done (.ret .none)) {s with heap:=h',toks:=tk,gens:=gs}):
  wpAny (model prog w) A (ksk_rest a f false vs.toArray e1 (.ref kS)) P E s:=by
 have hvl:=hv.length
 unfold ksk_rest
 refine wpAny_bind (wpAny_rule ?_)
 first
  |rw [List.forIn_toArray]
  |(rw [←Array.forIn_toList];simp only [List.toList_toArray])
  |rw [←Array.forIn_toList]
 refine wpAny_bind (ksk_fold (fun i s'=>∃h' tk gs kA e,s' = {s with heap:=h',toks:=tk,gens:=gs}∧AllBare gs∧Fr h₀ L h' m∧News h₀ L h' (news++[(kS,seqObj "list" kA e),(a,seqObj "list" #[] e1)])∧StrsAre kA.toList (ks.take i)) vs 0 s
  ⟨s.heap,s.toks,s.gens,#[],0,rfl,G,F,N,by simpa using StrsAre.nil⟩ ?step ?done)
 case step=>
  rintro j x s' hx ⟨h',tk,gs,kA,e,rfl,G',F',N',hk⟩
  rw [zero_add] at hk ⊢
  have hj:=(List.getElem?_eq_some_iff.mp hx).1
  have hkj:ks[j]? = some (ks.getD j default):=by rw [getD_eq_getElem?_getD,getElem?_eq_getElem (by lia)];rfl
  have hz:kA.size≤xs.length:=by
   have h1:=hk.length
   rw [Array.length_toList,length_take] at h1
   lia
  refine wpAny_bind (wpAny_attempt (wpAny_mono (turn j x _ hx hkj h' tk gs _ G' F' N') (fun v s'' he=>?_) fun _ _ hF=>hF.elim))
  obtain ⟨g,tk2,gs2,t2,rfl,G2,rfl,F2,N2⟩:=he
  dsimp only
  have nk:=N2 (kS,seqObj "list" kA e) (mem_append_right _ (.head _))
  have na:=N2 (a,seqObj "list" #[] e1) (mem_append_right _ (.tail _ (.head _)))
  have s1:=Heap.SameBut.update g kS (Obj.mapSeq (·.push (.str (ks.getD j default) t2)))
  obtain ⟨c2,hc2⟩:∃c2,(g.update kS (Obj.mapSeq (·.push (.str (ks.getD j default) t2)))).get? kS=some (seqObj "list" (kA.push (.str (ks.getD j default) t2)) c2):=⟨_,get?_update_seq nk.1 (·.push (.str (ks.getD j default) t2))⟩
  refine wpAny_bind (listUpdate_at nk.1 rfl ?_ (by rw [sizeLine_eq];lia) (le_trans (Nat.le_of_eq (Array.size_push ..)) (by rw [sizeLine_eq];lia)))
  refine wpAny_pure ⟨rfl,_,_,gs2,kA.push (.str (ks.getD j default) t2),c2,rfl,G2,ksk_fr F2 s1 nk.2.1 nk.2.2,fun p hp=>?_,?_⟩
  ·rcases mem_append.mp hp with hp|hp
   ·exact ksk_news (fun q hq=>N2 q (mem_append_left _ hq)) s1 hnk p hp
   ·rcases mem_cons.mp hp with rfl|hp
    ·exact ⟨hc2,nk.2⟩
    ·rw [mem_singleton.mp hp]
     exact ⟨(s1.2 a hka.symm).trans na.1,na.2⟩
  ·rw [take_add_one,hkj,Array.toList_push]
   exact zJw hk
 case done=>
  rintro s' ⟨h',tk,gs,kA,e,rfl,G',F',N',hk⟩
  rw [List.take_of_length_le (by lia)] at hk
  have nk:=N' (kS,seqObj "list" kA e) (mem_append_right _ (.head _))
  refine wpAny_bind (listItems_at nk.1 rfl ?_)
  exact yAq F' N' hka hnk hna hv hk hl h2 h64 hK fun h' tk out c=>h h' tk gs out c G'
theorem zX3{K:Nat→Nat}{f:Value}{n:Nat}(F:Fr h₀ L s.heap m)(N:News h₀ L s.heap news)(ho:s.heap.get? a=some (seqObj "list" vs.toArray n))(haL:a≠L)(ha0:h₀.get? a=none)(hna:∀p∈news,p.1≠a)(hv:StrsAre vs xs)(hl:ks.length=xs.length)(h2:2≤xs.length)(h64:xs.length<64)(hK:∀i j,i<xs.length→j<xs.length→((ks.getD i default).cps.toList<(ks.getD j default).cps.toList↔K i<K j))(turn:∀(i:Nat) (v:Value) (k:Str),vs[i]? = some v→ks[i]? = some k→∀(h:Heap) (tk:Nat) (gs:Array GenState) (own:List (Addr×Obj)),AllBare gs→Fr h₀ L h m→News h₀ L h (news++own)→
   wpAny (model prog w) A (call f [v]) (zRp h₀ L m (news++own) k {s with heap:=h,toks:=tk,gens:=gs}) (fun _ _=>False) {s with heap:=h,toks:=tk,gens:=gs})(G:AllBare s.gens)(h:∀h' tk gs out c,AllBare gs→Fr h₀ L h' m→News h₀ L h' ((a,seqObj "list" out c)::news)→zRq K xs.length xs out.toList→P (.done (.ret .none)) {s with heap:=h',toks:=tk,gens:=gs}):
  wpAny (model prog w) A (ksk_tree a f false) P E s:=by
 have hvl:=hv.length
 have ha:a<s.heap.objs.size:=Heap.lt_size ho
 have s1:=Heap.SameBut.update s.heap a (Obj.mapSeq fun _=>(#[]:Array Value))
 obtain ⟨e1,ho1⟩:∃e1,(s.heap.update a (Obj.mapSeq fun _=>(#[]:Array Value))).get? a=some (seqObj "list" #[] e1):=⟨_,get?_update_seq ho fun _=>#[]⟩
 have F1:=ksk_fr F s1 haL ha0
 have N1:=ksk_news N s1 hna
 generalize hH:(s.heap.update a (Obj.mapSeq fun _=>(#[]:Array Value))).push (seqObj "tuple" vs.toArray 0)=H
 have hS:H.objs.size=s.heap.objs.size+1:=by rw [←hH,size_push',Heap.size_update]
 have F2:Fr h₀ L H m:=hH▸F1.push _
 have up:∀b o,(s.heap.update a (Obj.mapSeq fun _=>(#[]:Array Value))).get? b=some o→H.get? b=some o:=fun b o q=>hH▸Heap.get?_push_of_some _ q
 have hL:L<H.objs.size:=F2.ns.lt
 unfold ksk_tree
 refine wpAny_bind (listItems_at ho rfl ?_)
 refine wpAny_bind (listUpdate_at ho rfl ?_ (by rw [size_toArray,sizeLine_eq];lia) (zero_le _))
 refine wpAny_bind (seqEpoch_at ho1 rfl ?_)
 refine wpAny_bind (wpAny_newTuple ?_ (by show vs.length≤_;rw [sizeLine_eq];omega))
 refine wpAny_bind (wpAny_newList ?_ (zero_le _))
 refine wpAny_holding ?_
 show wpAny _ _ (ksk_rest a f false vs.toArray e1 (.ref ((s.heap.update a (Obj.mapSeq fun _=>(#[]:Array Value))).push (seqObj "tuple" vs.toArray 0)).objs.size)) _ _ {s with heap:=((s.heap.update a (Obj.mapSeq fun _=>(#[]:Array Value))).push (seqObj "tuple" vs.toArray 0)).push (seqObj "list" #[] 0)}
 rw [hH]
 refine zX2 (s:={s with heap:=H.push (seqObj "list" #[] 0)}) (F2.push _) (fun p hp=>?_) (by rw [hS];exact ne_of_gt (lt_succ_of_lt ha)) (fun p hp=>by rw [hS];exact ne_of_lt (lt_succ_of_lt (Heap.lt_size (N p hp).1))) hna hv hl h2 h64 hK turn G h
 rcases mem_append.mp hp with hp|hp
 ·exact ⟨Heap.get?_push_of_some _ (up _ _ (N1 p hp).1),(N1 p hp).2⟩
 ·rcases mem_cons.mp hp with rfl|hp
  ·exact ⟨Heap.get?_push_size _ rfl,ne_of_gt hL,Heap.get?_none_of_le (le_trans F.above (le_of_lt hL))⟩
  ·rw [mem_singleton.mp hp]
   exact ⟨Heap.get?_push_of_some _ (up _ _ ho1),haL,ha0⟩
theorem zQv{K:Nat→Nat}{q l:Addr}{n:Nat}{Q:Value→Shared→Prop}(F:Fr h₀ L s.heap m)(N:News h₀ L s.heap news)(hm:(l,listOf vs.toArray n)∈news)(hv:StrsAre vs xs)(hl:ks.length=xs.length)(h2:2≤xs.length)(h64:xs.length<64)(hK:∀i j,i<xs.length→j<xs.length→((ks.getD i default).cps.toList<(ks.getD j default).cps.toList↔K i<K j))(turn:∀(i:Nat) (v:Value) (k:Str),vs[i]? = some v→ks[i]? = some k→∀(h:Heap) (tk:Nat) (gs:Array GenState) (own:List (Addr×Obj)),AllBare gs→Fr h₀ L h m→News h₀ L h (news++own)→
   wpAny (model prog w) A.in1.in1 (call (.ref q) [v]) (zRp h₀ L m (news++own) k {s with heap:=h,toks:=tk,gens:=gs}) (fun _ _=>False) {s with heap:=h,toks:=tk,gens:=gs})(G:AllBare s.gens)(h:∀D h' tk gs out c,AllBare gs→Fr h₀ L h' m→News h₀ L h' ((D,listOf out.toArray c)::news)→(∀p∈news,p.1≠D)→zRq K xs.length xs out→Q (.ref D) {s with heap:=h',toks:=tk,gens:=gs}):
  wpAny (model prog w) A (call (.builtin "sorted") [.ref l] [(Str.ofString "key",.ref q)]) Q E s:=by
 have hvl:=hv.length
 have hls:s.heap.IsList l vs.toArray:=⟨_,(N _ hm).1,rfl,n,rfl⟩
 refine call_function_entry_kw kind_sorted plain_sorted entry_sorted (ksk_s1 _ _) ?_
 unfold Builtin.«sorted»
 refine wpAny_bind (m:=checkCount "sorted" 1 1 _) (wpAny_pure ?_)
 refine wpAny_bind (collect_list hls ?_ (by rw [sizeLine_eq];lia))
 refine wpAny_bind (wpAny_newList ?_ (by rw [sizeLine_eq];omega))
 generalize hH:(s.heap.push (seqObj "list" #[] 0)).update s.heap.objs.size (Obj.mapSeq (· ++ vs.toArray))=H
 have hS:H.objs.size=s.heap.objs.size+1:=by rw [←hH,Heap.size_update,size_push']
 have keep:∀b o,s.heap.get? b=some o→(H.push (seqObj "list" vs.toArray 0)).get? b=some o:=fun b o q=>by
  have hlt:=Heap.lt_size q
  refine Heap.get?_push_of_some _ ?_
  rw [←hH,Heap.get?_update_ne _ _ _ _ (ne_of_lt hlt),Heap.get?_push_ne _ _ _ (ne_of_lt hlt)]
  exact q
 have hL:L<s.heap.objs.size:=F.ns.lt
 have hD:s.heap.objs.size≤H.objs.size:=by rw [hS];exact le_succ _
 show wpAny _ _ _ _ _ {s with heap:=H.push (seqObj "list" vs.toArray 0)}
 refine wpAny_bind (wpAny_holding (wpAny_call_entry_kw slot_list_sort ⟨_,Heap.get?_push_size _ rfl,rfl⟩ entry_list_sort ?_ (ksk_l1 _ _)))
 show wpAny (model prog w) A.in1.in1 (Builtin.«list.sort» ⟨[.ref H.objs.size],[(Str.ofString "key",.ref q)]⟩) _ _ _
 rw [ksk_t1]
 refine zX3 (s:={s with heap:=H.push (seqObj "list" vs.toArray 0)}) (F.kept keep) (N.grown keep) (Heap.get?_push_size _ rfl) (ne_of_gt (lt_of_lt_of_le hL hD)) (Heap.get?_none_of_le (le_trans F.above (le_trans (le_of_lt hL) hD)))
  (fun p hp=>ne_of_lt (lt_of_lt_of_le (Heap.lt_size (N p hp).1) hD)) hv hl h2 h64 hK turn G fun h' tk gs out c G' F' N' k'=>⟨_,rfl,?_⟩
 exact wpAny_pure ⟨_,rfl,h _ h' tk gs out.toList c G' F' (by simpa using N') (fun p hp=>ne_of_lt (lt_of_lt_of_le (Heap.lt_size (N p hp).1) hD)) k'⟩
end
theorem zDp:∀i,i<7→ordB i<7:=by decide
theorem zLw:∀i,i<7→zQj (ordB i)=i:=by decide
theorem zWm:∀i,i<7→(Str.ofString "efagCbd").cps[i]? = some (codeOf (ordB i)):=by decide
theorem ordl_size:(Str.ofString "efagCbd").cps.size=7:=by decide
theorem zPc:∀k,k<7→Txt.find (.ofString "Cabdefg") ⟨#[codeOf k]⟩=(k:Nat):=by decide +kernel
noncomputable def rkB(f:Nat→Nat)(g:Str)(i:Nat):Nat:=rk (zEv f g) (ordB i)
theorem yAi{f:Nat→Nat}{g:Str}:∀i j,i<7→j<7→((zUt f g (ordB i)).cps.toList<(zUt f g (ordB j)).cps.toList↔rkB f g i<rkB f g j):=fun i j hi hj=>zWx (key:=zEv f g) (zDp i hi) (zDp j hj)
theorem zK2{f:Nat→Nat}{g:Str}{Bo:List Nat}(hB:BookAt (zEv f g) 7 Bo){p:Array Nat}(hF:Fr1 7 p 7)(hA:zCq (rkB f g) p 7):zEx p ((List.range 7).map fun i=>nmT f g (ordB i))=Bo.map (nmT f g):=by
 have hin:∀i∈p.toList,i<7:=fun i hi=>by
  obtain ⟨k,hk,e⟩:=List.mem_iff_getElem.mp hi
  rw [Array.length_toList,hF.size] at hk
  have:=hF.low k hk
  rw [zC9] at this
  rw [←e]
  simpa [hF.size,hk] using this
 have hs:((p.toList.map ordB).map (KK (zEv f g))).Pairwise (· < ·):=by
   rw [map_map,List.pairwise_iff_getElem]
   intro i j hi₀ hj₀ hij
   have hi:i<7:=by rw [length_map,Array.length_toList,hF.size] at hi₀;exact hi₀
   have hj:j<7:=by rw [length_map,Array.length_toList,hF.size] at hj₀;exact hj₀
   have hi':i<p.toList.length:=by rw [Array.length_toList,hF.size];exact hi
   have hj':j<p.toList.length:=by rw [Array.length_toList,hF.size];exact hj
   have:=hA i j hij hj
   have e1:∀k (hk:k<p.toList.length),gd p k=p.toList[k]:=fun k hk=>by
    rw [zC9,←Array.getElem?_toList,getElem?_eq_getElem hk]
    rfl
   rw [e1 i hi',e1 j hj'] at this
   have h1:=hin _ (getElem_mem hi')
   have h2:=hin _ (getElem_mem hj')
   rw [List.getElem_map,List.getElem_map]
   show rk (zEv f g) (ordB _)*7+zQj (ordB _)<rk (zEv f g) (ordB _)*7+zQj (ordB _)
   rw [zLw _ h1,zLw _ h2]
   unfold Bef rkB at this
   omega
 have hB':p.toList.map ordB=Bo:=by
  have hn:(p.toList.map ordB).Nodup:=(pairwise_map.mp hs).imp fun h e=>by rw [e] at h;exact lt_irrefl _ h
  have hl:∀x∈p.toList.map ordB,x<7:=fun x hx=>by
   obtain ⟨i,hi,rfl⟩:=mem_map.mp hx
   exact zDp i (hin i hi)
  refine hB.ext hs fun x=>⟨hl x,fun hx=>Decidable.byContradiction fun c=>?_⟩
  have:=zA3 (nodup_cons.mpr ⟨c,hn⟩) fun y hy=>(mem_cons.mp hy).elim (fun e=>e▸hx) (hl y)
  rw [length_cons,length_map,Array.length_toList,hF.size] at this
  exact absurd this (by decide)
 rw [←hB']
 unfold zEx
 rw [map_map]
 refine map_congr_left fun i hi=>?_
 rw [getD_eq_getElem?_getD,getElem?_map,getElem?_range (hin i hi)]
 rfl
theorem zIf{f:Nat→Nat}(hf:∀x,x<7→f x<7):word f≠[]:=fun e=>by
 have:=zHt hf (k:=0) (by decide)
 rw [e] at this
 cases this
theorem zT2{f:Nat→Nat}{g:Str}(hf:∀x,x<7→f x<7):nmT f g ((word f).getD 0 0)=zA1 g (word f):=by
 have hn:=zIf hf
 obtain ⟨a,r,e⟩:=List.exists_cons_of_ne_nil hn
 have hm:(word f).getD 0 0∈word f:=by rw [e];exact .head _
 unfold nmT
 rw [zCi hm]
 have:(word f).idxOf ((word f).getD 0 0)=0:=by rw [e];simp
 rw [this]
 rfl
theorem zR5{Z:List (Addr×Obj)}{xs:List zA0}{vs:List Value}(h:StrsAre vs xs):DRepL Z (xs.map .str) vs:=by
 induction h with
 |nil=>exact .nil
 |cons _ _ _ ih=>exact .cons .str ih
theorem zFi{Z:List (Addr×Obj)}{xs:List zA0}{vs:List Value}(h:DRepL Z (xs.map .str) vs):StrsAre vs xs:=by
 induction xs generalizing vs with
 |nil=>rw [h.nil_];exact .nil
 |cons x xs ih=>
  obtain ⟨v,us,rfl,r,h'⟩:=h.cons_
  obtain ⟨t,rfl⟩:=DRep.str_ r
  exact .cons _ _ (ih h')
section
variable {fn:Fn}{d n₀:Nat}{c:Cx fn (d+1) n₀}{ps:List (zA0×SV)}{nx:List SO}{z:Wd}{s:Shared}{v:SV}
theorem On.gens{c:Cx fn d n₀}(O:On c ps nx z s){gs:Array GenState}(G:AllBare gs):On c ps nx z {s with gens:=gs}:=by
 induction O with
 |mk F K N O D _ a0 Z0=>exact .mk F K N O D G a0 Z0
theorem CallS.sorted{xs ks out:List zA0}{K:Nat→Nat}{q:Addr}(hk:LstS nx v (xs.map .str))(hl:ks.length=xs.length)(h2:2≤xs.length)(h64:xs.length<64)(hK:∀i j,i<xs.length→j<xs.length→((ks.getD i default).cps.toList<(ks.getD j default).cps.toList↔K i<K j))(C:∀(i:Nat) (x k:zA0),xs[i]? = some x→ks[i]? = some k→Con 0 q [.d (.str x)] [] [] (.d (.str k)) [])(hout:∀p,Fr1 xs.length p xs.length→zCq K p xs.length→zEx p xs=out)(hd:blt 0 d=true):CallS c ps nx (.builtin "sorted") [v] [(.ofString "key",.ref q)] (.d (zDr out)) nx:=fun z s vs' O hx Q k=>by
 obtain ⟨a,_,rfl,r,h'⟩:=hx.cons_
 cases h'.nil_
 refine O.growZD fun m news F N hZ ho g=>?_
 obtain ⟨A,vs,n,rfl,hm,rv⟩:=hk.at (c:=c) r hZ ho
 have hs:=zFi rv
 have OG:=fun {gs:Array GenState} {ps nx z s} (O:On c ps nx z s) (G:AllBare gs)=>O.gens G
 have G:AllBare s.gens:=by induction O with|mk F K N O D G a0 Z0=>exact G
 have es:s=⟨s.heap,s.gens,c.s₀.drawn,s.toks,c.s₀.os⟩:=by induction O with|mk F K N O D G a0 Z0=>rfl
 have hdp:=c.hdp
 have hun:=c.hun
 let c':Cx fn d n₀:={w:=c.w,p:=c.p,loose:=c.loose,mean:=c.mean,mg:=c.mg,mb:=c.mb,dp:=c.dp,un:=c.un+1+1,L:=c.L,outer:=c.outer,A₀:=c.A₀,base:=c.base,h₀:=c.h₀,s₀:=c.s₀,as₀:=c.as₀,Z₀:=c.Z₀,R:=c.R,B:=c.B,X:=c.X,T:=c.T,hdp:=by (exact le_of_lt (by assumption)),hun:=by lia,hn:=c.hn}
 refine zQv F N hm hs hl h2 h64 hK (fun i v k hv hk' h tk gs own G' F' N'=>?_) G fun D h' tk gs out' n' G' F' N' fresh ⟨p,hF,hA,hs'⟩=>?_
 ·obtain ⟨y,ty,rfl,hy⟩:=zNi hs hv
  have:=C i y k hy hk' fn d n₀ c' ⟨[],[]⟩ s [] [] (news++own) h m tk gs [.str y ty] (zRp c.h₀ c.L m (news++own) k ⟨h,gs,c.s₀.drawn,tk,c.s₀.os⟩) (blt_eq.mp hd) F' N' .nil ⟨.nil,(fun _ h=>nomatch h),(fun _ h=>nomatch h),fun _ h=>nomatch h⟩ G' (.cons .str .nil) fun as' os' Z' h' tk' gs' x F₁ N₁ O₁ D₁ G₁ l₁ r₁=>?_
  ·rw [es]
   exact this
  ·obtain ⟨t',rfl⟩:=DRep.str_ r₁
   exact ⟨h',tk',gs',t',rfl,G₁,rfl,F₁,fun p hp=>N₁ p (mem_append_right _ (mem_append_right _ hp))⟩
 ·rw [hout p hF hA] at hs'
  refine g D (listOf out'.toArray n') h' tk F' N' fresh fun z' le hz O'=>?_
  exact k z' _ _ le (O'.gens G') (.list hz (zR5 hs'))
end
theorem Ev.callKB{fn:Fn}{d n₀:Nat}{c:Cx fn d n₀}{E:Env}{ps:List (zA0×SV)}{nx nx₁ nx':List SO}{v:SV}{pos:Pos}{id:String}{g:Value}{us:List SV}{func a ke:Expr}{es:List Expr}{kn:zA0}{kp:Pos}(hf:Ev c E ps nx func (.v (.builtin id)) nx)(h:EvL c E ps nx (a::es) us nx₁)(hg:∀nx,Ev c E ps nx ke (.v g) nx)(hc:CallS c ps nx₁ (.builtin id) us [(kn,g)] v nx')(hp:autoParam ((a::es).all zDo=true) T0R)(he:autoParam (eval (.Call func (a::es) [⟨some kn,ke,kp⟩] pos) E=(do callWith pos (←eval func E) [] (backTo pos (starEach (a::es) E)) (backToKw pos (keywordEach [⟨some kn,ke,kp⟩] E)))) T0R):Ev c E ps nx (.Call func (a::es) [⟨some kn,ke,kp⟩] pos) v nx':=fun z s O Q k=>by
 rw [he]
 refine wpAny_bind (hf z s O _ fun z₁ s₁ b l₁ O₁ r=>?_)
 subst r
 have hp':=hp
 rw [all_cons,and_eq_true] at hp'
 refine callWith_kw ?_ (by rw [zAz hp'.1];rfl) (zBp hp) rfl rfl
 refine h z₁ s₁ O₁ pos _ fun z₂ s₂ vs l₂ O₂ rs=>?_
 refine kwAll_cons (hg _ z₂ s₂ O₂ _ fun z₃ s₃ b l₃ O₃ r₃=>?_)
 induction r₃
 exact kwAll_nil (hc z₃ s₃ vs O₃ (rs.mono l₃) _ fun z₄ s₄ x l₄ O₄ r₄=>k z₄ s₄ x (((l₁.trans l₂).trans l₃).trans l₄) O₄ r₄)
theorem zYz(P:Params):nsIn (kW P) mainGlobals (.ofString "_law_book")=some (some (.ref 320)):=by kernel_rfl
theorem yE5(P:Params):keepIn (kW P) (.ref 320)=true:=by kernel_rfl
theorem zL9(P:Params):nsIn (kW P) mainGlobals (.ofString "sorted")=some none:=by kernel_rfl
theorem zKx:bootBuiltins (.ofString "sorted")=some (.builtin "sorted"):=by kernel_rfl
theorem zZ4(P:Params):nsIn (kW P) mainGlobals (.ofString "_law_tail")=some (some (.ref 327)):=by kernel_rfl
theorem zYy(P:Params):nsIn (kW P) mainGlobals (.ofString "_law_back")=some (some (.ref 339)):=by kernel_rfl
theorem yE6(P:Params):keepIn (kW P) (.ref 339)=true:=by kernel_rfl
noncomputable abbrev yBe(f:Nat→Nat)(g:zA0):List Nat:=zDu (zEv f g) 7
noncomputable abbrev bkV(f:Nat→Nat)(g:zA0):SV:=.d (.list (zBs f g (yBe f g)))
theorem zPx{g:zA0}(hg:zA6 g)(f:Nat→Nat)(l:List Nat):(l.map (nmT f g)).all PyData.strOk=true:=by
 rw [List.all_map,all_eq_true]
 exact fun x _=>zPs hg _
theorem zKh{g:zA0}(f:Nat→Nat)(l:List Nat):l.map (fun k=>PyData.str (nmT f g k))=(l.map (nmT f g)).map .str:=by rw [map_map];rfl
theorem CmpS.neN{fn:Fn}{d n₀:Nat}{c:Cx fn d n₀}{ps:List (zA0×SV)}{nx:List SO}{v₁ v₂:SV}{f:Nat→Nat}{g:zA0}{l:List Nat}(hg:zA6 g)(h₁:RdS nx v₁ (.list (l.map fun k=>.str (nmT f g k))))(h₂:RdS nx v₂ (.list (l.map fun k=>.str (nmT f g k)))):CmpS c ps nx .NotEq v₁ v₂ false:=
 .neS h₁ h₂ (by rw [zKh];exact zFz (zPx hg f l)) (by rw [zKh,canLayAll_strs'];exact zPx hg f l)
section
variable {fa:Addr}{cd:Value}{c:Cx (zMu fa cd) 40 11}{Q:Flow→Shared→Prop}{rest:List Stmt}{bs:List (List Stmt)}{f:Nat→Nat}{g:zA0}{k:Nat}
noncomputable abbrev M9(f:Nat→Nat)(g:zA0):List SO:=N9 f g (cR 12) (wdO f) [txO f (nmT f g)]
theorem zZq(hC:LawC c)(hf:∀x,x<7→f x<7)(hg:zA6 g)(k:J c Q [(.ofString "book",bkV f g),rgsN f] (M9 f g) (rest::bs)):J c Q [rgsN f] (M9 f g) ((lwSt 18::rest)::bs):=by
 conv=>arg 5;arg 1;arg 1;whnf
 exact J.seq (Ex.assign (Ev.call (.glob zYz) (.cons (.cel hC (k:=4) (hv:=rfl)) .nil) (CallS.con [11] (yAl hf hg) rfl rfl rfl rfl rfl) (.k yE5))) k
theorem zZr(hC:LawC c)(hg:zA6 g)(k:J c Q [(.ofString "book",bkV f g),rgsN f] (M9 f g) (rest::bs)):J c Q [(.ofString "book",bkV f g),rgsN f] (M9 f g) ((lwSt 19::rest)::bs):=by
 conv=>arg 5;arg 1;arg 1;whnf
 have cr:=zCy hg [] (by decide)
 rw [show zA1 g []=g from rfl,zJ6 hg] at cr
 refine J.iff (EvB.orF (EvB.cmp (Ev.compA (fun i=>i) (fun i=>.str (nmT f g i)) zGr letters_size .str fun i hi c' C h=>?elt) (.cel hC (k:=2) (hv:=rfl)) (.neN hg rfl ⟨_,rfl,rfl⟩)) rfl
  (EvB.orF (EvB.cmp (Ev.call (.glob zDm) (.cons (.cel hC (k:=6) (hv:=rfl)) .nil) (CallS.con0 cr rfl rfl) (.k q69)) (.cel hC (k:=6) (hv:=rfl)) .neT) (bne_self_eq_false _) .orN)) rfl (J.pop k)
 exact .one (Ev.sub (.ccel (hC.comp h) h.L (k:=4) (hv:=rfl)) (Ev.cloc h rfl) (SubS.nam rfl hi trivial)) ⟨rfl,rfl,rfl,rfl⟩
theorem zZs(hC:LawC c)(hf:∀x,x<7→f x<7)(hg:zA6 g)(k:J c Q [(.ofString "book",bkV f g),rgsN f] (M9 f g) (rest::bs)):J c Q [(.ofString "book",bkV f g),rgsN f] (M9 f g) ((lwSt 20::rest)::bs):=by
 conv=>arg 5;arg 1;arg 1;whnf
 have hl7:((List.range 7).map fun i=>nmT f g (ordB i)).length=7:=by rw [length_map,length_range]
 have hgl:=zBv hg
 have at7:∀{F:Nat→zA0} {i:Nat} {x:zA0},((List.range 7).map F)[i]? = some x→i<7∧F i=x:=fun {F i x} h=>by
  have hi:i<7:=by have:=(List.getElem?_eq_some_iff.mp h).1;rwa [length_map,length_range] at this
  rw [getElem?_map,getElem?_range hi] at h
  exact ⟨hi,Option.some.inj h⟩
 have gd7:∀k,k<7→(((List.range 7).map fun i=>zUt f g (ordB i)).getD k default)=zUt f g (ordB k):=fun k hk=>by
  rw [getD_eq_getElem?_getD,getElem?_map,getElem?_range hk]
  rfl
 have so:=CallS.sorted (c:=c) (ps:=[(.ofString "book",bkV f g),rgsN f]) (nx:=M9 f g) (v:=.d (zDr ((List.range 7).map fun i=>nmT f g (ordB i)))) (xs:=(List.range 7).map fun i=>nmT f g (ordB i)) (ks:=(List.range 7).map fun i=>zUt f g (ordB i)) (out:=(yBe f g).map (nmT f g)) (K:=rkB f g) (q:=327) rfl (by rw [length_map,length_map]) (by rw [hl7];decide) (by rw [hl7];decide) (fun i j hi hj=>by rw [hl7] at hi hj;rw [gd7 i hi,gd7 j hj];exact yAi i j hi hj) (fun i x k hx hk=>by
  obtain ⟨hi,rfl⟩:=at7 hx
  obtain ⟨_,rfl⟩:=at7 hk
  obtain ⟨tt,ett⟩:=zD7 hf (zDp i hi)
  have htl:=zE8 hf (ordB i)
  have e:nmT f g (ordB i)=zA1 g (ordB i::tt):=by rw [←ett]
  have ct:=zYg (x:=nmT f g (ordB i)) (by rw [nmT,zAa];lia) (by rw [e,zB8];decide)
  rwa [show Txt.slice (nmT f g (ordB i)) (some (Txt.find (nmT f g (ordB i)) (.ofString "."))) none=zUt f g (ordB i) by rw [zUt,e,zPu,zBh hg]] at ct) (fun p hF hA=>by rw [hl7] at hF hA;exact zK2 (zDv _ 7 (le_refl _)) hF hA) rfl
 refine J.iff (EvB.cmp (.loc rfl) (Ev.callKB (.built zL9 zKx (by decide)) (.cons (Ev.to (Ev.compA ordB (fun i=>.str (nmT f g (ordB i))) zWm ordl_size .str fun i hi c' C h=>?elt) (congrArg (fun l=>SV.d (.list l)) (by rw [map_map];rfl))) .nil) (fun _=>.glob zZ4) so) ?cmp) rfl (J.pop k)
 case elt=>
  refine .one (Ev.sub (.ccel (hC.comp h) h.L (k:=2) (hv:=rfl)) (Ev.to (v':=.d (.int (ordB i:Nat))) (Ev.meth .str (MethS.str PySem.F.slot_str_index PySem.F.type_str_index) (.cons (Ev.cloc h rfl) .nil) (CallS.index ?pos) .b) ?ix) (SubS.item (j:=ordB i) rfl (le_of_ble_eq_true rfl) ?hit)) ⟨rfl,rfl,rfl,rfl⟩
  case pos=>exact (zPc _ (zDp i hi)).symm▸natCast_nonneg _
  case ix=>exact congrArg (fun x=>SV.d (.int x)) (zPc _ (zDp i hi))
  case hit=>rw [getElem?_map,getElem?_range (zDp i hi)];rfl
 case cmp=>exact .neN (l:=yBe f g) hg rfl (congrArg PyData.list (zKh f _).symm)
theorem zZt(hC:LawC c)(hf:∀x,x<7→f x<7)(k:J c Q [(.ofString "marked",.d (.str (zA1 g (word f)))),(.ofString "book",bkV f g),rgsN f] (M9 f g) (rest::bs)):J c Q [(.ofString "book",bkV f g),rgsN f] (M9 f g) ((lwSt 21::rest)::bs):=by
 conv=>arg 5;arg 1;arg 1;whnf
 have hp:=length_pos_iff.mpr (zIf hf)
 have h7:(word f).getD 0 0<7:=by rw [zA7 (getElem?_eq_getElem hp)];exact zA9 hf _ (getElem_mem hp)
 have hw7:=zA3 (zA5 hf) (zA9 hf)
 exact J.seq (Ex.assign (Ev.to (Ev.sub (.cel hC (k:=4) (hv:=rfl)) (Ev.ltr (Ev.sub (.cel hC (k:=3) (hv:=rfl)) .int (SubS.itemD (j:=0) (by rw [zT6];(exact le_trans (by assumption) (le_of_ble_eq_true rfl))) (zE2 hp))) h7) (SubS.nam rfl h7 trivial)) (congrArg (fun x=>SV.d (.str x)) (zT2 hf)))) k
noncomputable abbrev B9(f:Nat→Nat)(g:zA0):List SO:=O9 (cD (.list (zEj (word f)))) (cR 13) (cR 12) (wdO f) (cR 11) (cD (.list (zDc (rings f)))) (cD (.str g)) (cD (.list (zDd f))) celO [namedO f g,txO f (nmT f g),namO (fun _=>True) (fun k=>ltr (f k)) 100]
noncomputable abbrev mkN(f:Nat→Nat)(g:zA0):List (zA0×SV):=[(.ofString "marked",.d (.str (zA1 g (word f)))),rgsN f]
theorem zZu(hC:LawC c)(hf:∀x,x<7→f x<7)(hg:zA6 g)(k:J c Q (mkN f g) (B9 f g) (rest::bs)):J c Q [(.ofString "marked",.d (.str (zA1 g (word f)))),(.ofString "book",bkV f g),rgsN f] (M9 f g) ((lwSt 22::rest)::bs):=by
 conv=>arg 5;arg 1;arg 1;whnf
 refine J.seq (Ex.asg2H (nx₁:=M9 f g++[namO (fun _=>True) (fun k=>ltr (f k)) 100,.tup [.r 13,.d (.list (zEj (word f)))]]) (k:=14) (Ev.call (.glob zYy) (.cons (.loc rfl) (.cons (.loc rfl) (.cons (.cel hC (k:=6) (hv:=rfl)) .nil))) (CallS.con [] (yAk hf hg (zDv (zEv f g) 7 (le_refl _))) rfl rfl rfl rfl rfl) (.k yE6)) rfl (StoreS.cel hC (k:=1)) (StoreS.cel hC (k:=0))) (J.less ⟨rfl,rfl,rfl,rfl,rfl⟩ k)
theorem CmpS.neL{fn:Fn}{d n₀:Nat}{c:Cx fn d n₀}{ps:List (zA0×SV)}{nx:List SO}{l:List Nat}:CmpS c ps nx .NotEq (.d (.list (zEj l))) (.d (.list (zEj l))) false:=
 have e:zEj l=(l.map ltr).map .str:=by rw [map_map];rfl
 have ok:(l.map ltr).all PyData.strOk=true:=by rw [List.all_map,all_eq_true];exact fun x _=>zK6 x
 .neS rfl rfl (by rw [e];exact zFz ok) (by rw [e,canLayAll_strs'];exact ok)
theorem zZv(hC:LawC c)(hf:∀x,x<7→f x<7)(k:J c Q (mkN f g) (B9 f g) (rest::bs)):J c Q (mkN f g) (B9 f g) ((lwSt 23::rest)::bs):=by
 conv=>arg 5;arg 1;arg 1;whnf
 have hw7:=zA3 (zA5 hf) (zA9 hf)
 have er:(List.range 7).map (fun i=>PyData.str (ltr (f i)))=zEj ((List.range 7).map f):=by rw [zEj,map_map];rfl
 have ew:zDd f=pN ((List.range 7).map f):=by rw [pN,map_map];rfl
 refine J.iff (EvB.orF (EvB.cmp (.cel hC (k:=0) (hv:=rfl)) (Ev.compM (word f) (fun x=>.int (x:Nat)) (fun k=>.str (ltr k)) (by (exact le_trans (by assumption) (le_of_ble_eq_true rfl))) (Ev.to (.cel hC (k:=3) (hv:=rfl)) (congrArg (fun l=>SV.d (.list l)) (zQ5 _))) fun x hx c' C h=>.one (Ev.ltr (Ev.cloc h rfl) (zA9 hf x hx)) ⟨rfl,rfl,rfl,rfl⟩) .neL) rfl
  (EvB.orF (EvB.cmp (Ev.to (Ev.compA (fun i=>i) (fun i=>.str (ltr (f i))) zGr letters_size .str fun i hi c' C h=>?elt) (congrArg (fun l=>SV.d (.list l)) er)) (Ev.compM ((List.range 7).map f) (fun x=>.int (x:Nat)) (fun k=>.str (ltr k)) (by rw [length_map,length_range];decide) (Ev.to (.cel hC (k:=7) (hv:=rfl)) (congrArg (fun l=>SV.d (.list l)) ew)) fun x hx c' C h=>.one (Ev.ltr (Ev.cloc h rfl) ?lt) ⟨rfl,rfl,rfl,rfl⟩) .neL) rfl .orN)) rfl (J.pop k)
 case elt=>exact .one (Ev.sub (.ccel (hC.comp h) h.L (k:=1) (hv:=rfl)) (Ev.cloc h rfl) (SubS.nam (nm:=fun k=>ltr (f k)) rfl hi trivial)) ⟨rfl,rfl,rfl,rfl⟩
 obtain ⟨i,hi,rfl⟩:=mem_map.mp hx
 exact hf i (mem_range.mp hi)
end
noncomputable def zE7(wd:List Nat)(k:Nat):Str:=if wd.getD (k+1) 0<wd.getD k 0 then .ofString "1" else .ofString "-1"
theorem zOk:∀a,a<7→∀b,b<7→a≠b→zOi (ltr a) (ltr b)=if b<a then 1 else -1:=by decide +kernel
theorem zTi(wd:List Nat)(k:Nat):Str.ofString (toString (if wd.getD (k+1) 0<wd.getD k 0 then (1:Int) else -1))=zE7 wd k:=by
 unfold zE7
 split
 ·exact (by decide:Str.ofString (toString (1:Int))=Str.ofString "1")
 ·exact (by decide:Str.ofString (toString (-1:Int))=Str.ofString "-1")
theorem zPr{g:Str}{k:Nat}{r:List Nat}:zOi (zA1 g (k::r)) (zA1 g (k::r))=0∧zOi (zA1 g (k::r)) (ltr k)=1∧zOi (ltr k) (zA1 g (k::r)) = -1:=by
 have e1:(zA1 g (k::r)).cps.toList=codeOf k::46::cl (zA1 g r):=zB3 g k r
 have e2:(ltr k).cps.toList=[codeOf k]:=rfl
 unfold zOi
 rw [e1,e2]
 have h1:¬(codeOf k::46::cl (zA1 g r))<codeOf k::46::cl (zA1 g r):=List.lt_irrefl _
 have h2:[codeOf k]<codeOf k::46::cl (zA1 g r):=List.cons_lt_cons_iff.mpr (.inr ⟨rfl,List.nil_lt_cons _ _⟩)
 have h3:¬(codeOf k::46::cl (zA1 g r))<[codeOf k]:=fun c=>List.lt_irrefl _ (List.lt_trans c h2)
 simp only [h1,h2,h3,decide_true,decide_false]
 decide
theorem step_is(wd:List Nat)(k:Nat):zE7 wd k = .ofString "1"∨zE7 wd k = .ofString "-1" := by
 unfold zE7
 split
 ·exact .inl rfl
 ·exact .inr rfl
theorem zFd(wd:List Nat):∀l:List Nat,Spec.countIn (.str (.ofString "1")) ((l.map (zE7 wd)).map PyData.str)=((l.filter fun k=>decide (wd.getD (k+1) 0<wd.getD k 0)).length:Nat)
 |[]=>rfl
 |k::l=>by
  show (if Spec.same (.str (zE7 wd k)) (.str (.ofString "1"))=true then (1:Int) else 0)+Spec.countIn _ _=_
  rw [zFd wd l,filter_cons]
  unfold zE7
  by_cases c:wd.getD (k+1) 0<wd.getD k 0
  ·rw [if_pos c,if_pos (by decide),if_pos (decide_eq_true c),length_cons]
   lia
  ·rw [if_neg c,if_neg (by decide),if_neg (by simpa using c)]
   lia
theorem zS8:∀a,a<7→∀b,b<7→codeOf a=codeOf b→a=b:=by decide +kernel
theorem zLl{g:Str}:∀{a b:List Nat},(∀x∈a,x<7)→(∀x∈b,x<7)→zA1 g a=zA1 g b→a=b
 |[],[],_,_,_=>rfl
 |[],y::b,_,_,h=>by
  have:=congrArg Str.length h
  rw [zAa,zAa] at this
  simp at this
 |x::a,[],_,_,h=>by
  have:=congrArg Str.length h
  rw [zAa,zAa] at this
  simp at this
 |x::a,y::b,ha,hb,h=>by
  have h1:=congrArg cl h
  rw [zB3,zB3] at h1
  have h2:=List.cons.inj h1
  have h3:=(List.cons.inj h2.2).2
  rw [zS8 x (ha x (.head _)) y (hb y (.head _)) h2.1,zLl (fun z hz=>ha z (.tail _ hz)) (fun z hz=>hb z (.tail _ hz)) (zAm h3)]
theorem zH7{f:Nat→Nat}{wd:List Nat}(hf:∀x,x<7→f x<7)(hw:∀x∈wd,x<7):∀(n:Nat) {k:Nat},k<7→∀x∈zAt f wd n k,x<7
 |0,k,_,x,hx=>by
  unfold zAt at hx
  exact hw x (List.mem_of_mem_drop hx)
 |n+1,k,hk,x,hx=>by
  unfold zAt at hx
  split at hx
  ·exact hw x (List.mem_of_mem_drop hx)
  ·rcases mem_cons.mp hx with rfl|hx
   ·exact hk
   ·exact zH7 hf hw n (hf k hk) x hx
theorem zM2{f:Nat→Nat}(hf:∀x,x<7→f x<7){k:Nat}(hk:k<7):∀x∈trail f (word f) k,x<7:=zH7 hf (zA9 hf) 7 hk
theorem zVj{x y:Str}(h:(Str.ofString "." : Str)++x=Str.ofString "." ++ y):x=y:=by
 have:=congrArg cl h
 rw [zBt,zBt] at this
 exact zAm (List.cons.inj this).2
noncomputable def gone(f:Nat→Nat)(k:Nat):Bool:=decide ((trail f (word f) k).tail≠trail f (word f) (f k))
theorem zP4{f:Nat→Nat}{g:Str}(hf:∀x,x<7→f x<7)(hg:zA6 g){k:Nat}(hk:k<7):(zBz (nmT f g k) != ((Str.ofString "." : Str)++nmT f g (f k)))=gone f k:=by
 obtain ⟨t,ht⟩:=zD7 hf hk
 have h1:=zM2 hf hk
 have h2:=zM2 hf (hf k hk)
 unfold gone nmT
 rw [ht] at h1 ⊢
 rw [zBh hg,List.tail_cons]
 by_cases e:t=trail f (word f) (f k)
 ·rw [e]
  simp
 ·have:(Str.ofString "." : Str)++zA1 g t≠Str.ofString "." ++ zA1 g (trail f (word f) (f k)):=fun c=>e (zLl (fun x hx=>h1 x (.tail _ hx)) h2 (zVj c))
  simp [this,e]
theorem zT0{ns:List Int}{l:List Nat}(h:ns.Perm (natI l)):∃l',ns=natI l'∧l'.Perm l:=by
 refine ⟨ns.map Int.toNat,?_,?_⟩
 ·unfold natI
  rw [map_map]
  refine (List.map_id' ns).symm.trans (map_congr_left fun x hx=>?_)
  obtain ⟨y,_,rfl⟩:=mem_map.mp (h.mem_iff.mp hx)
  simp
 ·have:=h.map Int.toNat
  unfold natI at this
  rw [map_map] at this
  refine this.trans (List.Perm.of_eq ?_)
  exact (map_congr_left fun x _=>by simp).trans (List.map_id' l)
section
variable {fn:Fn}{d n₀:Nat}{c:Cx fn d n₀}{E:Env}{ps:List (zA0×SV)}{nx:List SO}{v v₁ v₂:SV}
theorem EvB.to{e:Expr}{b b':Bool}{nx':List SO}(h:EvB c E ps nx e b nx')(q:b=b'):EvB c E ps nx e b' nx':=q▸h
theorem CallS.strI{i:Int}(hi:i.natAbs≤1):CallS c ps nx (.type "str") [.d (.int i)] [] (.d (.str (Str.ofString (toString i)))) nx:=fun z s xs O hx Q q=>by
 obtain ⟨_,_,rfl,r,h⟩:=hx.cons_
 cases h.nil_
 obtain ⟨t,rfl⟩:=DRep.int_ r
 refine PySem.P.str_of_int ?_ (q z _ _ (.refl _) (O.toks _) .str)
 rcases Nat.le_one_iff_eq_zero_or_eq_one.mp hi with e|e<;>rw [e]<;>decide
theorem CmpS.notinP{x:zA0}{ys:List zA0}:CmpS c ps nx .NotIn (.d (.str x)) (.d (.tuple (ys.map .str))) (!ys.any (· == x)):=fun z s a₁ a₂ O h1 h2 Q q=>by
 obtain ⟨t,rfl⟩:=DRep.str_ h1
 obtain ⟨A,vs,rfl,hz,hr⟩:=DRep.tuple_ h2
 refine O.growZ fun m news F N hZ _=>?_
 exact notin_tuple_strs ⟨_,(N _ (hZ _ hz)).1,rfl,_,rfl⟩ (zFi hr) (q _ O)
theorem CmpS.neI{i j:Int}:CmpS c ps nx .NotEq (.d (.int i)) (.d (.int j)) (i != j):=fun z s a b O h1 h2 Q k=>by
 obtain ⟨t,rfl⟩:=DRep.int_ h1
 obtain ⟨u,rfl⟩:=DRep.int_ h2
 exact ne_int (k _ O)
theorem CallS.countS{x:zA0}{l:List zA0}(hk:LstS nx v (l.map .str)):CallS c ps nx (.builtin "list.count") [v,.d (.str x)] [] (.d (.int (Spec.countIn (.str x) (l.map .str)))) nx:=fun z s xs O hx Q q=>by
 obtain ⟨_,_,rfl,r1,h2⟩:=hx.cons_
 obtain ⟨_,_,rfl,r2,h3⟩:=h2.cons_
 cases h3.nil_
 obtain ⟨t,rfl⟩:=DRep.str_ r2
 obtain ⟨A,vs,rfl,ha,rv⟩:=hk.here O r1
 exact count_list_strs ha (zFi rv) (q z _ _ (.refl _) (O.toks _) .int)
theorem zOr{Z:List (Addr×Obj)}{ns:List Int}{vs:List Value}(h:IntsAre vs ns):DRepL Z (pints ns) vs:=by
 induction h with
 |nil=>exact .nil
 |cons _ _ _ ih=>exact .cons .int ih
theorem CallS.sortedI{ns out:List Int}(hk:LstS nx v (pints ns))(h64:ns.length<64)(hout:∀l:List Int,l.Perm ns→l.Pairwise (·≤·)→l=out):CallS c ps nx (.builtin "sorted") [v] [] (.d (.list (pints out))) nx:=fun z s xs O hx Q q=>by
 obtain ⟨_,_,rfl,r1,h2⟩:=hx.cons_
 cases h2.nil_
 refine O.growZD fun m news F N hZ ho g=>?_
 obtain ⟨A,vs,n,rfl,hm,rv⟩:=hk.at (c:=c) r1 hZ ho
 refine kso_sorted F N ⟨_,(N _ hm).1,rfl,n,rfl⟩ (zD0 rv) h64 fun D vs' ns' e h' F' N' fresh hi _ hp hs _=>?_
 rw [hout ns' hp hs] at hi
 refine g D _ h' s.toks F' N' (fun p hp=>ne_of_lt (fresh p hp)) fun z' le hz O'=>?_
 exact q z' _ _ le O' (.list hz (zOr hi))
theorem CmpS.eqI'{l:List Int}:CmpS c ps nx .Eq (.d (.list (pints l))) (.d (.list (pints l))) true:=by
 have:=CmpS.eqD (c:=c) (ps:=ps) (nx:=nx) (v₁:=.d (.list (pints l))) (v₂:=.d (.list (pints l))) rfl rfl (zCf l) (zCf l)
 rwa [show PyData.eqv (.list (pints l)) (.list (pints l))=true by rw [PyData.eqv,SeqAt.eqvAll_refl _ (zHw l).1]] at this
end
noncomputable abbrev stN(f:Nat→Nat)(g:zA0):List (zA0×SV):=(.ofString "steps",.d (zDr ((List.range ((word f).length-1)).map (zE7 (word f)))))::mkN f g
section
variable {fa:Addr}{cd:Value}{c:Cx (zMu fa cd) 40 11}{Q:Flow→Shared→Prop}{rest:List Stmt}{bs:List (List Stmt)}{f:Nat→Nat}{g:zA0}{k:Nat}
theorem zZw(hC:LawC c)(hf:∀x,x<7→f x<7)(k:J c Q (stN f g) (B9 f g) (rest::bs)):J c Q (mkN f g) (B9 f g) ((lwSt 24::rest)::bs):=by
 conv=>arg 5;arg 1;arg 1;whnf
 have hw7:=zA3 (zA5 hf) (zA9 hf)
 have hp:=length_pos_iff.mpr (zIf hf)
 have hrl:(zEj (word f)).length=(word f).length:=length_map _
 refine J.seq (zFc ((word f).length-1) (fun i=>some (.str (zE7 (word f) i))) (by lia) (Ev.call (.built zAr zAq (by decide)) (.cons (Ev.to (Ev.bin (Ev.call (.built zD9 zD8 (by decide)) (.cons (.cel hC (k:=0) (hv:=rfl)) .nil) (CallS.lenD (by lia)) .b) .int (BinS.pred (by lia))) (congrArg (fun n:Nat=>SV.d (.int ((n-1:Nat):Int))) hrl)) .nil) .range1 .t) rfl fun i hi c' C h=>?elt) (J.less ⟨?names,rfl,rfl,rfl,rfl⟩ k)
 case names=>
  rw [zBr (f:=fun i=>.str (zE7 (word f) i)) fun _ _=>rfl,stN,zDr,map_map]
  rfl
 case elt=>
  have hC':=hC.comp h
  have h1:i<(word f).length:=by lia
  have h2:i+1<(word f).length:=by lia
  have lt:∀{j},j<(word f).length→(word f).getD j 0<7:=fun hj=>by rw [zA7 (getElem?_eq_getElem hj)];exact zA9 hf _ (getElem_mem hj)
  have hne:(word f).getD i 0≠(word f).getD (i+1) 0:=fun e=>by
   rw [zA7 (getElem?_eq_getElem h1),zA7 (getElem?_eq_getElem h2)] at e
   have:=(List.getElem_inj (zA5 hf)).mp e
   lia
  have hcs:=zOk _ (lt h1) _ (lt h2) hne
  refine .one (Ev.to (Ev.call (.cbuilt zJ5 zIn (by decide)) (.cons (Ev.call (.cglob zGq) (.cons (Ev.sub (.ccel hC' h.L (k:=0) (hv:=rfl)) (Ev.cloc h rfl) (SubS.itemD (by lia) (zCe h1))) (.cons (Ev.sub (.ccel hC' h.L (k:=0) (hv:=rfl)) (Ev.bin (Ev.cloc h rfl) .int BinS.succ) (SubS.itemD (by omega) (zCe h2))) .nil)) (CallS.con0 zGf rfl rfl) (.k zXl)) .nil) (CallS.strI ?_) .t) ?_) ⟨rfl,rfl,rfl,rfl⟩
  ·rw [hcs];split<;>decide
  ·rw [hcs,zTi]
noncomputable abbrev sdL:List zA0:=[.ofString "0",.ofString "1",.ofString "-1"]
theorem zZx(hC:LawC c)(hf:∀x,x<7→f x<7)(k:J c Q ((.ofString "sides",.d (zDr sdL))::stN f g) (B9 f g) (rest::bs)):J c Q (stN f g) (B9 f g) ((lwSt 25::rest)::bs):=by
 conv=>arg 5;arg 1;arg 1;whnf
 have hp:=length_pos_iff.mpr (zIf hf)
 have hw7:=zA3 (zA5 hf) (zA9 hf)
 have hrl:(zEj (word f)).length=(word f).length:=length_map _
 have hwd:=drop_eq_getElem_cons hp
 rw [List.drop_zero] at hwd
 have e0:(word f).getD 0 0=(word f)[0]:=zA7 (getElem?_eq_getElem hp)
 obtain ⟨h1,h2,h3⟩:=zPr (g:=g) (k:=(word f)[0]) (r:=(word f).drop 1)
 rw [←hwd] at h1 h2 h3
 rw [←e0] at h2 h3
 have a1:∀{i:Int} {s:zA0},i.natAbs≤1→Str.ofString (toString i)=s→∀{x y:zA0},zOi x y=i→(zOi x y).natAbs≤1∧SV.d (.str (Str.ofString (toString (zOi x y)))) = .d (.str s):=fun hi hs x y e=>by rw [e,hs];exact ⟨hi,rfl⟩
 have b1:=a1 (i:=0) (s:=.ofString "0") (by decide) (by decide) h1
 have b2:=a1 (i:=1) (s:=.ofString "1") (by decide) (by decide) h2
 have b3:=a1 (i:=-1) (s:=.ofString "-1") (by decide) (by decide) h3
 refine J.seq (Ex.assign (Ev.listD (xs:=[.str (.ofString "0"),.str (.ofString "1"),.str (.ofString "-1")]) (.cons (Ev.to (Ev.call (.built zJ5 zIn (by decide)) (.cons (Ev.call (.glob zGq) (.cons (.loc rfl) (.cons (.loc rfl) .nil)) (CallS.con0 zGf rfl rfl) (.k zXl)) .nil) (CallS.strI b1.1) .t) b1.2) (.cons (Ev.to (Ev.call (.built zJ5 zIn (by decide)) (.cons (Ev.call (.glob zGq) (.cons (.loc rfl) (.cons (Ev.sub (.cel hC (k:=0) (hv:=rfl)) .int (SubS.itemD (j:=0) (by lia) (zCe hp))) .nil)) (CallS.con0 zGf rfl rfl) (.k zXl)) .nil) (CallS.strI b2.1) .t) b2.2) (.cons (Ev.to (Ev.call (.built zJ5 zIn (by decide)) (.cons (Ev.call (.glob zGq) (.cons (Ev.sub (.cel hC (k:=0) (hv:=rfl)) .int (SubS.itemD (j:=0) (by omega) (zCe hp))) (.cons (.loc rfl) .nil)) (CallS.con0 zGf rfl rfl) (.k zXl)) .nil) (CallS.strI b3.1) .t) b3.2) .nil))))) k
theorem zZy(hf:∀x,x<7→f x<7)(k:J c Q (stN f g) (B9 f g) (rest::bs)):J c Q ((.ofString "sides",.d (zDr sdL))::stN f g) (B9 f g) ((lwSt 26::rest)::bs):=by
 conv=>arg 5;arg 1;arg 1;whnf
 have hw7:=zA3 (zA5 hf) (zA9 hf)
 refine J.iff (EvB.orF (EvB.cmp (Ev.to (v':=.d (.list [])) (Ev.compL ((List.range ((word f).length-1)).map (zE7 (word f))) .str (fun _=>none) (by rw [length_map,length_range];omega) (.loc rfl) fun a ha c' C h=>?elt) ?nil) (Ev.listD (xs:=[]) .nil) (.neS rfl rfl rfl rfl)) rfl
  (EvB.orF (EvB.cmp (.loc rfl) (Ev.listD (xs:=sdL.map .str) (.cons .str (.cons .str (.cons .str .nil)))) (.neS rfl rfl (by kernel_rfl) (by kernel_rfl))) rfl .orN)) rfl (J.pop (J.less ⟨rfl,rfl,rfl,rfl,rfl⟩ k))
 case nil=>exact congrArg (fun l=>SV.d (.list l)) (List.filterMap_eq_nil_iff.mpr fun _ _=>rfl)
 case elt=>
  obtain ⟨i,_,rfl⟩:=mem_map.mp ha
  have hb:(![Str.ofString "1",.ofString "-1"].any (· == zE7 (word f) i))=false:=by rcases step_is (word f) i with e|e<;>rw [e]<;>decide
  exact .no (hb▸EvB.cmp (Ev.cloc h rfl) (Ev.tuple (xs:=[Str.ofString "1",.ofString "-1"].map .str) (.cons .str (.cons .str .nil))) .notinP) ⟨rfl,rfl,rfl,rfl⟩
theorem zZe(l:List Nat)(p:Nat→Bool)(F:Nat→PyData):(l.filterMap fun x=>if p x=true then some (F x) else none).length=(l.filter p).length:=by
 induction l with
 |nil=>rfl
 |cons a r ih=>
  cases h:p a with
  |true=>rw [List.filterMap_cons_some (b:=F a) (by rw [h];rfl),List.filter_cons_of_pos h,length_cons,length_cons,ih]
  |false=>rw [List.filterMap_cons_none (by rw [h];rfl),List.filter_cons_of_neg (by rw [h];decide)];exact ih
theorem zZz(hC:LawC c)(hf:∀x,x<7→f x<7)(k:J c Q (stN f g) (B9 f g) (rest::bs)):J c Q (stN f g) (B9 f g) ((lwSt 27::rest)::bs):=by
 conv=>arg 5;arg 1;arg 1;whnf
 have hw7:=zA3 (zA5 hf) (zA9 hf)
 have hsc:((List.range ((word f).length-1)).filter fun k=>decide ((word f).getD (k+1) 0<(word f).getD k 0)).length=((word f).filter fun x=>decide (f x<x)).length:=zKq (zCd hf)
 have hli:=zZe (word f) (fun x=>decide ((f x:Int)<(x:Int))) fun x=>.int (x:Nat)
 rw [show (fun x=>decide ((f x:Int)<(x:Int)))=fun x=>decide (f x<x) from funext fun x=>decide_eq_decide.mpr ofNat_lt] at hli
 have hfl:=List.length_filter_le (fun x=>decide (f x<x)) (word f)
 refine J.iff (EvB.cmp (Ev.meth (.loc rfl) (MethS.lstL (l:=((List.range ((word f).length-1)).map (zE7 (word f))).map .str) rfl PySem.F.slot_list_count PySem.F.type_list_count) (.cons .str .nil) (CallS.countS rfl) .b) (Ev.call (.built zD9 zD8 (by decide)) (.cons (Ev.compL (word f) (fun x=>.int (x:Nat)) (fun x=>if (decide ((f x:Int)<(x:Int)))=true then some (.int (x:Nat)) else none) (by (exact le_trans (by assumption) (le_of_ble_eq_true rfl))) (Ev.to (.cel hC (k:=3) (hv:=rfl)) (congrArg (fun l=>SV.d (.list l)) (zQ5 _))) fun x hx c' C h=>?elt) .nil) (CallS.lenD ?len) .b) .neI) ?ne (J.pop k)
 case elt=>exact EltS.ift (EvB.cmp (Ev.sub (.ccel (hC.comp h) h.L (k:=7) (hv:=rfl)) (Ev.cloc h rfl) (SubS.itemD (le_of_ble_eq_true rfl) (zCk (zA9 hf x hx)))) (Ev.cloc h rfl) .ltI) (fun _=>Ev.cloc h rfl) ⟨rfl,rfl,rfl,rfl⟩
 case len=>rw [hli];lia
 case ne=>rw [hli,zFd,hsc];exact bne_self_eq_false _
noncomputable abbrev asN(f:Nat→Nat):List (zA0×SV):=[(.ofString "astray",.d (.list (pints (natI ((List.range 7).filter (gone f)))))),rgsN f]
theorem zY1(p:Nat→Bool):∀n,accN (fun i=>if p i=true then some (.int (i:Nat)) else none) n=pints (natI ((List.range n).filter p)):=fun n=>by
 induction n with
 |zero=>rfl
 |succ n ih=>
  rw [accN,ih,range_succ,List.filter_append,natI,natI,map_append,pints,pints,map_append]
  cases h:p n with
  |true=>rw [List.filter_cons_of_pos h];rfl
  |false=>rw [List.filter_cons_of_neg (by rw [h];decide)];rfl
theorem yA0(hC:LawC c)(hf:∀x,x<7→f x<7)(hg:zA6 g)(k:J c Q (asN f) (B9 f g) (rest::bs)):J c Q (stN f g) (B9 f g) ((lwSt 28::rest)::bs):=by
 conv=>arg 5;arg 1;arg 1;whnf
 have hgl:=zBv hg
 refine J.seq (zFc 7 (fun i=>if gone f i=true then some (.int (i:Nat)) else none) (by decide) (Ev.call (.built zAr zAq (by decide)) (.cons .int .nil) .range1 .t) rfl fun i hi c' C h=>?elt) (J.less ⟨?names,rfl,rfl,rfl,rfl⟩ k)
 case names=>
  rw [zY1]
  rfl
 case elt=>
  have hC':=hC.comp h
  have ht:=zE8 hf i
  have ht2:=zE8 hf (f i)
  have at7:∀{j:Nat},j<7→((List.range 7).map fun i=>PyData.str (nmT f g i))[j]? = some (.str (nmT f g j)):=fun hj=>by rw [getElem?_map,getElem?_range hj];rfl
  exact EltS.ift (EvB.to (EvB.cmp (Ev.call (.cglob zDm) (.cons (Ev.sub (.ccel hC' h.L (k:=2) (hv:=rfl)) (Ev.cloc h rfl) (SubS.item rfl (le_of_ble_eq_true rfl) (at7 hi))) .nil) (CallS.con0 (zCy hg _ ht) rfl rfl) (.k q69)) (Ev.bin .str (Ev.sub (.ccel hC' h.L (k:=2) (hv:=rfl)) (Ev.sub (.ccel hC' h.L (k:=7) (hv:=rfl)) (Ev.cloc h rfl) (SubS.itemD (le_of_ble_eq_true rfl) (zCk hi))) (SubS.item rfl (le_of_ble_eq_true rfl) (at7 (hf i hi)))) (BinS.addT (by rw [nmT,zAa,sizeLine_eq,show (Str.ofString ".").length=1 by decide];lia))) .neT) (zP4 hf hg hi)) (fun _=>Ev.cloc h rfl) ⟨rfl,rfl,rfl,rfl⟩
theorem yA1(hf:∀x,x<7→f x<7)(fin:∀ps nx z s x,cTabs nx→On c ps nx z s→SRep z (.d (.bool true)) x→Q (.ret x) s):J c Q (asN f) (B9 f g) ((lwSt 29::rest)::bs):=by
 conv=>arg 5;arg 1;arg 1;whnf
 have hl:=zC0 f
 refine J.ret (Ev.cmp (.loc rfl) (Ev.call (.built zL9 zKx (by decide)) (.cons (Ev.to (v':=.d (.list (pints (natI ((rings f).map lst))))) (Ev.compM (rings f) (fun r=>.list (pints (natI r))) (fun r=>.int (lst r:Nat)) (by (exact le_trans (by assumption) (le_of_ble_eq_true rfl))) (.loc rfl) fun r hr c' C h=>?elt) (congrArg (fun l=>SV.d (.list l)) (by rw [pints,natI,map_map,map_map];rfl))) .nil) (CallS.sortedI rfl (by rw [length_map,length_map];(exact lt_of_le_of_lt (by assumption) (le_of_ble_eq_true rfl))) (out:=natI ((List.range 7).filter (gone f))) fun l hp hs=>?sort) .b) .eqI') fun z s x O r=>fin _ _ z s x ⟨rfl,rfl⟩ O r
 case sort=>
  obtain ⟨l',rfl,hp'⟩:=zT0 hp
  exact congrArg natI (zHc hf ((pairwise_map.mp hs).imp ofNat_le.mp) hp').symm
 case elt=>
  obtain ⟨k,hk,K⟩:=zA8 hf hr
  obtain ⟨l,hl,hll⟩:=zD6 K.ne
  have h7:=(zAu hf hr).1
  exact .one (Ev.sub (Ev.cloc h rfl) .m1 (SubS.last (l:=l) (y:=.int (lst r:Nat)) (congrArg PyData.list hl) (by lia))) ⟨rfl,rfl,rfl,rfl⟩
end
theorem zW9:zAf (stAt 31)=(List.range 30).map lwSt:=by kernel_rfl
theorem yC2:yD4:=by
 intro fa cd c Q sl vs ns hC hsl hI hn fin
 rw [zW9]
 show J c Q _ _ [[lwSt 0,lwSt 1,lwSt 2,lwSt 3,lwSt 4,lwSt 5,lwSt 6,lwSt 7,lwSt 8,lwSt 9,lwSt 10,lwSt 11,lwSt 12,lwSt 13,lwSt 14,lwSt 15,lwSt 16,lwSt 17,lwSt 18,lwSt 19,lwSt 20,lwSt 21,lwSt 22,lwSt 23,lwSt 24,lwSt 25,lwSt 26,lwSt 27,lwSt 28,lwSt 29]]
 refine yC4 hC (yC5 hC hsl hI hn fun a b=>yC6 hC fun f hf=>yC7 hC fun g kh hg hk=>yC8 hC fun e sg he hsg=>?_)
 refine yC9 (yCa hC hf (yCb hC hf (yCc hC (yCd hC hf (zZi hC hf he hsg hk (zZj hf he (zZk hf he (zZl hC hf (zZm hC hf hg ?_)))))))))
 refine zZn hC hf (zZo hC hf hg (zZp hC hf hg (zZq hC hf hg (zZr hC hg (zZs hC hf hg (zZt hC hf (zZu hC hf hg (zZv hC hf ?_))))))))
 exact zZw hC hf (zZx hC hf (zZy hf (zZz hC hf (yA0 hC hf hg (yA1 hf fin)))))
theorem law_holds:PySem.Challenge.rw_xr0024_01.Holds:=zSr yC2
end
end Mine
theorem PySem.Challenge.cw_xr0024_01_holds : PySem.Challenge.rw_xr0024_01.Holds :=
  Mine.law_holds
