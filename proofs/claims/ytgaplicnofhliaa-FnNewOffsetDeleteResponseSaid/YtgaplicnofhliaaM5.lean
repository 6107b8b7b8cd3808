/- Generic texts: T3 T4 T6 Z1 Z2 R1 R2 R3 R4. No condition. -/
import Derived.Test.YtgaplicnofhliaaM4
import Derived.ChangeArms
import Derived.Deep.Slices
import Derived.OpenShut
import Derived.Lib.AppendZeros
namespace Go.Proofs.Ytgaplicnofhliaa.T
set_option linter.unusedVariables false
set_option linter.unusedSimpArgs false
theorem fixed_length (n:Int):∀ k,(fixed n k).length=k
  | 0=>rfl
  | k+1=>by simp [fixed,fixed_length n k]
theorem byteOf_nat (n:Int):(byteOf n).toNat=(n % 256).toNat:=by
  have h0:0≤n % 256:=Int.emod_nonneg _ (by decide)
  have h1:n % 256 < 256:=Int.emod_lt_of_pos _ (by decide)
  simp [byteOf]
  omega
theorem pow_pos256 (k:Nat):0 < (256:Int) ^ k:=Int.pow_pos (by decide)
theorem div_mod_pow (n:Int) (k:Nat):n / 256 ^ k % 256=n % 256 ^ (k+1) / 256 ^ k:=by
  have hp:=pow_pos256 k
  have e:(256:Int) ^ (k+1)=256 ^ k * 256:=Int.pow_succ _ _
  have h1:n % 256 ^ (k+1)=n+256 ^ k * (-(256 * (n / 256 ^ (k+1)))):=by
    have:=Int.mul_ediv_add_emod n (256 ^ (k+1))
    rw [e] at this ⊢
    have e2:(256:Int) ^ k * -(256 * (n / (256 ^ k * 256)))=-(256 ^ k * 256 * (n / (256 ^ k * 256))):=by
      rw [Int.mul_neg,Int.mul_assoc]
    omega
  rw [h1,Int.add_mul_ediv_left _ _ (by omega)]
  have h2:n / 256 ^ (k+1)=n / 256 ^ k / 256:=by rw [e,Int.ediv_ediv_of_nonneg (by omega)]
  rw [h2]
  omega
theorem fixed_mod {n m:Int}:∀ {k:Nat},n % 256 ^ k=m % 256 ^ k→fixed n k=fixed m k
  | 0,_=>rfl
  | k+1,h=>by
    have hd:n % 256 ^ k=m % 256 ^ k:=by
      have e:(256:Int) ^ (k+1)=256 ^ k * 256:=Int.pow_succ _ _
      have d:(256:Int) ^ k ∣ 256 ^ (k+1):=⟨256,e⟩
      rw [← Int.emod_emod_of_dvd n d,← Int.emod_emod_of_dvd m d,h]
    have hb:byteOf (n / 256 ^ k)=byteOf (m / 256 ^ k):=by
      unfold byteOf
      rw [div_mod_pow,div_mod_pow,h]
    simp [fixed,hb,fixed_mod hd]
theorem unfix_fixed (n:Int):∀ k,((unfix (fixed n k):Nat):Int)=n % 256 ^ k
  | 0=>by simp [fixed,unfix,Int.emod_one]
  | k+1=>by
    have hp:=pow_pos256 k
    have h0:0≤n / 256 ^ k % 256:=Int.emod_nonneg _ (by decide)
    simp only [fixed,unfix,fixed_length,byteOf_nat]
    rw [Int.natCast_add,Int.natCast_mul,unfix_fixed n k,Int.toNat_of_nonneg h0,div_mod_pow]
    have e:(256:Int) ^ (k+1)=256 ^ k * 256:=Int.pow_succ _ _
    have d:(256:Int) ^ k ∣ 256 ^ (k+1):=⟨256,e⟩
    rw [← Int.emod_emod_of_dvd n d]
    have:=Int.mul_ediv_add_emod (n % 256 ^ (k+1)) (256 ^ k)
    have ec:((256 ^ k:Nat):Int)=(256:Int) ^ k:=by rw [Int.natCast_pow];rfl
    rw [ec,Int.mul_comm]
    exact this
theorem pFix_fixed (n:Int) (k:Nat) (rest:Bytes):pFix k (fixed n k ++ rest)=some ((n % 256 ^ k).toNat,rest):=by
  have hl:=fixed_length n k
  unfold pFix
  rw [if_neg (by rw [List.length_append];omega),List.take_append_of_le_length (by omega),List.drop_append_of_le_length (by omega)]
  have h:=unfix_fixed n k
  have e1:(fixed n k).take k=fixed n k:=List.take_of_length_le (by omega)
  have e2:(fixed n k).drop k=[]:=List.drop_of_length_le (by omega)
  rw [e1,e2,← h]
  simp
theorem sgn_mod (k:Nat) (n:Nat):sgn k n % 256 ^ k=(n:Int) % 256 ^ k:=by
  unfold sgn
  split
  · rfl
  · have:((256 ^ k:Nat):Int)=(256:Int) ^ k:=by simp
    rw [this,Int.sub_emod_right]
theorem fixed_sgn (n:Int) (k:Nat):fixed (sgn k (n % 256 ^ k).toNat) k=fixed n k:=by
  refine fixed_mod ?_
  rw [sgn_mod,Int.toNat_of_nonneg (Int.emod_nonneg _ (by have:=pow_pos256 k;omega)),Int.emod_emod]
theorem pInt_fixed (n:Int) (k:Nat) (rest:Bytes):pInt k (fixed n k ++ rest)=some (sgn k (n % 256 ^ k).toNat,rest):=by
  unfold pInt
  rw [rThen_of (pFix_fixed n k rest)]
  rfl
theorem pInt_small {n:Nat} (k:Nat) (h:n < 256 ^ k / 2) (rest:Bytes):pInt k (fixed n k ++ rest)=some ((n:Int),rest):=by
  rw [pInt_fixed]
  have h2:(n:Int) % 256 ^ k=n:=by
    refine Int.emod_eq_of_lt (by omega) ?_
    have:((256 ^ k:Nat):Int)=(256:Int) ^ k:=by simp
    rw [← this]
    omega
  rw [h2]
  simp only [Int.toNat_natCast,sgn,if_pos h]
theorem uvarint_le {n:Nat} (h:n≤127):uvarint n=[UInt8.ofNat n]:=by unfold uvarint;simp [h]
theorem uvarint_gt {n:Nat} (h:¬ n≤127):uvarint n=UInt8.ofNat (n % 128+128) :: uvarint (n / 128):=by rw [uvarint];simp [h]
theorem pUvGo_uvarint:∀ (k m n:Nat) (rest:Bytes),n < 16 * 128 ^ k→pUvGo k m (uvarint n ++ rest)=some (n * m,rest)
  | 0,m,n,rest,h=>by
    have hn:n < 16:=by simpa using h
    rw [uvarint_le (by omega)]
    simp only [List.cons_append,List.nil_append,pUvGo]
    rw [if_pos (by simp;omega)]
    have:(UInt8.ofNat n).toNat=n:=by simp;omega
    rw [this]
  | k+1,m,n,rest,h=>by
    by_cases hn:n≤127
    · rw [uvarint_le hn]
      have:(UInt8.ofNat n).toNat=n:=by simp;omega
      simp only [List.cons_append,List.nil_append,pUvGo,this]
      rw [if_pos (by omega)]
    · rw [uvarint_gt hn]
      have e:(UInt8.ofNat (n % 128+128)).toNat=n % 128+128:=by simp;omega
      simp only [List.cons_append,pUvGo,e]
      rw [if_neg (by omega)]
      have hlt:n / 128 < 16 * 128 ^ k:=by
        rw [Nat.div_lt_iff_lt_mul (by decide)]
        have:16 * 128 ^ (k+1)=16 * 128 ^ k * 128:=by rw [Nat.pow_succ,Nat.mul_assoc]
        omega
      rw [pUvGo_uvarint k (m * 128) (n / 128) rest hlt]
      simp only [Option.map_some,Option.some.injEq,Prod.mk.injEq,and_true]
      have e1:(n % 128+128) % 128=n % 128:=by omega
      have e2:n / 128 * (m * 128)=n / 128 * 128 * m:=by
        rw [Nat.mul_comm m 128,Nat.mul_assoc]
      rw [e1,e2,← Nat.add_mul]
      congr 1
      omega
theorem pUv_uvarint {n:Nat} (h:n < 4294967296) (rest:Bytes):pUv (uvarint n ++ rest)=some (n,rest):=by
  unfold pUv
  rw [pUvGo_uvarint 4 1 n rest (by omega),Nat.mul_one]
theorem uvarint_pos (n:Nat):1≤(uvarint n).length:=by
  by_cases h:n≤127
  · simp [uvarint_le h]
  · simp [uvarint_gt h]
theorem pSpan_append (s rest:Bytes):pSpan (s.length:Int) (s ++ rest)=some (s,rest):=by
  unfold pSpan
  rw [if_neg (by simp;omega)]
  simp
theorem pCount_of {flex:Bool} {n size:Nat} (hn:n≤most) (hs:size=2∨size=4) (rest:Bytes):pCount flex size (counted flex false n size ++ rest)=some ((n:Int),rest):=by
  have hn':n≤32767:=hn
  cases flex
  · simp only [pCount,counted,Bool.false_eq_true,if_false]
    exact pInt_small size (by rcases hs with rfl | rfl <;> simp <;> omega) rest
  · simp only [pCount,counted,Bool.false_eq_true,if_false,if_true]
    rw [rThen_of (pUv_uvarint (by omega) rest)]
    simp only [rOk,Option.some.injEq,Prod.mk.injEq,and_true]
    omega
theorem pCount_null {flex:Bool} {n size:Nat} (hs:size=2∨size=4) (rest:Bytes):pCount flex size (counted flex true n size ++ rest)=some (-1,rest):=by
  cases flex
  · simp only [pCount,counted,Bool.false_eq_true,if_false,if_true]
    rw [pInt_fixed]
    rcases hs with rfl | rfl <;> rfl
  · simp only [pCount,counted,if_true]
    have:pUv ([0] ++ rest)=some (0,rest):=by simp [pUv,pUvGo]
    rw [rThen_of this]
    rfl
theorem pLen_of {flex:Bool} {n:Nat} (hn:n≤most) (rest:Bytes) (hr:n≤rest.length):pLen flex (counted flex false n 4 ++ rest)=some ((n:Int),rest):=by
  have hn':n≤32767:=hn
  unfold pLen
  have:(if flex then rThen pUv fun n=>rOk (if n=2147483648 then (2147483647:Int) else (if n < 2147483648 then (n:Int) else (n:Int) - 4294967296) - 1) else pInt 4) (counted flex false n 4 ++ rest)=some ((n:Int),rest):=by
    cases flex
    · simp only [counted,Bool.false_eq_true,if_false]
      exact pInt_small 4 (by omega) rest
    · simp only [counted,Bool.false_eq_true,if_false,if_true]
      rw [rThen_of (pUv_uvarint (by omega) rest),if_neg (by omega),if_pos (by omega)]
      simp only [rOk,Option.some.injEq,Prod.mk.injEq,and_true]
      omega
  rw [rThen_of this,if_neg (by omega)]
theorem pLen_null {flex:Bool} {n:Nat} (rest:Bytes):pLen flex (counted flex true n 4 ++ rest)=some (-1,rest):=by
  unfold pLen
  have:(if flex then rThen pUv fun n=>rOk (if n=2147483648 then (2147483647:Int) else (if n < 2147483648 then (n:Int) else (n:Int) - 4294967296) - 1) else pInt 4) (counted flex true n 4 ++ rest)=some (-1,rest):=by
    cases flex
    · simp only [counted,Bool.false_eq_true,if_false,if_true]
      rw [pInt_fixed]
      rfl
    · simp only [counted,if_true]
      have:pUv ([0] ++ rest)=some (0,rest):=by simp [pUv,pUvGo]
      rw [rThen_of this]
      rfl
  rw [rThen_of this,if_neg (by omega)]
theorem counted_pos (flex null:Bool) (n size:Nat) (hs:1≤size):1≤(counted flex null n size).length:=by
  unfold counted
  cases flex <;> cases null <;> simp [fixed_length,hs]
  exact uvarint_pos _
theorem whole_length (b:Bytes):(whole b).length≤most:=by simp [whole];omega
theorem whole_whole (b:Bytes):whole (whole b)=whole b:=by unfold whole;rw [List.take_take,Nat.min_self]
theorem whole_of {b:Bytes} (h:b.length≤most):whole b=b:=by simp [whole,List.take_of_length_le h]
def Sorted (l:List (Nat × Bytes)):Prop:=l.Pairwise fun a b=>a.1 < b.1
theorem insTag_mem {t x:Nat × Bytes}:∀ {l:List (Nat × Bytes)},x ∈ insTag t l→x=t∨x ∈ l
  | [],h=>by simp [insTag] at h;exact .inl h
  | y :: l,h=>by
    simp only [insTag] at h
    split at h
    · rcases List.mem_cons.1 h with rfl | h
      · exact .inr (by simp)
      · exact (insTag_mem h).imp id fun h=>List.mem_cons_of_mem _ h
    · split at h
      · exact .inr h
      · rcases List.mem_cons.1 h with rfl | h
        · exact .inl rfl
        · exact .inr h
theorem insTag_sorted {t:Nat × Bytes}:∀ {l:List (Nat × Bytes)},Sorted l→Sorted (insTag t l)
  | [],_=>by simp [insTag,Sorted]
  | y :: l,h=>by
    have h':=List.pairwise_cons.1 h
    simp only [insTag]
    split
    · rename_i hy
      refine List.pairwise_cons.2 ⟨fun a ha=>?_,insTag_sorted h'.2⟩
      rcases insTag_mem ha with rfl | ha
      · exact hy
      · exact h'.1 _ ha
    · split
      · exact h
      · refine List.pairwise_cons.2 ⟨fun a ha=>?_,h⟩
        rcases List.mem_cons.1 ha with rfl | ha
        · omega
        · have:=h'.1 _ ha
          omega
theorem insTag_length (t:Nat × Bytes):∀ l:List (Nat × Bytes),(insTag t l).length≤l.length+1
  | []=>by simp [insTag]
  | y :: l=>by
    have:=insTag_length t l
    simp only [insTag]
    split
    · simp;omega
    · split <;> simp
theorem insTag_end {t:Nat × Bytes}:∀ {l:List (Nat × Bytes)},(∀ x ∈ l,x.1 < t.1)→insTag t l=l ++ [t]
  | [],_=>rfl
  | y :: l,h=>by
    simp only [insTag,List.cons_append]
    rw [if_pos (h y (by simp)),insTag_end fun x hx=>h x (List.mem_cons_of_mem _ hx)]
theorem setTag_end {t:Nat × Bytes}:∀ {l:List (Nat × Bytes)},(∀ x ∈ l,x.1 < t.1)→setTag t l=l ++ [t]
  | [],_=>rfl
  | y :: l,h=>by
    simp only [setTag,List.cons_append]
    rw [if_pos (h y (by simp)),setTag_end fun x hx=>h x (List.mem_cons_of_mem _ hx)]
theorem foldl_ins {u:List (Nat × Bytes)}:∀ (l:List (Nat × Bytes)),Sorted l→(∀ x ∈ l,x ∈ u)→∀ v:List (Nat × Bytes),(∀ x ∈ v,x ∈ u) →
    Sorted (v.foldl (fun acc t=>insTag t acc) l)∧(∀ x ∈ v.foldl (fun acc t=>insTag t acc) l,x ∈ u)∧(v.foldl (fun acc t=>insTag t acc) l).length≤l.length+v.length:=by
  intro l hl hm v
  induction v generalizing l with
  | nil=>intro _;exact ⟨hl,hm,by simp⟩
  | cons t v ih =>
    intro hv
    have:=ih (insTag t l) (insTag_sorted hl) (fun x hx=>by
      rcases insTag_mem hx with rfl | hx
      · exact hv _ (by simp)
      · exact hm _ hx) (fun x hx=>hv x (List.mem_cons_of_mem _ hx))
    refine ⟨this.1,this.2.1,?_⟩
    have h1:=insTag_length t l
    have h2:=this.2.2
    simp only [List.foldl_cons,List.length_cons]
    omega
theorem unknown_facts (u:List (Nat × Bytes)):Sorted (unknown u)∧(∀ x ∈ unknown u,x ∈ u)∧(unknown u).length≤most:=by
  have h:=foldl_ins (u:=u) [] (by simp [Sorted]) (by simp) (u.take most) (fun x hx=>List.mem_of_mem_take hx)
  refine ⟨h.1,h.2.1,?_⟩
  have:=h.2.2
  have h2:(u.take most).length≤most:=by simp;omega
  unfold unknown
  simp only [List.length_nil] at this
  omega
theorem foldl_sorted:∀ (v acc:List (Nat × Bytes)),Sorted (acc ++ v)→v.foldl (fun acc t=>insTag t acc) acc=acc ++ v
  | [],acc,_=>by simp
  | t :: v,acc,h=>by
    have h':=List.pairwise_append.1 h
    simp only [List.foldl_cons]
    rw [insTag_end fun x hx=>h'.2.2 x hx t (by simp),foldl_sorted v (acc ++ [t]) (by simpa [Sorted] using h)]
    simp
theorem unknown_id {u:List (Nat × Bytes)} (h:Sorted u) (hl:u.length≤most):unknown u=u:=by
  unfold unknown
  rw [List.take_of_length_le hl]
  exact foldl_sorted u [] h
def FitTags (u:List (Nat × Bytes)):Prop:=unknown u=u∧u.length≤most∧∀ x ∈ u,x.1 < 4294967296∧x.2.length≤most
theorem pTagN_of:∀ (l acc:List (Nat × Bytes)) (rest:Bytes),(∀ x ∈ l,x.1 < 4294967296)→Sorted (acc ++ l) →
    pTagN l.length acc (l.flatMap wTag ++ rest)=some (acc ++ l.map fun x=>(x.1,whole x.2),rest)
  | [],acc,rest,_,_=>by simp [pTagN,rOk]
  | t :: l,acc,rest,hk,hs=>by
    have h':=List.pairwise_append.1 hs
    have hw:=whole_length t.2
    have hw':(whole t.2).length≤32767:=hw
    simp only [List.flatMap_cons,List.length_cons,pTagN,wTag,List.append_assoc]
    rw [rThen_of (pUv_uvarint (hk t (by simp)) _),rThen_of (pUv_uvarint (by omega) _),rThen_of (pSpan_append _ _),setTag_end (t:=(t.1,whole t.2)) fun x hx=>h'.2.2 x hx t (by simp)]
    rw [pTagN_of l (acc ++ [(t.1,whole t.2)]) rest (fun x hx=>hk x (List.mem_cons_of_mem _ hx)) ?_]
    · simp
    · have h2:=(List.pairwise_cons.1 h'.2.1)
      rw [List.append_assoc]
      refine List.pairwise_append.2 ⟨h'.1,List.pairwise_cons.2 ⟨fun a ha=>h2.1 a ha,h2.2⟩,fun a ha b hb=>?_⟩
      rcases List.mem_cons.1 hb with rfl | hb
      · exact h'.2.2 a ha t (by simp)
      · exact h'.2.2 a ha b (List.mem_cons_of_mem _ hb)
theorem pTags_of (flex:Bool) (u:List (Nat × Bytes)) (rest:Bytes) (hk:∀ x ∈ u,x.1 < 4294967296) :
    ∃ u',pTags flex (wTags flex u ++ rest)=some (u',rest)∧FitTags u'∧wTags flex u'=wTags flex u:=by
  cases flex
  · exact ⟨[],rfl,⟨rfl,by simp,by simp⟩,rfl⟩
  · obtain ⟨h1,h2,h3⟩:=unknown_facts u
    have hl:((unknown u).map fun x=>(x.1,whole x.2)).length=(unknown u).length:=by simp
    have hs:Sorted ((unknown u).map fun x=>(x.1,whole x.2)):=by
      unfold Sorted
      rw [List.pairwise_map]
      exact h1
    have hid:=unknown_id hs (by omega)
    have h3':(unknown u).length≤32767:=h3
    refine ⟨(unknown u).map fun x=>(x.1,whole x.2),?_,⟨hid,by omega,?_⟩,?_⟩
    · simp only [pTags,wTags,if_true,List.append_assoc]
      rw [rThen_of (pUv_uvarint (by omega) _),pTagN_of _ [] rest (fun x hx=>hk x (h2 x hx)) (by simpa using h1)]
      simp
    · intro x hx
      obtain ⟨y,hy,rfl⟩:=List.mem_map.1 hx
      exact ⟨hk y (h2 y hy),whole_length _⟩
    · simp only [wTags,if_true,hid,hl]
      congr 1
      rw [List.flatMap_map]
      congr 1
      funext x
      simp only [wTag,whole_whole]
theorem pPrim_of (flex nul:Bool) (t:Tree) (k:PK) (rest:Bytes):∃ t',pPrim flex nul k (wPrim flex false t k ++ rest)=some (t',rest)∧t'.s.length≤most∧t'.null=false∧wPrim flex false t' k=wPrim flex false t k:=by
  have hm:(16:Nat)≤most:=by decide
  have hint:∀ w:Nat,∃ t',(rThen (pInt w) fun n=>rOk (tN n)) (fixed t.n w ++ rest)=some (t',rest)∧t'.s.length≤most∧t'.null=false∧fixed t'.n w=fixed t.n w:=by
    intro w
    refine ⟨tN (sgn w (t.n % 256 ^ w).toNat),?_,by simp [tN,Tree.s],rfl,fixed_sgn t.n w⟩
    rw [rThen_of (pInt_fixed t.n w rest)]
    rfl
  cases k
  case bool =>
    have hb:t.n % 2=0∨t.n % 2=1:=by omega
    rcases hb with hb | hb
    · refine ⟨tN 0,?_,by simp [tN,Tree.s],rfl,?_⟩
      · simp only [pPrim,wPrim,hb]
        rfl
      · show [byteOf (0 % 2)]=[byteOf (t.n % 2)]
        rw [hb]
        rfl
    · refine ⟨tN 1,?_,by simp [tN,Tree.s],rfl,?_⟩
      · simp only [pPrim,wPrim,hb]
        rfl
      · show [byteOf (1 % 2)]=[byteOf (t.n % 2)]
        rw [hb]
        rfl
  case u16 =>
    refine ⟨tN (t.n % 256 ^ 2).toNat,?_,by simp [tN,Tree.s],rfl,?_⟩
    · simp only [pPrim,wPrim,PK.width]
      rw [rThen_of (pFix_fixed t.n 2 rest)]
      rfl
    · simp only [wPrim,PK.width,tN,Tree.n]
      refine fixed_mod ?_
      rw [Int.toNat_of_nonneg (Int.emod_nonneg _ (by decide)),Int.emod_emod]
  case uuid =>
    have hl:((t.s ++ List.replicate 16 0).take 16).length=16:=by simp
    refine ⟨tS ((t.s ++ List.replicate 16 0).take 16),?_,by show List.length (List.take 16 (t.s ++ List.replicate 16 0))≤most;omega,rfl,?_⟩
    · simp only [pPrim,wPrim]
      have:=pSpan_append ((t.s ++ List.replicate 16 0).take 16) rest
      rw [hl] at this
      rw [rThen_of (p:=pSpan 16) this]
      rfl
    · show List.take 16 (List.take 16 (t.s ++ List.replicate 16 0) ++ List.replicate 16 0)=List.take 16 (t.s ++ List.replicate 16 0)
      rw [List.take_append_of_le_length (by omega),List.take_take,Nat.min_self]
  case str =>
    refine ⟨tS (whole t.s),?_,whole_length _,rfl,?_⟩
    · simp only [pPrim,wPrim,Bool.false_eq_true,if_false,List.append_assoc]
      rw [rThen_of (pCount_of (whole_length t.s) (.inl rfl) _),if_neg (by simp),rThen_of (pSpan_append _ _)]
      rfl
    · simp [wPrim,tS,Tree.s,whole_whole]
  case bytes =>
    refine ⟨tS (whole t.s),?_,whole_length _,rfl,?_⟩
    · simp only [pPrim,wPrim,Bool.false_eq_true,if_false,List.append_assoc]
      rw [rThen_of (pCount_of (whole_length t.s) (.inr rfl) _),if_neg (by simp),if_neg (by simp),rThen_of (pSpan_append _ _)]
      rfl
    · simp [wPrim,tS,Tree.s,whole_whole]
  all_goals exact hint _
theorem wPrim_pos (flex null:Bool) (t:Tree) (k:PK):1≤(wPrim flex null t k).length:=by
  cases k <;> simp [wPrim,fixed_length,PK.width]
  case str=>have:=counted_pos flex null (if null then ([]:Bytes) else whole t.s).length 2 (by decide);cases null <;> simp at this ⊢ <;> omega
  case bytes=>have:=counted_pos flex null (if null then ([]:Bytes) else whole t.s).length 4 (by decide);cases null <;> simp at this ⊢ <;> omega
mutual
def neTy (ver:Int) (flex:Bool):Ty→Bool
  | .prim _=>true
  | .list _ _ _ _=>true
  | .struct _ _ _ _ fs=>flex || neFs ver flex fs
def neFs (ver:Int) (flex:Bool):Fs→Bool
  | .nil=>false
  | .cons h ty r=>(h.has ver && (decide (0≤h.null) || neTy ver flex ty)) || neFs ver flex r
end
def canNull:Ty→Bool
  | .prim k=>k == .str || k == .bytes
  | _=>true
mutual
def okTy (ver:Int) (flex:Bool):Ty→Bool
  | .prim _=>true
  | .list _ _ _ of=>neTy ver flex of && okTy ver flex of
  | .struct _ _ _ _ fs=>okFsR ver flex fs
def okFsR (ver:Int) (flex:Bool):Fs→Bool
  | .nil=>true
  | .cons h ty r=>(!h.has ver || (okTy ver flex ty && (decide (h.null < 0) || canNull ty))) && okFsR ver flex r
end
mutual
theorem ne_ty (ver:Int) (flex:Bool):∀ (ty:Ty) (t:Tree),neTy ver flex ty=true→1≤(wTy ver flex ty false t).length
  | .prim k,t,_=>by simp only [wTy];exact wPrim_pos _ _ _ _
  | .list _ _ _ of,t,_=>by
    simp only [wTy,Bool.false_eq_true,if_false,List.length_append]
    have:=counted_pos flex false (t.l.take most).length 4 (by decide)
    omega
  | .struct _ _ _ _ fs,t,h=>by
    simp only [wTy,List.length_append]
    simp only [neTy,Bool.or_eq_true] at h
    rcases h with rfl | h
    · simp only [wTags,if_true,List.length_append]
      have:=uvarint_pos (unknown t.u).length
      omega
    · have:=ne_fs ver flex fs t.l h
      omega
theorem ne_fs (ver:Int) (flex:Bool):∀ (fs:Fs) (ts:List Tree),neFs ver flex fs=true→1≤(wFs ver flex fs ts).length
  | .nil,_,h=>by simp [neFs] at h
  | .cons hd ty r,ts,h=>by
    rw [wFs_cons]
    simp only [neFs,Bool.or_eq_true,Bool.and_eq_true] at h
    simp only [List.length_append]
    rcases h with ⟨h1,h2⟩ | h
    · rw [if_pos h1]
      have ih:=ne_ty ver flex ty (ts.headD Tree.zero)
      have:1≤(wField ver flex hd ty (ts.headD Tree.zero)).length:=by
        cases ty with
        | prim k=>simp only [wField,wTy];exact wPrim_pos _ _ _ _
        | list a b c of =>
          simp only [wField,wTy,List.length_append]
          have:=counted_pos flex (hd.isNull ver (ts.headD Tree.zero)) (if hd.isNull ver (ts.headD Tree.zero) then ([]:List Tree) else (ts.headD Tree.zero).l.take most).length 4 (by decide)
          omega
        | struct a b c d fs' =>
          simp only [wField]
          by_cases hn:0≤hd.null
          · rw [if_pos hn]
            split <;> simp
          · rw [if_neg hn]
            exact ih (by simpa [hn] using h2)
      omega
    · have:=ne_fs ver flex r ts.tail h
      omega
end
mutual
def KTy (ver:Int):Ty→Tree→Prop
  | .prim _,_=>True
  | .list _ _ _ of,t=>∀ x ∈ t.l,KTy ver of x
  | .struct _ _ _ _ fs,t=>KFs ver fs t.l∧∀ x ∈ t.u,x.1 < 4294967296
def KFs (ver:Int):Fs→List Tree→Prop
  | .nil,_=>True
  | .cons h ty r,ts=>(h.has ver=true→KTy ver ty (ts.headD Tree.zero))∧KFs ver r ts.tail
end
mutual
def FitTy (ver:Int):Ty→Tree→Prop
  | .prim _,t=>t.s.length≤most
  | .list _ _ _ of,t=>t.l.length≤most∧∀ x ∈ t.l,FitTy ver of x
  | .struct _ _ _ _ fs,t=>t=tNull∨(FitFs ver fs t.l∧FitTags t.u)
def FitFs (ver:Int):Fs→List Tree→Prop
  | .nil,_=>True
  | .cons h ty r,ts=>(h.has ver=true→FitTy ver ty (ts.headD Tree.zero))∧FitFs ver r ts.tail
end
theorem pMany_of {p:Rd Tree} {w:Tree→Bytes} {R:Tree→Prop} (hp:∀ t rest,R t→∃ t',p (w t ++ rest)=some (t',rest)∧w t'=w t) {Fit:Tree→Prop} (hp':∀ t rest t' ,R t→p (w t ++ rest)=some (t',rest)→Fit t') :
    ∀ (l:List Tree) (rest:Bytes),(∀ x ∈ l,R x)→∃ l',pMany p l.length (l.flatMap w ++ rest)=some (l',rest)∧l'.length=l.length∧(∀ x ∈ l',Fit x)∧l'.flatMap w=l.flatMap w
  | [],rest,_=>⟨[],by simp [pMany,rOk]⟩
  | t :: l,rest,hR=>by
    obtain ⟨t',h1,h2⟩:=hp t (l.flatMap w ++ rest) (hR t (by simp))
    obtain ⟨l',q1,q2,q3,q4⟩:=pMany_of hp hp' l rest fun x hx=>hR x (List.mem_cons_of_mem _ hx)
    refine ⟨t' :: l',?_,by simp [q2],?_,by simp [h2,q4]⟩
    · simp only [List.flatMap_cons,List.length_cons,pMany,List.append_assoc]
      rw [rThen_of h1,rThen_of q1]
      rfl
    · intro x hx
      rcases List.mem_cons.1 hx with rfl | hx
      · exact hp' t _ _ (hR t (by simp)) h1
      · exact q3 x hx
theorem flatMap_len {w:Tree→Bytes} (h:∀ t,1≤(w t).length):∀ l:List Tree,l.length≤(l.flatMap w).length
  | []=>by simp
  | t :: l=>by
    have:=flatMap_len h l
    have:=h t
    simp only [List.flatMap_cons,List.length_cons,List.length_append]
    omega
def wN (ver:Int) (flex:Bool) (ty:Ty) (nul:Bool) (t:Tree):Bytes :=
  match ty with
  | .struct _ _ _ _ _=>if nul then 1 :: wTy ver flex ty false t else wTy ver flex ty false t
  | _=>wTy ver flex ty false t
theorem isNull_false {h:Hd} {ver:Int} {t:Tree} (ht:t.null=false):h.isNull ver t=false:=by simp [Hd.isNull,ht]
mutual
theorem rt_ty (ver:Int) (flex:Bool):∀ (ty:Ty) (nul:Bool) (t:Tree) (rest:Bytes),okTy ver flex ty=true→KTy ver ty t →
    ∃ t',pTy ver flex ty nul (wN ver flex ty nul t ++ rest)=some (t',rest)∧FitTy ver ty t'∧t'.null=false∧wTy ver flex ty false t'=wTy ver flex ty false t
  | .prim k,nul,t,rest,_,_=>by
    obtain ⟨t',h1,h2,h3,h4⟩:=pPrim_of flex nul t k rest
    exact ⟨t',by simpa [pTy,wTy,wN] using h1,by simpa [FitTy] using h2,h3,by simpa [wTy] using h4⟩
  | .list a b c of,nul,t,rest,hok,hk=>by
    simp only [okTy,Bool.and_eq_true] at hok
    simp only [KTy] at hk
    have hne:=fun t=>ne_ty ver flex of t hok.1
    have hml:(t.l.take most).length≤most:=by simp;omega
    have e:∀ x r,wN ver flex of false x ++ r=wTy ver flex of false x ++ r:=by intro x r;cases of <;> simp [wN]
    obtain ⟨l',h1,h2,h3,h4⟩:=pMany_of (p:=pTy ver flex of false) (w:=fun x=>wTy ver flex of false x) (R:=fun x=>KTy ver of x)
      (fun x r hx=>by
        obtain ⟨t',q1,q2,q3,q4⟩:=rt_ty ver flex of false x r hok.2 hx
        exact ⟨t',by rw [← e];exact q1,q4⟩) (Fit:=FitTy ver of)
      (fun x r t' hx hp=>by
        obtain ⟨t2,q1,q2,q3,q4⟩:=rt_ty ver flex of false x r hok.2 hx
        rw [e,hp] at q1
        simp only [Option.some.injEq,Prod.mk.injEq,and_true] at q1
        rw [q1]
        exact q2)
      (t.l.take most) rest (fun x hx=>hk x (List.mem_of_mem_take hx))
    refine ⟨tL l',?_,⟨by simp only [tL,Tree.l];omega,by simpa [tL,Tree.l] using h3⟩,rfl,?_⟩
    · simp only [pTy,wN,wTy,Bool.false_eq_true,if_false,List.append_assoc]
      have hfl:=flatMap_len (w:=fun x=>wTy ver flex of false x) hne (t.l.take most)
      rw [rThen_of (pLen_of hml _ (by rw [List.length_append];omega)),if_neg (by simp)]
      simp only [Int.toNat_natCast]
      rw [rThen_of h1]
      rfl
    · simp only [wTy,Bool.false_eq_true,if_false]
      rw [show (tL l').l=l' from rfl,List.take_of_length_le (by omega),h2,h4]
  | .struct a b c d fs,nul,t,rest,hok,hk=>by
    simp only [okTy] at hok
    simp only [KTy] at hk
    obtain ⟨u',q1,q2,q3⟩:=pTags_of flex t.u rest hk.2
    obtain ⟨ts',h1,h2,h3⟩:=rt_fs ver flex fs t.l (wTags flex t.u ++ rest) hok hk.1
    refine ⟨.mk 0 [] false ts' u',?_,by simp only [FitTy];exact .inr ⟨h2,q2⟩,rfl,?_⟩
    · simp only [pTy,wN,wTy]
      have e:(if nul then pInt 1 else rOk 0) ((if nul then 1 :: (wFs ver flex fs t.l ++ wTags flex t.u) else wFs ver flex fs t.l ++ wTags flex t.u) ++ rest)=some ((if nul then 1 else 0:Int),wFs ver flex fs t.l ++ (wTags flex t.u ++ rest)):=by
        cases nul
        · simp [rOk]
        · simp only [if_true,List.cons_append,List.append_assoc]
          exact pInt_small (n:=1) 1 (by decide) (wFs ver flex fs t.l ++ (wTags flex t.u ++ rest))
      rw [rThen_of e,if_neg (by cases nul <;> simp),rThen_of h1,rThen_of q1]
      rfl
    · simp only [wTy,Tree.l,Tree.u,h3,q3]
theorem rt_fs (ver:Int) (flex:Bool):∀ (fs:Fs) (ts:List Tree) (rest:Bytes),okFsR ver flex fs=true→KFs ver fs ts →
    ∃ ts',pFs ver flex fs (wFs ver flex fs ts ++ rest)=some (ts',rest)∧FitFs ver fs ts'∧wFs ver flex fs ts'=wFs ver flex fs ts
  | .nil,ts,rest,_,_=>⟨[],by simp [pFs,wFs,rOk],by simp [FitFs],rfl⟩
  | .cons h ty r,ts,rest,hok,hk=>by
    simp only [okFsR,Bool.and_eq_true,Bool.or_eq_true,Bool.not_eq_true'] at hok
    simp only [KFs] at hk
    obtain ⟨xs,h1,h2,h3⟩:=rt_fs ver flex r ts.tail rest hok.2 hk.2
    by_cases hh:h.has ver=true
    · obtain ⟨ho1,ho2⟩:okTy ver flex ty=true∧(decide (h.null < 0)=true∨canNull ty=true):=by
        rcases hok.1 with h0 | h0
        · rw [hh] at h0;simp at h0
        · exact h0
      have key:∃ t',pTy ver flex ty (nulAt ver h ty) (wField ver flex h ty (ts.headD Tree.zero) ++ (wFs ver flex r ts.tail ++ rest))=some (t',wFs ver flex r ts.tail ++ rest)∧FitTy ver ty t'∧wField ver flex h ty t'=wField ver flex h ty (ts.headD Tree.zero):=by
        have hk1:=hk.1 hh
        generalize ts.headD Tree.zero=t at hk1
        generalize wFs ver flex r ts.tail ++ rest=rest'
        cases hn:h.isNull ver t with
        | true =>
          have hn':(0≤h.null)∧h.null≤ver:=by
            simp only [Hd.isNull,Bool.and_eq_true,decide_eq_true_eq] at hn
            exact hn.2
          have hn2:h.isNull ver tNull=true:=by simp [Hd.isNull,tNull,Tree.null,hn']
          have hcan:canNull ty=true:=by
            rcases ho2 with h0 | h0
            · simp at h0;omega
            · exact h0
          refine ⟨tNull,?_,?_,?_⟩
          · cases ty with
            | prim k =>
              simp only [wField,hn,pTy,nulAt,wTy]
              cases k <;> simp [canNull] at hcan
              · simp only [pPrim,wPrim,if_true,List.length_nil,List.append_nil,hn',decide_true,Bool.and_self]
                rw [rThen_of (pCount_null (.inl rfl) _),if_pos (by simp)]
                rfl
              · simp only [pPrim,wPrim,if_true,List.length_nil,List.append_nil,hn',decide_true,Bool.and_self]
                rw [rThen_of (pCount_null (.inr rfl) _),if_pos (by simp)]
                rfl
            | list a b c of =>
              simp only [wField,hn,pTy,nulAt,wTy,if_true,List.length_nil,List.flatMap_nil,List.append_nil,hn',decide_true,Bool.and_self]
              rw [rThen_of (pLen_null _),if_pos (by simp)]
              rfl
            | struct a b c d fs =>
              simp only [wField,hn,pTy,nulAt,if_pos hn'.1,if_true,decide_eq_true hn'.1]
              have:pInt 1 ([255] ++ rest')=some (-1,rest'):=by
                simp [pInt,pFix,rThen,rOk,unfix,sgn]
              rw [rThen_of this,if_pos (by simp)]
              rfl
          · cases ty with
            | prim k=>simp [FitTy,tNull,Tree.s]
            | list a b c of=>simp [FitTy,tNull,Tree.l]
            | struct a b c d fs=>simp only [FitTy];exact .inl trivial
          · cases ty with
            | prim k =>
              simp only [wField,hn,hn2,wTy]
              cases k <;> simp [canNull] at hcan <;> simp [wPrim]
            | list a b c of=>simp [wField,hn,hn2,wTy]
            | struct a b c d fs=>simp only [wField,hn,hn2,if_pos hn'.1,if_true]
        | false =>
          obtain ⟨t',q1,q2,q3,q4⟩:=rt_ty ver flex ty (nulAt ver h ty) t rest' ho1 hk1
          refine ⟨t',?_,q2,?_⟩
          · have e:wField ver flex h ty t=wN ver flex ty (nulAt ver h ty) t:=by
              cases ty <;> simp only [wField,wN,hn,nulAt,decide_eq_true_eq,Bool.false_eq_true,if_false]
            rw [e]
            exact q1
          · have hn2:h.isNull ver t'=false:=isNull_false q3
            cases ty <;> simp only [wField,hn,hn2,Bool.false_eq_true,if_false,q4]
      obtain ⟨t',k1,k2,k3⟩:=key
      refine ⟨t' :: xs,?_,?_,?_⟩
      · simp only [pFs]
        rw [wFs_cons,if_pos hh,if_pos hh,List.append_assoc,rThen_of k1,rThen_of h1]
        rfl
      · simp only [FitFs,List.headD_cons,List.tail_cons]
        exact ⟨fun _=>k2,h2⟩
      · rw [wFs_cons,wFs_cons,if_pos hh,if_pos hh]
        simp only [List.headD_cons,List.tail_cons,k3,h3]
    · refine ⟨Tree.zero :: xs,?_,?_,?_⟩
      · simp only [pFs]
        rw [wFs_cons,if_neg hh,if_neg hh,List.nil_append,rThen_of (show rOk Tree.zero _=some (Tree.zero,_) from rfl),rThen_of h1]
        rfl
      · simp only [FitFs,List.tail_cons]
        exact ⟨fun h=>absurd h hh,h2⟩
      · rw [wFs_cons,wFs_cons,if_neg hh,if_neg hh]
        simp only [List.tail_cons,h3]
end
end Go.Proofs.Ytgaplicnofhliaa.T
namespace Go.Proofs.Ytgaplicnofhliaa.T
set_option linter.unusedVariables false
set_option linter.unusedSimpArgs false
theorem setTag_mem {t x:Nat × Bytes}:∀ {l:List (Nat × Bytes)},x ∈ setTag t l→x=t∨x ∈ l
  | [],h=>by simp [setTag] at h;exact .inl h
  | y :: l,h=>by
    simp only [setTag] at h
    split at h
    · rcases List.mem_cons.1 h with rfl | h
      · exact .inr (by simp)
      · exact (setTag_mem h).imp id fun h=>List.mem_cons_of_mem _ h
    · split at h
      · exact (List.mem_cons.1 h).imp id fun h=>List.mem_cons_of_mem _ h
      · exact (List.mem_cons.1 h).imp id fun h=>h
theorem setTag_sorted {t:Nat × Bytes}:∀ {l:List (Nat × Bytes)},Sorted l→Sorted (setTag t l)
  | [],_=>by simp [setTag,Sorted]
  | y :: l,h=>by
    have h':=List.pairwise_cons.1 h
    simp only [setTag]
    split
    · rename_i hy
      refine List.pairwise_cons.2 ⟨fun a ha=>?_,setTag_sorted h'.2⟩
      rcases setTag_mem ha with rfl | ha
      · exact hy
      · exact h'.1 _ ha
    · split
      · rename_i he
        exact List.pairwise_cons.2 ⟨fun a ha=>by have:=h'.1 a ha;omega,h'.2⟩
      · refine List.pairwise_cons.2 ⟨fun a ha=>?_,h⟩
        rcases List.mem_cons.1 ha with rfl | ha
        · omega
        · have:=h'.1 _ ha
          omega
theorem setTag_length (t:Nat × Bytes):∀ l:List (Nat × Bytes),(setTag t l).length≤l.length+1
  | []=>by simp [setTag]
  | y :: l=>by
    have:=setTag_length t l
    simp only [setTag]
    split
    · simp;omega
    · split <;> simp
theorem pUvGo_facts:∀ (k m:Nat) (b r:Bytes) (n:Nat),0 < m→pUvGo k m b=some (n,r)→n < 16 * 128 ^ k * m∧r.length+1≤b.length
  | k,m,[],r,n,_,h=>by simp [pUvGo] at h
  | 0,m,u :: b,r,n,hm,h=>by
    simp only [pUvGo] at h
    split at h
    · simp only [Option.some.injEq,Prod.mk.injEq] at h
      obtain ⟨rfl,rfl⟩:=h
      refine ⟨?_,by simp⟩
      have:u.toNat * m≤15 * m:=Nat.mul_le_mul_right _ (by assumption)
      simp only [Nat.pow_zero,Nat.mul_one]
      omega
    · simp at h
  | k+1,m,u :: b,r,n,hm,h=>by
    have h128:1≤128 ^ k:=Nat.pow_pos (by decide)
    have e:16 * 128 ^ (k+1) * m=128 * (16 * 128 ^ k * m):=by
      rw [Nat.pow_succ]
      simp only [Nat.mul_comm,Nat.mul_left_comm]
    have hge:16 * m≤16 * 128 ^ k * m:=Nat.mul_le_mul_right _ (by omega)
    simp only [pUvGo] at h
    split at h
    · simp only [Option.some.injEq,Prod.mk.injEq] at h
      obtain ⟨rfl,rfl⟩:=h
      refine ⟨?_,by simp⟩
      have:u.toNat * m≤127 * m:=Nat.mul_le_mul_right _ (by omega)
      omega
    · cases hp:pUvGo k (m * 128) b with
      | none=>rw [hp] at h;simp at h
      | some z =>
        rw [hp] at h
        simp only [Option.map_some,Option.some.injEq,Prod.mk.injEq] at h
        obtain ⟨h1,h2⟩:=pUvGo_facts k (m * 128) b z.2 z.1 (by omega) hp
        obtain ⟨rfl,rfl⟩:=h
        refine ⟨?_,by simp;omega⟩
        have hd:=pUvGo_dvd k (m * 128) b z.2 z.1 hp
        obtain ⟨q,hq⟩:=hd
        have hq1:q < 16 * 128 ^ k:=by
          rw [hq,Nat.mul_comm (16 * 128 ^ k)] at h1
          exact Nat.lt_of_mul_lt_mul_left h1
        have hu:u.toNat % 128 * m≤127 * m:=Nat.mul_le_mul_right _ (by omega)
        have hq2:m * 128 * q≤m * 128 * (16 * 128 ^ k - 1):=Nat.mul_le_mul_left _ (by omega)
        have e2:m * 128 * (16 * 128 ^ k - 1)+m * 128=128 * (16 * 128 ^ k * m):=by
          rw [← Nat.mul_succ,Nat.succ_eq_add_one,Nat.sub_add_cancel (by omega)]
          simp only [Nat.mul_assoc,Nat.mul_comm,Nat.mul_left_comm]
        rw [e,hq]
        omega
where pUvGo_dvd:∀ (k m:Nat) (b r:Bytes) (n:Nat),pUvGo k m b=some (n,r)→m ∣ n
  | k,m,[],r,n,h=>by simp [pUvGo] at h
  | 0,m,u :: b,r,n,h=>by
    simp only [pUvGo] at h
    split at h
    · simp only [Option.some.injEq,Prod.mk.injEq] at h
      rw [← h.1]
      exact Nat.dvd_mul_left _ _
    · simp at h
  | k+1,m,u :: b,r,n,h=>by
    simp only [pUvGo] at h
    split at h
    · simp only [Option.some.injEq,Prod.mk.injEq] at h
      rw [← h.1]
      exact Nat.dvd_mul_left _ _
    · cases hp:pUvGo k (m * 128) b with
      | none=>rw [hp] at h;simp at h
      | some z =>
        rw [hp] at h
        simp only [Option.map_some,Option.some.injEq,Prod.mk.injEq] at h
        rw [← h.1]
        exact Nat.dvd_add (Nat.dvd_mul_left _ _) (Nat.dvd_trans (Nat.dvd_mul_right m 128) (pUvGo_dvd k (m * 128) b z.2 z.1 hp))
theorem pUv_facts {b r:Bytes} {n:Nat} (h:pUv b=some (n,r)):n < 4294967296∧r.length+1≤b.length:=by
  have:=pUvGo_facts 4 1 b r n (by decide) h
  simpa using this
theorem pSpan_facts {l:Int} {b r s:Bytes} (h:pSpan l b=some (s,r)):0≤l∧(s.length:Int)=l∧s.length+r.length=b.length∧b=s ++ r:=by
  unfold pSpan at h
  split at h
  · simp at h
  · simp only [Option.some.injEq,Prod.mk.injEq] at h
    obtain ⟨rfl,rfl⟩:=h
    refine ⟨by omega,by simp;omega,by simp;omega,by simp⟩
theorem pFix_facts {k n:Nat} {b r:Bytes} (h:pFix k b=some (n,r)):r.length+k=b.length∧n=unfix (b.take k)∧r=b.drop k:=by
  unfold pFix at h
  split at h
  · simp at h
  · simp only [Option.some.injEq,Prod.mk.injEq] at h
    obtain ⟨rfl,rfl⟩:=h
    exact ⟨by simp;omega,rfl,rfl⟩
theorem pInt_facts {k:Nat} {n:Int} {b r:Bytes} (h:pInt k b=some (n,r)):r.length+k=b.length:=by
  obtain ⟨x,r1,h1,h2⟩:=rThen_some h
  simp only [rOk,Option.some.injEq,Prod.mk.injEq] at h2
  rw [← h2.2]
  exact (pFix_facts h1).1
theorem pLen_facts {flex:Bool} {l:Int} {b r:Bytes} (h:pLen flex b=some (l,r)):r.length≤b.length∧l≤r.length:=by
  obtain ⟨x,r1,h1,h2⟩:=rThen_some h
  split at h2
  · simp at h2
  · simp only [Option.some.injEq,Prod.mk.injEq] at h2
    obtain ⟨rfl,rfl⟩:=h2
    refine ⟨?_,by omega⟩
    cases flex
    · have:=pInt_facts h1
      omega
    · rw [if_pos rfl] at h1
      obtain ⟨y,r2,q1,q2⟩:=rThen_some h1
      simp only [rOk,Option.some.injEq,Prod.mk.injEq] at q2
      have:=(pUv_facts q1).2
      rw [← q2.2]
      omega
theorem pCount_facts {flex:Bool} {k:Nat} {l:Int} {b r:Bytes} (h:pCount flex k b=some (l,r)):r.length≤b.length:=by
  unfold pCount at h
  cases flex
  · have:=pInt_facts h
    omega
  · rw [if_pos rfl] at h
    obtain ⟨y,r2,q1,q2⟩:=rThen_some h
    simp only [rOk,Option.some.injEq,Prod.mk.injEq] at q2
    have:=(pUv_facts q1).2
    rw [← q2.2]
    omega
theorem rOk_some {α:Type} {x y:α} {b r:Bytes} (h:rOk x b=some (y,r)):x=y∧b=r:=by simpa [rOk] using h
theorem fit_tagN:∀ (n:Nat) (acc:List (Nat × Bytes)) (b r:Bytes) (u:List (Nat × Bytes)),pTagN n acc b=some (u,r)→Sorted acc→(∀ x ∈ acc,x.1 < 4294967296∧x.2.length≤most)→b.length≤most →
    Sorted u∧(∀ x ∈ u,x.1 < 4294967296∧x.2.length≤most)∧u.length+r.length≤acc.length+b.length
  | 0,acc,b,r,u,h,hs,hm,_=>by
    obtain ⟨rfl,rfl⟩:=rOk_some h
    exact ⟨hs,hm,Nat.le_refl _⟩
  | n+1,acc,b,r,u,h,hs,hm,hb=>by
    obtain ⟨k,r1,h1,h⟩:=rThen_some h
    obtain ⟨s,r2,h2,h⟩:=rThen_some h
    obtain ⟨v,r3,h3,h⟩:=rThen_some h
    have f1:=pUv_facts h1
    have f2:=pUv_facts h2
    have f3:=pSpan_facts h3
    have fl:=setTag_length (k,v) acc
    have:=fit_tagN n (setTag (k,v) acc) r3 r u h (setTag_sorted hs) (fun x hx=>by
      rcases setTag_mem hx with rfl | hx
      · exact ⟨f1.1,by simp only;omega⟩
      · exact hm x hx) (by omega)
    exact ⟨this.1,this.2.1,by omega⟩
theorem fit_tags {flex:Bool} {b r:Bytes} {u:List (Nat × Bytes)} (h:pTags flex b=some (u,r)) (hb:b.length≤most):FitTags u∧r.length≤b.length:=by
  cases flex
  · obtain ⟨rfl,rfl⟩:=rOk_some h
    exact ⟨⟨rfl,by simp,by simp⟩,Nat.le_refl _⟩
  · unfold pTags at h
    rw [if_pos rfl] at h
    obtain ⟨n,r1,h1,h⟩:=rThen_some h
    have f1:=pUv_facts h1
    have:=fit_tagN n [] r1 r u h (by simp [Sorted]) (by simp) (by omega)
    have hl:u.length≤most:=by have:=this.2.2;simp at this;omega
    refine ⟨⟨unknown_id this.1 hl,hl,this.2.1⟩,?_⟩
    have:=this.2.2
    simp at this
    omega
theorem pTagN_shrinks:∀ (n:Nat) (acc:List (Nat × Bytes)) (b r:Bytes) (u:List (Nat × Bytes)),pTagN n acc b=some (u,r)→r.length≤b.length
  | 0,acc,b,r,u,h=>by
    obtain ⟨rfl,rfl⟩:=rOk_some h
    exact Nat.le_refl _
  | n+1,acc,b,r,u,h=>by
    obtain ⟨k,r1,h1,h⟩:=rThen_some h
    obtain ⟨s,r2,h2,h⟩:=rThen_some h
    obtain ⟨v,r3,h3,h⟩:=rThen_some h
    have f1:=pUv_facts h1
    have f2:=pUv_facts h2
    have f3:=pSpan_facts h3
    have:=pTagN_shrinks n _ r3 r u h
    omega
theorem fit_prim {flex nul:Bool} {k:PK} {b r:Bytes} {t:Tree} (h:pPrim flex nul k b=some (t,r)) (hb:b.length≤most):t.s.length≤most∧r.length≤b.length:=by
  have hint:∀ w,(rThen (pInt w) fun n=>rOk (tN n)) b=some (t,r)→t.s.length≤most∧r.length≤b.length:=by
    intro w h
    obtain ⟨x,r1,h1,h2⟩:=rThen_some h
    obtain ⟨rfl,rfl⟩:=rOk_some h2
    exact ⟨by simp [tN,Tree.s],by have:=pInt_facts h1;omega⟩
  cases k <;> simp only [pPrim] at h
  case bool =>
    obtain ⟨x,r1,h1,h2⟩:=rThen_some h
    obtain ⟨rfl,rfl⟩:=rOk_some h2
    exact ⟨by simp [tN,Tree.s],by have:=(pFix_facts h1).1;omega⟩
  case u16 =>
    obtain ⟨x,r1,h1,h2⟩:=rThen_some h
    obtain ⟨rfl,rfl⟩:=rOk_some h2
    exact ⟨by simp [tN,Tree.s],by have:=(pFix_facts h1).1;omega⟩
  case uuid =>
    obtain ⟨x,r1,h1,h2⟩:=rThen_some h
    obtain ⟨rfl,rfl⟩:=rOk_some h2
    have:=pSpan_facts h1
    exact ⟨by simp only [tS,Tree.s];omega,by omega⟩
  case str =>
    obtain ⟨x,r1,h1,h2⟩:=rThen_some h
    have f1:=pCount_facts h1
    split at h2
    · obtain ⟨rfl,rfl⟩:=rOk_some h2
      exact ⟨by simp [tNull,Tree.s],f1⟩
    · obtain ⟨s,r2,h3,h4⟩:=rThen_some h2
      obtain ⟨rfl,rfl⟩:=rOk_some h4
      have:=pSpan_facts h3
      exact ⟨by simp only [tS,Tree.s];omega,by omega⟩
  case bytes =>
    obtain ⟨x,r1,h1,h2⟩:=rThen_some h
    have f1:=pCount_facts h1
    split at h2
    · obtain ⟨rfl,rfl⟩:=rOk_some h2
      exact ⟨by simp [tNull,Tree.s],f1⟩
    · split at h2
      · obtain ⟨rfl,rfl⟩:=rOk_some h2
        exact ⟨by simp [tS,Tree.s],f1⟩
      · obtain ⟨s,r2,h3,h4⟩:=rThen_some h2
        obtain ⟨rfl,rfl⟩:=rOk_some h4
        have:=pSpan_facts h3
        exact ⟨by simp only [tS,Tree.s];omega,by omega⟩
  all_goals exact hint _ h
theorem fit_many {p:Rd Tree} {Fit:Tree→Prop} (hp:∀ b r t,b.length≤most→p b=some (t,r)→Fit t∧r.length≤b.length) :
    ∀ (n:Nat) (b r:Bytes) (l:List Tree),b.length≤most→pMany p n b=some (l,r)→l.length=n∧(∀ x ∈ l,Fit x)∧r.length≤b.length
  | 0,b,r,l,_,h=>by
    obtain ⟨rfl,rfl⟩:=rOk_some h
    exact ⟨rfl,by simp,Nat.le_refl _⟩
  | n+1,b,r,l,hb,h=>by
    obtain ⟨x,r1,h1,h⟩:=rThen_some h
    obtain ⟨xs,r2,h2,h⟩:=rThen_some h
    obtain ⟨rfl,rfl⟩:=rOk_some h
    have f1:=hp b r1 x hb h1
    have f2:=fit_many hp n r1 r2 xs (by omega) h2
    refine ⟨by simp [f2.1],fun y hy=>?_,by omega⟩
    rcases List.mem_cons.1 hy with rfl | hy
    · exact f1.1
    · exact f2.2.1 y hy
mutual
theorem fit_ty (ver:Int) (flex:Bool):∀ (ty:Ty) (nul:Bool) (b r:Bytes) (t:Tree),b.length≤most→pTy ver flex ty nul b=some (t,r)→FitTy ver ty t∧r.length≤b.length
  | .prim k,nul,b,r,t,hb,h=>by
    simp only [pTy] at h
    have:=fit_prim h hb
    exact ⟨by simpa [FitTy] using this.1,this.2⟩
  | .list _ _ _ of,nul,b,r,t,hb,h=>by
    simp only [pTy] at h
    obtain ⟨l,r1,h1,h⟩:=rThen_some h
    have f1:=pLen_facts h1
    split at h
    · obtain ⟨rfl,rfl⟩:=rOk_some h
      exact ⟨by simp [FitTy,tNull,Tree.l],f1.1⟩
    · obtain ⟨xs,r2,h2,h⟩:=rThen_some h
      obtain ⟨rfl,rfl⟩:=rOk_some h
      have f2:=fit_many (fun b r t hb h=>fit_ty ver flex of false b r t hb h) l.toNat r1 r2 xs (by omega) h2
      exact ⟨by simp only [FitTy];exact ⟨by show xs.length≤most;omega,f2.2.1⟩,by omega⟩
  | .struct _ _ _ _ fs,nul,b,r,t,hb,h=>by
    simp only [pTy] at h
    obtain ⟨p,r1,h1,h⟩:=rThen_some h
    have f1:r1.length≤b.length:=by
      cases nul
      · obtain ⟨rfl,rfl⟩:=rOk_some h1
        exact Nat.le_refl _
      · have:=pInt_facts h1
        omega
    split at h
    · obtain ⟨rfl,rfl⟩:=rOk_some h
      exact ⟨by simp [FitTy],f1⟩
    · obtain ⟨xs,r2,h2,h⟩:=rThen_some h
      obtain ⟨u,r3,h3,h⟩:=rThen_some h
      obtain ⟨rfl,rfl⟩:=rOk_some h
      have f2:=fit_fs ver flex fs r1 r2 xs (by omega) h2
      have f3:=fit_tags h3 (by omega)
      exact ⟨by simp only [FitTy];exact .inr ⟨f2.1,f3.1⟩,by omega⟩
theorem fit_fs (ver:Int) (flex:Bool):∀ (fs:Fs) (b r:Bytes) (ts:List Tree),b.length≤most→pFs ver flex fs b=some (ts,r)→FitFs ver fs ts∧r.length≤b.length
  | .nil,b,r,ts,_,h=>by
    simp only [pFs] at h
    obtain ⟨rfl,rfl⟩:=rOk_some h
    exact ⟨by simp [FitFs],Nat.le_refl _⟩
  | .cons hd ty rr,b,r,ts,hb,h=>by
    simp only [pFs] at h
    obtain ⟨x,r1,h1,h⟩:=rThen_some h
    obtain ⟨xs,r2,h2,h⟩:=rThen_some h
    obtain ⟨rfl,rfl⟩:=rOk_some h
    by_cases hh:hd.has ver=true
    · rw [if_pos hh] at h1
      have f1:=fit_ty ver flex ty _ b r1 x hb h1
      have f2:=fit_fs ver flex rr r1 r2 xs (by omega) h2
      exact ⟨by simp only [FitFs,List.headD_cons,List.tail_cons];exact ⟨fun _=>f1.1,f2.1⟩,by omega⟩
    · rw [if_neg hh] at h1
      obtain ⟨rfl,rfl⟩:=rOk_some h1
      have f2:=fit_fs ver flex rr b r2 xs hb h2
      exact ⟨by simp only [FitFs,List.headD_cons,List.tail_cons];exact ⟨fun h=>absurd h hh,f2.1⟩,f2.2⟩
end
mutual
theorem k_zero (ver:Int):∀ ty:Ty,KTy ver ty Tree.zero
  | .prim _=>by simp [KTy]
  | .list _ _ _ _=>by simp [KTy,Tree.zero,Tree.l]
  | .struct _ _ _ _ fs=>by simp only [KTy];exact ⟨kFs_nil ver fs,by simp [Tree.zero,Tree.u]⟩
theorem kFs_nil (ver:Int):∀ fs:Fs,KFs ver fs []
  | .nil=>by simp [KFs]
  | .cons _ ty r=>by simp only [KFs,List.headD_nil,List.tail_nil];exact ⟨fun _=>k_zero ver ty,kFs_nil ver r⟩
end
mutual
theorem fit_k (ver:Int):∀ (ty:Ty) (t:Tree),FitTy ver ty t→KTy ver ty t
  | .prim _,_,_=>by simp [KTy]
  | .list _ _ _ of,t,h=>by
    simp only [FitTy] at h
    simp only [KTy]
    exact fun x hx=>fit_k ver of x (h.2 x hx)
  | .struct _ _ _ _ fs,t,h=>by
    simp only [FitTy] at h
    simp only [KTy]
    rcases h with rfl | ⟨h1,h2⟩
    · exact ⟨kFs_nil ver fs,by simp [tNull,Tree.u]⟩
    · exact ⟨fitFs_k ver fs t.l h1,fun x hx=>(h2.2.2 x hx).1⟩
theorem fitFs_k (ver:Int):∀ (fs:Fs) (ts:List Tree),FitFs ver fs ts→KFs ver fs ts
  | .nil,_,_=>by simp [KFs]
  | .cons _ ty r,ts,h=>by
    simp only [FitFs] at h
    simp only [KFs]
    exact ⟨fun hh=>fit_k ver ty _ (h.1 hh),fitFs_k ver r _ h.2⟩
end
def pMsg (ver:Int) (flex:Bool) (fs:Fs):Rd (List Tree × List (Nat × Bytes)):=rThen (pFs ver flex fs) fun xs=>rThen (pTags flex) fun u=>rOk (xs,u)
def wMsg (ver:Int) (flex:Bool) (fs:Fs) (ts:List Tree) (u:List (Nat × Bytes)):Bytes:=wFs ver flex fs ts ++ wTags flex u
theorem ext_msg (ver:Int) (flex:Bool) (fs:Fs):Ext (pMsg ver flex fs):=(ext_fs ver flex fs).then fun _=>(ext_tags flex).then fun _=>Ext.ok _
theorem msg_again {ver:Int} {flex:Bool} {fs:Fs} {ts:List Tree} {u:List (Nat × Bytes)} (hok:okFsR ver flex fs=true) (hk:KFs ver fs ts) (hu:∀ x ∈ u,x.1 < 4294967296) :
    ∃ ts' u',pMsg ver flex fs (wMsg ver flex fs ts u)=some ((ts',u'),[])∧FitFs ver fs ts'∧FitTags u'∧wMsg ver flex fs ts' u'=wMsg ver flex fs ts u:=by
  obtain ⟨ts',h1,h2,h3⟩:=rt_fs ver flex fs ts (wTags flex u) hok hk
  obtain ⟨u',q1,q2,q3⟩:=pTags_of flex u [] hu
  rw [List.append_nil] at q1
  refine ⟨ts',u',?_,h2,q2,by simp only [wMsg,h3,q3]⟩
  unfold pMsg wMsg
  rw [rThen_of h1,rThen_of q1]
  rfl
theorem msg_cut {ver:Int} {flex:Bool} {fs:Fs} {ts:List Tree} {u:List (Nat × Bytes)} (hok:okFsR ver flex fs=true) (hk:KFs ver fs ts) (hu:∀ x ∈ u,x.1 < 4294967296) {k:Nat} (h:k < (wMsg ver flex fs ts u).length) :
    pMsg ver flex fs ((wMsg ver flex fs ts u).take k)=none:=by
  obtain ⟨ts',u',h1,_⟩:=msg_again hok hk hu
  exact (ext_msg ver flex fs).cut h1 h
theorem msg_fit {ver:Int} {flex:Bool} {fs:Fs} {ts:List Tree} {u:List (Nat × Bytes)} {b r:Bytes} (hb:b.length≤most) (h:pMsg ver flex fs b=some ((ts,u),r)):FitFs ver fs ts∧FitTags u:=by
  obtain ⟨xs,r1,h1,h⟩:=rThen_some h
  obtain ⟨u',r2,h2,h⟩:=rThen_some h
  obtain ⟨h3,rfl⟩:=rOk_some h
  simp only [Prod.mk.injEq] at h3
  obtain ⟨rfl,rfl⟩:=h3
  have f1:=fit_fs ver flex fs b r1 xs hb h1
  have f2:=fit_tags h2 (by omega)
  exact ⟨f1.1,f2.1⟩
end Go.Proofs.Ytgaplicnofhliaa.T
namespace Go.Proofs.Ytgaplicnofhliaa.T
set_option linter.unusedVariables false
set_option linter.unusedSimpArgs false
mutual
def Tree.bulk:Tree→Nat
  | .mk _ s _ l u=>1+s.length+bulkL l+bulkU u
def bulkL:List Tree→Nat
  | []=>0
  | t :: r=>Tree.bulk t+bulkL r
def bulkU:List (Nat × Bytes)→Nat
  | []=>0
  | x :: r=>1+x.2.length+bulkU r
end
theorem bulk_pos (t:Tree):1≤t.bulk:=by cases t;simp only [Tree.bulk];omega
theorem bulk_mk (t:Tree):t.bulk=1+t.s.length+bulkL t.l+bulkU t.u:=by cases t;simp only [Tree.bulk,Tree.s,Tree.l,Tree.u]
theorem bulkL_head:∀ ts:List Tree,(ts.headD Tree.zero).bulk≤1+bulkL ts
  | []=>by simp [Tree.zero,Tree.bulk,bulkL,bulkU]
  | t :: r=>by simp only [List.headD_cons,bulkL];omega
theorem bulkL_tail:∀ ts:List Tree,bulkL ts.tail≤bulkL ts
  | []=>by simp
  | t :: r=>by simp only [List.tail_cons,bulkL];omega
theorem bulkL_take:∀ (n:Nat) (ts:List Tree),bulkL (ts.take n)≤bulkL ts
  | 0,ts=>by simp [bulkL]
  | n+1,[]=>by simp
  | n+1,t :: r=>by simp only [List.take_succ_cons,bulkL];have:=bulkL_take n r;omega
theorem uvl:∀ (k n:Nat),n < 128 ^ (k+1)→(uvarint n).length≤k+1
  | 0,n,h=>by rw [uvarint_le (by simpa using (by omega:n≤127))];simp
  | k+1,n,h=>by
    by_cases hn:n≤127
    · rw [uvarint_le hn];simp
    · rw [uvarint_gt hn]
      have:=uvl k (n / 128) (Nat.div_lt_of_lt_mul (by rw [Nat.pow_succ] at h;omega))
      simp only [List.length_cons]
      omega
theorem uv5 {n:Nat} (h:n < 4294967296):(uvarint n).length≤5:=uvl 4 n (Nat.lt_trans h (by decide))
theorem counted8 (flex null:Bool) (n size:Nat) (hn:n≤most) (hs:size≤8):(counted flex null n size).length≤8:=by
  have hm:most=32767:=rfl
  have:=uv5 (n:=n+1) (by omega)
  unfold counted
  split <;> split
  · simp
  · omega
  · rw [fixed_length];exact hs
  · rw [fixed_length];exact hs
theorem prim_len8 (flex null:Bool) (t:Tree) (k:PK):(wPrim flex null t k).length≤16+t.s.length∧(wPrim flex null t k).length≤32783:=by
  have hm:most=32767:=rfl
  have hw:(whole t.s).length≤t.s.length:=by simp [whole];omega
  have hw':=whole_length t.s
  have hs:(if null=true then ([]:Bytes) else whole t.s).length≤t.s.length∧(if null=true then ([]:Bytes) else whole t.s).length≤most:=by
    split
    · simp
    · exact ⟨hw,hw'⟩
  cases k <;> simp only [wPrim,PK.width,fixed_length]
  case bool=>simp;omega
  case uuid=>simp
  case str =>
    rw [List.length_append]
    have:=counted8 flex null _ 2 hs.2 (by decide)
    omega
  case bytes =>
    rw [List.length_append]
    have:=counted8 flex null _ 4 hs.2 (by decide)
    omega
  all_goals omega
theorem whole_len (b:Bytes):(whole b).length≤b.length:=by simp [whole];omega
theorem tag_len {t:Nat × Bytes} (h:t.1 < 4294967296):(wTag t).length≤10 * (1+t.2.length)∧(wTag t).length≤32777:=by
  have hm:most=32767:=rfl
  have h1:=uv5 h
  have h2:=whole_length t.2
  have h3:=uv5 (n:=(whole t.2).length) (by omega)
  have h4:=whole_len t.2
  simp only [wTag,List.length_append]
  omega
theorem ins_len (t:Nat × Bytes):∀ l:List (Nat × Bytes),bulkU (insTag t l)≤1+t.2.length+bulkU l
  | []=>by simp [insTag,bulkU]
  | x :: r=>by
    simp only [insTag]
    split
    · simp only [bulkU];have:=ins_len t r;omega
    · split
      · omega
      · simp only [bulkU];omega
theorem fold_len:∀ (l acc:List (Nat × Bytes)),bulkU (l.foldl (fun acc t=>insTag t acc) acc)≤bulkU acc+bulkU l
  | [],acc=>by simp [bulkU]
  | x :: r,acc=>by
    simp only [List.foldl_cons,bulkU]
    have h1:=fold_len r (insTag x acc)
    have h2:=ins_len x acc
    omega
theorem bulkU_take:∀ (n:Nat) (ts:List (Nat × Bytes)),bulkU (ts.take n)≤bulkU ts
  | 0,ts=>by simp [bulkU]
  | n+1,[]=>by simp
  | n+1,t :: r=>by simp only [List.take_succ_cons,bulkU];have:=bulkU_take n r;omega
theorem unknown_bulk (u:List (Nat × Bytes)):bulkU (unknown u)≤bulkU u:=by
  have h1:=fold_len (u.take most) []
  have h2:=bulkU_take most u
  simp only [bulkU] at h1
  simp only [unknown]
  omega
theorem flat_tags:∀ u:List (Nat × Bytes),(∀ x ∈ u,x.1 < 4294967296)→(u.flatMap wTag).length≤10 * bulkU u∧(u.flatMap wTag).length≤32777 * u.length
  | [],_=>by simp [bulkU]
  | x :: r,h=>by
    have h1:=tag_len (h x (by simp))
    have h2:=flat_tags r fun y hy=>h y (List.mem_cons_of_mem _ hy)
    simp only [List.flatMap_cons,List.length_append,bulkU,List.length_cons]
    omega
theorem tags_len8 (flex:Bool) (u:List (Nat × Bytes)) (h:∀ x ∈ u,x.1 < 4294967296):(wTags flex u).length≤10 * (1+bulkU u)∧(wTags flex u).length≤if flex then 1074003964 else 0:=by
  have hm:most=32767:=rfl
  cases flex
  · simp [wTags]
  · obtain ⟨_,h2,h3⟩:=unknown_facts u
    have h1:=flat_tags (unknown u) fun x hx=>h x (h2 x hx)
    have h4:=uv5 (n:=(unknown u).length) (by omega)
    have h5:=unknown_bulk u
    simp only [wTags,if_true,List.length_append]
    omega
mutual
def cTy:Ty→Nat
  | .prim _=>16
  | .list _ _ _ of=>8+cTy of
  | .struct _ _ _ _ fs=>10+cFs fs
def cFs:Fs→Nat
  | .nil=>0
  | .cons _ ty r=>1+cTy ty+cFs r
end
mutual
def mTy (flex:Bool):Ty→Nat
  | .prim k=>match k with | .str=>32783 | .bytes=>32783 | _=>32783
  | .list _ _ _ of=>8+32767 * mTy flex of
  | .struct _ _ _ _ fs=>mFs flex fs+if flex then 1074003964 else 0
def mFs (flex:Bool):Fs→Nat
  | .nil=>0
  | .cons _ ty r=>1+mTy flex ty+mFs flex r
end
theorem flat_len {w:Tree→Bytes} {c m:Nat}:∀ l:List Tree,(∀ x ∈ l,(w x).length≤c * x.bulk∧(w x).length≤m)→(l.flatMap w).length≤c * bulkL l∧(l.flatMap w).length≤l.length * m
  | [],_=>by simp
  | x :: r,h=>by
    have h1:=h x (by simp)
    have h2:=flat_len r fun y hy=>h y (List.mem_cons_of_mem _ hy)
    simp only [List.flatMap_cons,List.length_append,bulkL,List.length_cons,Nat.mul_add,Nat.add_mul,Nat.one_mul]
    omega
mutual
theorem ty_len8 (ver:Int) (flex:Bool):∀ (ty:Ty) (nul:Bool) (t:Tree),KTy ver ty t→(wTy ver flex ty nul t).length≤cTy ty * t.bulk∧(wTy ver flex ty nul t).length≤mTy flex ty
  | .prim k,nul,t,_=>by
    have h:=prim_len8 flex nul t k
    have hb:=bulk_mk t
    have hm:mTy flex (.prim k)=32783:=by cases k <;> rfl
    rw [hm]
    simp only [wTy,cTy]
    omega
  | .list a b c of,nul,t,hk=>by
    simp only [KTy] at hk
    have hmo:most=32767:=rfl
    have hb:=bulk_mk t
    simp only [wTy,cTy,mTy,List.length_append]
    have hl:(if nul=true then ([]:List Tree) else t.l.take most).length≤most∧bulkL (if nul=true then ([]:List Tree) else t.l.take most)≤bulkL t.l∧∀ x ∈ (if nul=true then ([]:List Tree) else t.l.take most),KTy ver of x:=by
      split
      · simp [bulkL]
      · exact ⟨by simp;omega,bulkL_take _ _,fun x hx=>hk x (List.mem_of_mem_take hx)⟩
    generalize (if nul=true then ([]:List Tree) else t.l.take most)=l at hl
    obtain ⟨l1,l2,l3⟩:=hl
    have h1:=counted8 flex nul l.length 4 l1 (by decide)
    have h2:=flat_len (w:=fun x=>wTy ver flex of false x) l fun x hx=>ty_len8 ver flex of false x (l3 x hx)
    have h3:cTy of * bulkL l≤cTy of * t.bulk:=Nat.mul_le_mul_left _ (by omega)
    have h4:l.length * mTy flex of≤32767 * mTy flex of:=Nat.mul_le_mul_right _ (by omega)
    rw [Nat.add_mul]
    have:=bulk_pos t
    omega
  | .struct a b c d fs,nul,t,hk=>by
    simp only [KTy] at hk
    have h1:=fs_len8 ver flex fs t.l hk.1
    have h2:=tags_len8 flex t.u hk.2
    have hb:=bulk_mk t
    simp only [wTy,cTy,mTy,List.length_append]
    have h3:cFs fs * (1+bulkL t.l)≤cFs fs * t.bulk:=Nat.mul_le_mul_left _ (by omega)
    rw [Nat.add_mul]
    omega
theorem fs_len8 (ver:Int) (flex:Bool):∀ (fs:Fs) (ts:List Tree),KFs ver fs ts→(wFs ver flex fs ts).length≤cFs fs * (1+bulkL ts)∧(wFs ver flex fs ts).length≤mFs flex fs
  | .nil,ts,_=>by simp [wFs,cFs,mFs]
  | .cons h ty r,ts,hk=>by
    simp only [KFs] at hk
    rw [wFs_cons,List.length_append]
    have h1:=fs_len8 ver flex r ts.tail hk.2
    have ht:=bulkL_tail ts
    have h2:cFs r * (1+bulkL ts.tail)≤cFs r * (1+bulkL ts):=Nat.mul_le_mul_left _ (by omega)
    simp only [cFs,mFs,Nat.add_mul,Nat.one_mul]
    by_cases hh:h.has ver=true
    · rw [if_pos hh]
      have hk1:=hk.1 hh
      have hbh:=bulkL_head ts
      generalize ts.headD Tree.zero=t at hk1 hbh
      have h3:=fun nul=>ty_len8 ver flex ty nul t hk1
      have h4:cTy ty * t.bulk≤cTy ty * (1+bulkL ts):=Nat.mul_le_mul_left _ (by omega)
      have key:(wField ver flex h ty t).length≤1+cTy ty * t.bulk∧(wField ver flex h ty t).length≤1+mTy flex ty:=by
        cases ty with
        | struct a b c d e =>
          simp only [wField]
          have:=h3 false
          split
          · split
            · simp
            · simp only [List.length_cons];omega
          · omega
        | prim k=>simp only [wField];have:=h3 (h.isNull ver t);omega
        | list a b c e=>simp only [wField];have:=h3 (h.isNull ver t);omega
      omega
    · rw [if_neg hh,List.length_nil]
      omega
end
theorem msg_len8 (ver:Int) (flex:Bool) (fs:Fs) (t:Tree) (hk:KFs ver fs t.l) (hu:∀ x ∈ t.u,x.1 < 4294967296):(wMsg ver flex fs t.l t.u).length≤(10+cFs fs) * t.bulk∧(wMsg ver flex fs t.l t.u).length≤mFs flex fs+if flex then 1074003964 else 0:=by
  have h1:=fs_len8 ver flex fs t.l hk
  have h2:=tags_len8 flex t.u hu
  have hb:=bulk_mk t
  have h3:cFs fs * (1+bulkL t.l)≤cFs fs * t.bulk:=Nat.mul_le_mul_left _ (by omega)
  simp only [wMsg,List.length_append]
  rw [Nat.add_mul]
  omega
inductive KAll:Tree→Prop where
  | mk (n:Int) (s:Bytes) (null:Bool) (l:List Tree) (u:List (Nat × Bytes)) (hl:∀ (i:Nat) (x:Tree),l[i]?=some x→KAll x) (hu:∀ x ∈ u,x.1 < 4294967296):KAll (.mk n s null l u)
theorem KAll.l {t:Tree} (h:KAll t):∀ x ∈ t.l,KAll x:=by
  cases h with
  | mk n s null l u hl hu =>
    intro x hx
    obtain ⟨i,hi⟩:=List.getElem?_of_mem hx
    exact hl i x hi
theorem KAll.u {t:Tree} (h:KAll t):∀ x ∈ t.u,x.1 < 4294967296:=by
  cases h with
  | mk n s null l u hl hu=>exact hu
theorem KAll.zero:KAll Tree.zero:=.mk _ _ _ _ _ (fun i x h=>by simp at h) (fun x h=>by cases h)
mutual
theorem kAll_ty (ver:Int):∀ (ty:Ty) (t:Tree),KAll t→KTy ver ty t
  | .prim _,t,_=>by simp [KTy]
  | .list _ _ _ of,t,h=>by simp only [KTy];exact fun x hx=>kAll_ty ver of x (h.l x hx)
  | .struct _ _ _ _ fs,t,h=>by simp only [KTy];exact ⟨kAll_fs ver fs t.l h.l,h.u⟩
theorem kAll_fs (ver:Int):∀ (fs:Fs) (ts:List Tree),(∀ x ∈ ts,KAll x)→KFs ver fs ts
  | .nil,ts,_=>by simp [KFs]
  | .cons h ty r,ts,hk=>by
    simp only [KFs]
    refine ⟨fun _=>kAll_ty ver ty _ ?_,kAll_fs ver r ts.tail fun x hx=>hk x (List.mem_of_mem_tail hx)⟩
    cases ts with
    | nil=>exact KAll.zero
    | cons t r=>exact hk t (by simp)
end
end Go.Proofs.Ytgaplicnofhliaa.T
namespace Go.Proofs.Ytgaplicnofhliaa.K
open Go Go.RowKit Go.Proofs.Ytgaplicnofhliaa.T
open Go.ChangeShapes Go.WideShapes Go.Deep
set_option linter.unusedSimpArgs false
set_option linter.unusedVariables false
structure BulkC {H:Type} (B:DataW H→Nat):Prop where
  one:∀ d,1≤B d
  slice:∀ es sp,1+(es.map B).sum≤B (.slice es sp)
  agg:∀ ps,1+(ps.map B).sum≤B (.agg ps)
def sl8 (P:Program) (t:TypeId):Bool:=match P.underlying t with
  | some (.slice e)=>(match P.underlying e with | some (.int .u8)=>true | _=>false) && P.cellsOf e == 1 && P.cellsOf t == 1
  | _=>false
def isK (P:Program) (t:TypeId) (k:IntKind):Bool:=(match P.underlying t with | some (.int k')=>k' == k | _=>false) && P.cellsOf t == 1
def slO (P:Program) (t e:TypeId):Bool:=(match P.underlying t with | some (.slice e')=>e' == e | _=>false) && P.cellsOf t == 1
def isBo (P:Program) (t:TypeId):Bool:=(match P.underlying t with | some .bool=>true | _=>false) && P.cellsOf t == 1
def otB (P:Program) (T Tg:TypeId):Bool :=
  P.cellsOf T == 5 && P.cellsOf Tg == 2 &&
  (match P.underlying T with
   | some (.struct fs)=>(match fs.toList with
     | [f0,f1,f2,f3,f4]=>f0.offset == 0 && f1.offset == 1 && f2.offset == 2 && f3.offset == 3 && f4.offset == 4 && isK P f0.type .i64 && sl8 P f1.type && isBo P f2.type && slO P f3.type T && slO P f4.type Tg
     | _=>false)
   | _=>false) &&
  (match P.underlying Tg with
   | some (.struct fs)=>(match fs.toList with
     | [g0,g1]=>g0.offset == 0 && g1.offset == 1 && isK P g0.type .u32 && sl8 P g1.type
     | _=>false)
   | _=>false)
theorem sl8_of {P:Program} {t:TypeId} (h:sl8 P t=true):∃ e,P.underlying t=some (.slice e)∧P.underlying e=some (.int .u8)∧P.cellsOf e=1∧P.cellsOf t=1:=by
  unfold sl8 at h
  split at h
  · rename_i e he
    simp only [Bool.and_eq_true,beq_iff_eq] at h
    obtain ⟨⟨h1,h2⟩,h3⟩:=h
    split at h1
    · rename_i h4;exact ⟨e,he,h4,h2,h3⟩
    · cases h1
  · cases h
theorem isK_of {P:Program} {t:TypeId} {k:IntKind} (h:isK P t k=true):P.underlying t=some (.int k)∧P.cellsOf t=1:=by
  simp only [isK,Bool.and_eq_true,beq_iff_eq] at h
  obtain ⟨h1,h2⟩:=h
  split at h1
  · rename_i k' hk;have:k'=k:=by simpa using h1
    subst this;exact ⟨hk,h2⟩
  · cases h1
theorem slO_of {P:Program} {t e:TypeId} (h:slO P t e=true):P.underlying t=some (.slice e)∧P.cellsOf t=1:=by
  simp only [slO,Bool.and_eq_true,beq_iff_eq] at h
  obtain ⟨h1,h2⟩:=h
  split at h1
  · rename_i k' hk;have:k'=e:=by simpa using h1
    subst this;exact ⟨hk,h2⟩
  · cases h1
theorem isBo_of {P:Program} {t:TypeId} (h:isBo P t=true):P.underlying t=some .bool∧P.cellsOf t=1:=by
  simp only [isBo,Bool.and_eq_true,beq_iff_eq] at h
  obtain ⟨h1,h2⟩:=h
  split at h1
  · rename_i hk;exact ⟨hk,h2⟩
  · cases h1
theorem sum_le {α β:Type} (f:α→Nat) (g:β→Nat):∀ (l1:List α) (l2:List β),l1.length=l2.length→(∀ (i:Nat) x y,l1[i]?=some x→l2[i]?=some y→f x≤g y)→(l1.map f).sum≤(l2.map g).sum
  | [],[],_,_=>by simp
  | x :: l1,y :: l2,hl,h=>by
    simp only [List.map_cons,List.sum_cons]
    have h0:=h 0 x y rfl rfl
    have:=sum_le f g l1 l2 (by simpa using hl) fun i a b ha hb=>h (i+1) a b (by simpa using ha) (by simpa using hb)
    omega
  | [],_ :: _,hl,_=>by simp at hl
  | _ :: _,[],hl,_=>by simp at hl
theorem bulkL_sum:∀ ts:List Tree,bulkL ts=(ts.map Tree.bulk).sum
  | []=>rfl
  | t :: r=>by simp only [bulkL,List.map_cons,List.sum_cons,bulkL_sum r]
theorem bulkU_sum:∀ ts:List (Nat × Bytes),bulkU ts=(ts.map fun x=>1+x.2.length).sum
  | []=>rfl
  | t :: r=>by simp only [bulkU,List.map_cons,List.sum_cons,bulkU_sum r]
theorem sum_ones {α:Type} (f:α→Nat) (h:∀ x,1≤f x):∀ l:List α,l.length≤(l.map f).sum
  | []=>by simp
  | x :: r=>by simp only [List.map_cons,List.sum_cons,List.length_cons];have:=h x;have:=sum_ones f h r;omega
section
variable {H:Type} {enc:TypeId × Value→H} {P:Program} {w:World} {B:DataW H→Nat}
theorem addr_of {a:Addr} {n:Nat} {cs:List Value} (h:w.cells? 0 a n=some cs) (hn:0 < n):a=⟨a.block,a.off,none⟩∧a.block < w.heap.size:=by
  obtain ⟨_,hl,hc⟩:=World.cells?_some h
  have h0:=hc 0 hn
  have e0:a.add 0=a:=by simp [Addr.add]
  rw [e0,List.getElem?_eq_getElem (by omega)] at h0
  have hs:a.spot=none∧a.block < w.heap.size:=by
    simp only [World.cell?] at h0
    split at h0
    · rename_i hb
      split at h0
      · cases h0
      · rename_i hs
        exact ⟨by cases hq:a.spot <;> simp_all,(Array.getElem?_eq_some_iff.1 hb).1⟩
    · cases h0
  refine ⟨?_,hs.2⟩
  cases a
  simp only at hs
  rw [hs.1]
theorem range_of {b o n:Nat} {cs:List Value} (h:w.cells? 0 ⟨b,o,none⟩ n=some cs):rangeV w b o n=some cs:=by
  obtain ⟨_,hl,hc⟩:=World.cells?_some h
  rw [← hl]
  refine rangeV_of cs o fun j v hj=>?_
  have hlt:j < cs.length:=(List.getElem?_eq_some_iff.1 hj).1
  rw [← hj,← hc j (by omega),add_none]
theorem open_els {t e k fuel:Nat} {cs:List Value} {x:DataW H × List MemPlace} (ht:P.underlying t=some (.slice e)) (hk:P.cellsOf e=k) (hk0:0 < k) (h:DataW.trod enc P w 0 (fun _=>true) true fuel t cs=some x) (hB:BulkC B) :
    ∃ (base:Option Addr) (cap n b o:Nat) (es:List (DataW H × List MemPlace)),fuel=n+1∧cs=[.slice base es.length cap]∧es.length≤cap∧1+(es.map fun y=>B y.1).sum≤B x.1∧(es ≠ []→base=some ⟨b,o,none⟩∧b < w.heap.size) ∧
      ∀ (i:Nat) (y:DataW H × List MemPlace),es[i]?=some y→∃ cs',rangeV w b (o+i * k) k=some cs'∧cs'.length=k∧DataW.trod enc P w 0 (fun _=>true) true n e cs'=some y:=by
  rcases DataW.trod_slice ht h with ⟨rfl,rfl⟩ | ⟨a,len,cap,elems,rest,n,rfl,rfl,rfl,hb,hl,hm,hlen,hel,hsp,hns⟩
  · cases fuel with
    | zero=>simp [DataW.trod] at h
    | succ n=>exact ⟨none,0,n,0,0,[],rfl,rfl,Nat.le_refl _,by simpa using hB.one _,fun h=>absurd rfl h,fun i y hy=>by simp at hy⟩
  · subst hk
    have hev:∀ (i:Nat) (y:DataW H × List MemPlace),elems[i]?=some y→∃ cs',w.cells? 0 (a.add (i * P.cellsOf e)) (P.cellsOf e)=some cs'∧DataW.trod enc P w 0 (fun _=>true) true n e cs'=some y:=by
      intro i y hy
      have hi:i < len:=by rw [← hlen];exact (List.getElem?_eq_some_iff.1 hy).1
      have:=hel i hi
      rw [hy] at this
      exact Option.bind_eq_some_iff.1 this
    have hsum:1+(elems.map fun y=>B y.1).sum≤B (.slice (elems.map (·.1)) (rest.map (·.1))):=by
      have:=hB.slice (elems.map (·.1)) (rest.map (·.1))
      rwa [List.map_map] at this
    refine ⟨some a,cap,n,a.block,a.off,elems,rfl,by rw [hlen],by omega,hsum,fun hne=>?_,fun i y hy=>?_⟩
    · obtain ⟨y,hy⟩:∃ y,elems[0]?=some y:=by
        cases elems with
        | nil=>exact absurd rfl hne
        | cons y r=>exact ⟨y,rfl⟩
      obtain ⟨cs',hc,_⟩:=hev 0 y hy
      rw [Nat.zero_mul,show a.add 0=a by simp [Addr.add]] at hc
      obtain ⟨e1,e2⟩:=addr_of hc hk0
      exact ⟨by rw [← e1],e2⟩
    · have ha:a=⟨a.block,a.off,none⟩:=by
        obtain ⟨y0,hy0⟩:∃ y,elems[0]?=some y:=by
          cases elems with
          | nil=>simp at hy
          | cons y r=>exact ⟨y,rfl⟩
        obtain ⟨cs',hc,_⟩:=hev 0 y0 hy0
        rw [Nat.zero_mul,show a.add 0=a by simp [Addr.add]] at hc
        exact (addr_of hc hk0).1
      obtain ⟨cs',hc,h2⟩:=hev i y hy
      rw [ha,add_none] at hc
      exact ⟨cs',range_of hc,(World.cells?_some hc).2.1,h2⟩
theorem open_u8s {t fuel:Nat} {cs:List Value} {x:DataW H × List MemPlace} (ht:sl8 P t=true) (h:DataW.trod enc P w 0 (fun _=>true) true fuel t cs=some x) (hB:BulkC B) :
    ∃ (base:Option Addr) (cap:Nat) (bs:Bytes),cs=[.slice base bs.length cap]∧bs.length≤cap∧1+bs.length≤B x.1∧BytesAt w (· < w.heap.size) base bs:=by
  obtain ⟨e,h1,h2,h3,_⟩:=sl8_of ht
  obtain ⟨base,cap,n,b,o,es,rfl,rfl,q1,q2,q3,q4⟩:=open_els h1 h3 (by decide) h hB
  obtain ⟨U,hU⟩:=choose_lt (α:=UInt8) (n:=es.length) (p:=fun i u=>w.cell? ⟨b,o+i,none⟩=some (cell u)) (fun i hi=>by
    obtain ⟨cs',c1,c2,c3⟩:=q4 i es[i] (List.getElem?_eq_getElem hi)
    obtain ⟨m,rfl,_,hwf⟩:=DataW.trod_int h2 c3
    have hbd:=bounds_u8 hwf
    obtain ⟨_,hcell⟩:=rangeV_get _ _ _ c1
    have hc:=hcell 0 _ rfl
    refine ⟨UInt8.ofNat m.toNat,?_⟩
    rw [Nat.mul_one,Nat.add_zero] at hc
    rw [hc]
    have:((UInt8.ofNat m.toNat).toNat:Int)=m:=by simp;omega
    simp only [cell,this])
  refine ⟨base,cap,(List.range es.length).map U,by simp,by simpa using q1,?_,?_⟩
  · have:=sum_ones (fun y:DataW H × List MemPlace=>B y.1) (fun y=>hB.one _) es
    simp only [List.length_map,List.length_range]
    omega
  · by_cases hne:es=[]
    · subst hne;exact .inl rfl
    · obtain ⟨e1,e2⟩:=q3 hne
      refine .inr ⟨b,o,e1,e2,fun j u hu=>?_⟩
      rw [List.getElem?_map] at hu
      obtain ⟨j',hj',rfl⟩:=Option.map_eq_some_iff.1 hu
      obtain ⟨hj1,hj2⟩:=List.getElem?_eq_some_iff.1 hj'
      rw [List.getElem_range] at hj2
      subst hj2
      exact hU j (by simpa using hj1)
theorem open_utags {t Tg g0t g1t fuel:Nat} {g0 g1:Field} {cs:List Value} {x:DataW H × List MemPlace} (ht:P.underlying t=some (.slice Tg)) (hc:P.cellsOf Tg=2) {fs:Array Field} (hs:P.underlying Tg=some (.struct fs)) (hfs:fs.toList=[g0,g1]) (o0:g0.offset=0) (o1:g1.offset=1) (k0:isK P g0.type .u32=true) (k1:sl8 P g1.type=true)
    (h:DataW.trod enc P w 0 (fun _=>true) true fuel t cs=some x) (hB:BulkC B) :
    ∃ (base:Option Addr) (cap:Nat) (u:List (Nat × Bytes)),cs=[.slice base u.length cap]∧u.length≤cap∧1+bulkU u≤B x.1∧UTagsAt w (· < w.heap.size) base u∧∀ y ∈ u,y.1 < 4294967296:=by
  obtain ⟨base,cap,n,b,o,es,rfl,rfl,q1,q2,q3,q4⟩:=open_els ht hc (by decide) h hB
  obtain ⟨hk0,hk0c⟩:=isK_of k0
  obtain ⟨_,_,_,_,hk1c⟩:=sl8_of k1
  have hf0:fs[0]?=some g0:=by rw [← Array.getElem?_toList,hfs];rfl
  have hf1:fs[1]?=some g1:=by rw [← Array.getElem?_toList,hfs];rfl
  obtain ⟨U,hU⟩:=choose_lt (α:=Nat × Bytes) (n:=es.length) (p:=fun i u=>u.1 < 4294967296∧(∃ vb vc,rangeV w b (o+i * 2) 2=some [.int .u32 (u.1:Int),.slice vb u.2.length vc]∧BytesAt w (· < w.heap.size) vb u.2∧u.2.length≤vc)∧∀ y,es[i]?=some y→1+u.2.length≤B y.1) (fun i hi=>by
    obtain ⟨cs',c1,c2,c3⟩:=q4 i es[i] (List.getElem?_eq_getElem hi)
    obtain ⟨xs,m,rfl,hx,hl,hxl,hxs⟩:=DataW.trod_struct hs c3
    have s0:=hxs 0 g0 hf0
    have s1:=hxs 1 g1 hf1
    match cs',c2 with
    | [v0,v1],_ =>
    have hsz:fs.size=2:=by rw [← Array.length_toList,hfs];rfl
    match xs,(hxl.trans hsz) with
    | [x0,x1],_ =>
    simp only [o0,o1,hk0c,hk1c,List.drop_zero,List.drop_succ_cons,List.take_succ_cons,List.take_zero,List.getElem?_cons_zero,List.getElem?_cons_succ] at s0 s1
    obtain ⟨z,e0,_,hwf⟩:=DataW.trod_int hk0 s0
    obtain ⟨vb,vc,bs,e1,p1,p2,p3⟩:=open_u8s k1 s1 hB
    have hbd:=bounds_u32 hwf
    simp only [List.cons.injEq,and_true] at e0 e1
    subst e0;subst e1
    refine ⟨(z.toNat,bs),by simp only;omega,⟨vb,vc,?_,p3,p1⟩,fun y hy=>?_⟩
    · rw [c1];simp only;rw [show ((z.toNat:Nat):Int)=z by omega]
    · rw [List.getElem?_eq_getElem hi] at hy
      cases hy
      rw [hx]
      have:=hB.agg ([x0,x1].map (·.1))
      simp only [List.map_cons,List.map_nil,List.sum_cons,List.sum_nil] at this ⊢
      omega)
  have hget:∀ (i:Nat) (y:Nat × Bytes),((List.range es.length).map U)[i]?=some y→i < es.length∧y=U i:=by
    intro j u hu
    rw [List.getElem?_map] at hu
    obtain ⟨j',hj',rfl⟩:=Option.map_eq_some_iff.1 hu
    obtain ⟨hj1,hj2⟩:=List.getElem?_eq_some_iff.1 hj'
    rw [List.getElem_range] at hj2
    subst hj2
    exact ⟨by simpa using hj1,rfl⟩
  refine ⟨base,cap,(List.range es.length).map U,by simp,by simpa using q1,?_,?_,?_⟩
  · have:=sum_le (fun x:Nat × Bytes=>1+x.2.length) (fun y:DataW H × List MemPlace=>B y.1) ((List.range es.length).map U) es (by simp) (fun i x y hx hy=>by
      obtain ⟨hi,rfl⟩:=hget i x hx
      exact (hU i hi).2.2 y hy)
    rw [bulkU_sum]
    omega
  · by_cases hne:es=[]
    · subst hne;exact .inl rfl
    · obtain ⟨e1,e2⟩:=q3 hne
      refine .inr ⟨b,o,e1,e2,fun i x hx=>?_⟩
      obtain ⟨hi,rfl⟩:=hget i x hx
      obtain ⟨p1,⟨vb,vc,p2,p3,p4⟩,_⟩:=hU i hi
      exact ⟨p1,vb,vc,p2,p3,p4⟩
  · intro y hy
    obtain ⟨i,hi⟩:=List.getElem?_of_mem hy
    obtain ⟨hi',rfl⟩:=hget i y hi
    exact (hU i hi').1
theorem open_tree {T Tg:Nat} (hot:otB P T Tg=true) (hB:BulkC B):∀ (fuel:Nat) (cs:List Value) (x:DataW H × List MemPlace),DataW.trod enc P w 0 (fun _=>true) true fuel T cs=some x →
    ∃ t,TV (fun _=>True) w (· < w.heap.size) t (.agg cs.toArray)∧KAll t∧t.bulk≤B x.1:=by
  intro fuel
  induction fuel using Nat.strongRecOn with
  | ind fuel ih =>
  intro cs x h
  simp only [otB,Bool.and_eq_true,beq_iff_eq] at hot
  obtain ⟨⟨⟨hc5,hc2⟩,hT⟩,hTg⟩:=hot
  split at hT
  · rename_i fs hfs
    split at hT
    · rename_i f0 f1 f2 f3 f4 hl5
      simp only [Bool.and_eq_true,beq_iff_eq] at hT
      obtain ⟨⟨⟨⟨⟨⟨⟨⟨⟨o0,o1⟩,o2⟩,o3⟩,o4⟩,k0⟩,k1⟩,k2⟩,k3⟩,k4⟩:=hT
      split at hTg
      · rename_i gs hgs
        split at hTg
        · rename_i g0 g1 hl2
          simp only [Bool.and_eq_true,beq_iff_eq] at hTg
          obtain ⟨⟨⟨p0,p1⟩,r0⟩,r1⟩:=hTg
          obtain ⟨hk0,hk0c⟩:=isK_of k0
          obtain ⟨_,_,_,_,hk1c⟩:=sl8_of k1
          obtain ⟨hk2,hk2c⟩:=isBo_of k2
          obtain ⟨hk3,hk3c⟩:=slO_of k3
          obtain ⟨hk4,hk4c⟩:=slO_of k4
          have hf:∀ (i:Nat) (f:Field),[f0,f1,f2,f3,f4][i]?=some f→fs[i]?=some f:=fun i f hf=>by rw [← Array.getElem?_toList,hl5];exact hf
          obtain ⟨xs,m,rfl,rfl,hl,hxl,hxs⟩:=DataW.trod_struct hfs h
          rw [hc5] at hl
          have hsz:fs.size=5:=by rw [← Array.length_toList,hl5];rfl
          have s0:=hxs 0 f0 (hf 0 f0 rfl)
          have s1:=hxs 1 f1 (hf 1 f1 rfl)
          have s2:=hxs 2 f2 (hf 2 f2 rfl)
          have s3:=hxs 3 f3 (hf 3 f3 rfl)
          have s4:=hxs 4 f4 (hf 4 f4 rfl)
          match cs,hl with
          | [v0,v1,v2,v3,v4],_ =>
          match xs,(hxl.trans hsz) with
          | [x0,x1,x2,x3,x4],_ =>
          simp only [o0,o1,o2,o3,o4,hk0c,hk1c,hk2c,hk3c,hk4c,List.drop_zero,List.drop_succ_cons,List.take_succ_cons,List.take_zero,List.getElem?_cons_zero,List.getElem?_cons_succ] at s0 s1 s2 s3 s4
          obtain ⟨z,e0,_,_⟩:=DataW.trod_int hk0 s0
          obtain ⟨sb,sc,bs,e1,a1,a2,a3⟩:=open_u8s k1 s1 hB
          obtain ⟨bo,e2,_⟩:=DataW.trod_bool hk2 s2
          obtain ⟨ub,uc,u,e4,u1,u2,u3,u4⟩:=open_utags hk4 hc2 hgs hl2 p0 p1 r0 r1 s4 hB (g0t:=0) (g1t:=0)
          obtain ⟨lb,lc,n,b,o,es,rfl,e3,q1,q2,q3,q4⟩:=open_els hk3 hc5 (by decide) s3 hB
          simp only [List.cons.injEq,and_true] at e0 e1 e2 e3 e4
          subst e0;subst e1;subst e2;subst e3;subst e4
          obtain ⟨TT,hTT⟩:=choose_lt (α:=Tree × List Value) (n:=es.length) (p:=fun i z=>rangeV w b (o+i * 5) 5=some z.2∧TV (fun _=>True) w (· < w.heap.size) z.1 (.agg z.2.toArray)∧KAll z.1∧∀ y,es[i]?=some y→z.1.bulk≤B y.1) (fun i hi=>by
            obtain ⟨cs',c1,c2,c3⟩:=q4 i es[i] (List.getElem?_eq_getElem hi)
            obtain ⟨t,t1,t2,t3⟩:=ih n (by omega) cs' _ c3
            exact ⟨(t,cs'),c1,t1,t2,fun y hy=>by rw [List.getElem?_eq_getElem hi] at hy;cases hy;exact t3⟩)
          have hget:∀ (i:Nat) (y:Tree),((List.range es.length).map fun i=>(TT i).1)[i]?=some y→i < es.length∧y=(TT i).1:=by
            intro j u hu
            rw [List.getElem?_map] at hu
            obtain ⟨j',hj',rfl⟩:=Option.map_eq_some_iff.1 hu
            obtain ⟨hj1,hj2⟩:=List.getElem?_eq_some_iff.1 hj'
            rw [List.getElem_range] at hj2
            subst hj2
            exact ⟨by simpa using hj1,rfl⟩
          refine ⟨.mk z bs bo ((List.range es.length).map fun i=>(TT i).1) u,?_,?_,?_⟩
          · have htv:=TV.mk (G:=fun _=>True) (w:=w) (F:=fun k=>k < w.heap.size) z bs bo ((List.range es.length).map fun i=>(TT i).1) u sb lb ub sc lc uc b o (fun i=>(TT i).2) a3 a1 (by simpa using q1) u1
              (fun hne=>q3 (by intro e;subst e;exact hne rfl)) (fun i hi=>(hTT i (by simpa using hi)).1)
              (fun i x hx=>by obtain ⟨hi,rfl⟩:=hget i x hx;exact (hTT i hi).2.1) trivial u3
            simpa [treV] using htv
          · exact .mk _ _ _ _ _ (fun i x hx=>by obtain ⟨hi,rfl⟩:=hget i x hx;exact (hTT i hi).2.2.1) u4
          · have hsum:=sum_le Tree.bulk (fun y:DataW H × List MemPlace=>B y.1) ((List.range es.length).map fun i=>(TT i).1) es (by simp) (fun i x y hx hy=>by
              obtain ⟨hi,rfl⟩:=hget i x hx
              exact (hTT i hi).2.2.2 y hy)
            have hag:=hB.agg ([x0,x1,x2,x3,x4].map (·.1))
            simp only [List.map_cons,List.map_nil,List.sum_cons,List.sum_nil] at hag
            simp only [Tree.bulk,bulkL_sum]
            simp only [List.map_cons,List.map_nil]
            have:=hB.one x0.1
            have:=hB.one x2.1
            omega
        · cases hTg
      · cases hTg
    · cases hT
  · cases hT
end
end Go.Proofs.Ytgaplicnofhliaa.K
namespace Go.Proofs.Ytgaplicnofhliaa.K
open Go Go.RowKit Go.Proofs.Ytgaplicnofhliaa.T
set_option linter.unusedVariables false
set_option linter.unusedSimpArgs false
def zeroB (P:Program) (T:Nat) (q:List Value→Bool):Bool:=match P.info? T with
  | some i=>(match i.zero with
    | some z=>q z.cells.toList
    | none=>false)
  | none=>false
theorem zeroB_of {P:Program} {T:Nat} {q:List Value→Bool} (h:zeroB P T q=true):∃ i z,P.info? T=some i∧i.zero=some z∧q z.cells.toList=true:=by
  unfold zeroB at h
  split at h
  · rename_i i hi
    split at h
    · rename_i z hz
      exact ⟨i,z,hi,hz,h⟩
    · cases h
  · cases h
theorem info_ex {P:Program} {T:Nat} (h:zeroB P T (fun _=>true)=true):∃ i z,P.info? T=some i∧i.zero=some z:=by
  obtain ⟨i,z,h1,h2,_⟩:=zeroB_of h
  exact ⟨i,z,h1,h2⟩
def isNilMap:List Value→Bool
  | [.map none]=>true
  | _=>false
theorem info_ex2 {P:Program} {T:Nat} (h:zeroB P T isNilMap=true):∃ i z,P.info? T=some i∧i.zero=some z∧z.cells=#[.map none]:=by
  obtain ⟨i,z,h1,h2,h3⟩:=zeroB_of h
  refine ⟨i,z,h1,h2,?_⟩
  unfold isNilMap at h3
  split at h3
  · rename_i e
    rw [← Array.toArray_toList (xs:=z.cells),e]
  · cases h3
def isZ8:List Value→Bool
  | []=>true
  | .int .u8 0 :: r=>isZ8 r
  | _=>false
theorem isZ8_of:∀ l:List Value,isZ8 l=true→l=cellsOf (List.replicate l.length 0)
  | [],_=>rfl
  | v :: r,h=>by
    unfold isZ8 at h
    split at h
    · rename_i e;cases e
    · rename_i r' e
      cases e
      have:=isZ8_of r h
      rw [List.length_cons,List.replicate_succ]
      simp only [cellsOf,List.map_cons] at this ⊢
      rw [← this]
      rfl
    · cases h
theorem info_ex3 {P:Program} {T:Nat} (h:zeroB P T (fun l=>isZ8 l && l.length == 16)=true):∃ i z,P.info? T=some i∧i.zero=some z∧z.cells=(cellsOf (List.replicate 16 0)).toArray:=by
  obtain ⟨i,z,h1,h2,h3⟩:=zeroB_of h
  simp only [Bool.and_eq_true,beq_iff_eq] at h3
  refine ⟨i,z,h1,h2,?_⟩
  have:=isZ8_of _ h3.1
  rw [h3.2] at this
  rw [← Array.toArray_toList (xs:=z.cells),this]
def zcOf (P:Program) (T:TypeId):Array Value :=
  match (P.info? T).bind (·.zero) with
  | some z=>z.cells
  | none=>#[]
theorem zc_of {P:Program} {T:TypeId} (h:((P.info? T).bind (·.zero)).isSome=true):∃ i z,P.info? T=some i∧i.zero=some z∧z.cells=zcOf P T:=by
  obtain ⟨z,hz⟩:=Option.isSome_iff_exists.1 h
  obtain ⟨i,hi,hz'⟩:=Option.bind_eq_some_iff.1 hz
  exact ⟨i,z,hi,hz',by simp [zcOf,hz]⟩
end Go.Proofs.Ytgaplicnofhliaa.K
namespace Go.Proofs.Ytgaplicnofhliaa.K
open Go Go.Proofs.Ytgaplicnofhliaa.T
set_option linter.unusedVariables false
set_option linter.unusedSimpArgs false
structure RIds where
  tRd:Nat
  tTags:Nat
  tI8:Nat
  tI16:Nat
  tI32:Nat
  tBool:Nat
  rBool:Nat
  rI8:Nat
  rI16:Nat
  rI32:Nat
  rI64:Nat
  rU16:Nat
  rUuid:Nat
  rStr:Nat
  rUStr:Nat
  rCStr:Nat
  rUCStr:Nat
  rNStr:Nat
  rUNStr:Nat
  rCNStr:Nat
  rUCNStr:Nat
  rBytes:Nat
  rCBytes:Nat
  rNBytes:Nat
  rArr:Nat
  rCArr:Nat
  rOk:Nat
  rCompl:Nat
  rTags:Nat
def rGet (f v t:Nat):SC:=.reg [cal t f [7],asg v t]
def rStore (p x t S f T:Nat):SC:=.reg [mv t p,mv (t+1) x,nilc (t+2) t,fa (t+3) S (t+2) f,⟨none,.store T (.tmp (t+3)) (.tmp (t+1)),none⟩]
def cset (v:Nat) (x:Value):SC:=.reg [⟨some v,.assign (.const x),none⟩]
def rTextT (c:Ctx):Nat:=if c.never then 3 else 7
def rText (I:RIds) (c:Ctx) (nul:Bool) (v t:Nat):SC :=
  if nul then
    if c.never then .seq (.reg [mv t 2]) (.cond (.tmp t) (rGet I.rUNStr v (t+1)) (rGet I.rNStr v (t+2)))
    else .seq (.reg [mv t 9]) (.cond (.tmp t) (.seq (.reg [mv (t+1) 2]) (.cond (.tmp (t+1)) (rGet I.rUCNStr v (t+2)) (rGet I.rCNStr v (t+3))))
      (.seq (.reg [mv (t+4) 2]) (.cond (.tmp (t+4)) (rGet I.rUNStr v (t+5)) (rGet I.rNStr v (t+6)))))
  else
    if c.never then .seq (.reg [mv t 2]) (.cond (.tmp t) (rGet I.rUStr v (t+1)) (rGet I.rStr v (t+2)))
    else .seq (.reg [mv t 2]) (.cond (.tmp t) (.seq (.reg [mv (t+1) 9]) (.cond (.tmp (t+1)) (rGet I.rUCStr v (t+2)) (rGet I.rUStr v (t+3))))
      (.seq (.reg [mv (t+4) 9]) (.cond (.tmp (t+4)) (rGet I.rCStr v (t+5)) (rGet I.rStr v (t+6)))))
def emptyS:Value:=.string ⟨#[]⟩
def rNum (I:RIds):PK→Nat
  | .bool=>I.rBool | .i8=>I.rI8 | .i16=>I.rI16 | .i32=>I.rI32 | .i64=>I.rI64 | .u16=>I.rU16 | _=>I.rNBytes
def rPrimT (c:Ctx) (nul:Bool) (k:PK):Nat:=if k=.str then rTextT c else if k=.bytes∧c.never=false then 3 else 1
def rPrim (I:RIds) (c:Ctx) (nul:Bool) (k:PK) (v t:Nat) (rest:SC):SC :=
  if k=.str then .seq (cset v (if nul then .pointer none else emptyS)) (.seq (rText I c nul v t) rest)
  else if k=.bytes∧c.never=false then .seq (cset v (.slice none 0 0)) (.seq (.seq (.reg [mv t 9]) (.cond (.tmp t) (rGet I.rCBytes v (t+1)) (rGet I.rBytes v (t+2)))) rest)
  else if k=.bytes∧nul=false then .seq (rGet I.rBytes v t) rest
  else .seq (rGet (rNum I k) v t) rest
def rTagsL (I:RIds) (S p:Nat) (tags:Option (Nat × Nat)) (t:Nat):List SC :=
  match tags with
  | none=>[]
  | some (f,_)=>[.seq (.reg [mv t 9]) (.cond (.tmp t) (.reg [mv (t+1) p,cal (t+2) I.rTags [7],nilc (t+3) (t+1),fa (t+4) S (t+3) f,⟨none,.store I.tTags (.tmp (t+4)) (.tmp (t+2)),none⟩]) .skip)]
def rTagsT (tags:Option (Nat × Nat)):Nat:=if tags.isSome then 5 else 0
def rLenT (c:Ctx):Nat:=if c.never then 1 else 3
def rLen (I:RIds) (c:Ctx) (l t:Nat):SC :=
  if c.never then rGet I.rArr l t else .seq (.reg [mv t 9]) (.cond (.tmp t) (rGet I.rCArr l (t+1)) (rGet I.rArr l (t+2)))
def rNilT (h:Hd):Nat:=if 0≤h.null then 7 else 0
def rNilL (I:RIds) (c:Ctx) (h:Hd) (T a l t:Nat):List SC :=
  if 0≤h.null then
    [.seq (.reg [mv t c.ver,bin .lss (t+1) I.tI16 t (.const (.int .i16 h.null)),mv (t+2) (t+1),⟨some (t+3),.move (.tmp l),some (2,false)⟩,
        ⟨some (t+4),.binOp .eql I.tI32 (.tmp (t+3)) (.const (.int .i32 0)) I.tI32,some (2,false)⟩,⟨some (t+5),.pick (.tmp (t+2)) (.const (.bool true)) (.tmp (t+4)),none⟩])
      (.cond (.tmp (t+5)) (.reg [⟨some (t+6),.buildSlice T 0 #[],none⟩,asg a (t+6)]) .skip)]
  else []
def rOkC (I:RIds) (t:Nat):SC :=
  .seq (.reg [cal t I.rOk [7],⟨some (t+1),.unOp .not I.tBool (.tmp t),none⟩]) (.cond (.tmp (t+1)) (.seq (.reg [cal (t+2) I.rCompl [7],asg 6 (t+2)]) .ret) .skip)
def rCut (T a t:Nat):SC:=.reg [mv t a,⟨some (t+1),.slice T (.tmp t) none (some (.const (.int .i64 0))) none,none⟩,asg a (t+1)]
def rMake (I:RIds) (T a l t:Nat):SC :=
  .seq (.reg [mv t l,bin .gtr (t+1) I.tI32 t (.const (.int .i32 0))])
    (.cond (.tmp (t+1)) (.reg [mv (t+2) a,mv (t+3) l,⟨some (t+4),.call ⟨.builtin .append,#[.tmp (t+2),.tmp (t+3)],#[T,I.tI32]⟩,none⟩,asg a (t+4)]) .skip)
def rLoop (I:RIds) (l i t et b:Nat) (body:List SC):SC :=
  .seq (cset i (.int .i32 0)) (.block b (.loop (.seq (.seq (.reg [mv t i,mv (t+1) l,⟨some (t+2),.binOp .lss I.tI32 (.tmp t) (.tmp (t+1)) I.tI32,none⟩]) (.cond (.tmp (t+2)) .skip (.exit b)))
    (.seq (.block (b+1) (seqs body)) (.reg [mv (t+3) i,⟨some (t+4),.binOp .add I.tI32 (.tmp (t+3)) (.const (.int .i32 1)) I.tI32,none⟩,asg i (t+4)])))))
mutual
def rV:Hd→Ty→Nat
  | h,.prim _=>if h.enum then 3 else 1
  | _,.list _ _ _ of=>4+rVE of
  | h,.struct _ _ _ _ fs=>(if 0≤h.null then 3 else 2)+rVs fs
def rVE:Ty→Nat
  | .prim _=>1
  | .list _ _ _ _=>0
  | .struct _ _ _ _ fs=>2+rVs fs
def rVs:Fs→Nat
  | .nil=>0
  | .cons h ty r=>rV h ty+rVs r
end
mutual
def rB:Ty→Nat
  | .prim _=>0
  | .list _ _ _ of=>2+rB of
  | .struct _ _ _ _ fs=>rBs fs
def rBs:Fs→Nat
  | .nil=>0
  | .cons _ ty r=>rB ty+rBs r
end
mutual
def rET (c:Ctx):Ty→Nat
  | .prim k=>if k=.uuid then 1+4 else rPrimT c false k+4
  | .list _ _ _ _=>0
  | .struct _ _ _ tags fs=>3+2+1+rFT c fs+rTagsT tags
def rVT (c:Ctx) (h:Hd):Ty→Nat
  | .prim k=>if k=.uuid then 1+4 else if h.enum then 3+4 else rPrimT c (decide (0≤h.null)) k+4
  | .list _ _ _ of=>4+1+rLenT c+rNilT h+3+2+5+5+rET c of+1+4
  | .struct _ _ _ tags fs=>(if 0≤h.null then 6+4+4+2+1 else 3+2+1)+rFT c fs+rTagsT tags
def rFT (c:Ctx):Fs→Nat
  | .nil=>0
  | .cons h ty r=>vTmps h+rVT c h ty+rFT c r
end
def rvCond (I:RIds) (c:Ctx) (h:Hd) (t:Nat) (body:SC):SC :=
  if h.from_=0∧h.to < 0 then body
  else if h.to < 0 then
    .seq (.reg [mv t c.ver,bin .geq (t+1) I.tI16 t (.const (.int .i16 h.from_))]) (.cond (.tmp (t+1)) body .skip)
  else
    .seq (.reg [mv t c.ver,bin .geq (t+1) I.tI16 t (.const (.int .i16 h.from_)),mv (t+2) (t+1),
      ⟨some (t+3),.move (.tmp c.ver),some (2,true)⟩,⟨some (t+4),.binOp .leq I.tI16 (.tmp (t+3)) (.const (.int .i16 h.to)) I.tI16,some (2,true)⟩,
      ⟨some (t+5),.pick (.tmp (t+2)) (.tmp (t+4)) (.const (.bool false)),none⟩]) (.cond (.tmp (t+5)) body .skip)
mutual
def rElem (I:RIds) (c:Ctx) (T E a i v t b:Nat):Ty→List SC
  | .prim k =>
    if k=.uuid then
      [.reg [cal t I.rUuid [7],⟨some v,.alloc E,none⟩,⟨none,.store E (.tmp v) (.tmp t),none⟩],
        .reg [mv (t+1) a,mv (t+2) i,ld (t+3) E v,⟨some (t+4),.indexAddr T (.tmp (t+1)) (.tmp (t+2)),none⟩,⟨none,.store E (.tmp (t+4)) (.tmp (t+3)),none⟩]]
    else
      [rPrim I c false k v t (.reg [mv (t+rPrimT c false k) a,mv (t+rPrimT c false k+1) i,mv (t+rPrimT c false k+2) v,
        ⟨some (t+rPrimT c false k+3),.indexAddr T (.tmp (t+rPrimT c false k)) (.tmp (t+rPrimT c false k+1)),none⟩,⟨none,.store E (.tmp (t+rPrimT c false k+3)) (.tmp (t+rPrimT c false k+2)),none⟩])]
  | .list _ _ _ _=>[.other]
  | .struct S _ d tags fs =>
    [.reg [mv t a,mv (t+1) i,⟨some (t+2),.indexAddr T (.tmp t) (.tmp (t+1)),none⟩,asg v (t+2)],.reg [mv (t+3) v,cal (t+4) d [t+3]],.reg [mv (t+5) v,asg (v+1) (t+5)]] ++
      (rFs I c S (v+1) (v+2) (t+6) b fs ++ rTagsL I S (v+1) tags (t+6+rFT c fs))
def rVal (I:RIds) (c:Ctx) (S p:Nat) (h:Hd) (v t b:Nat):Ty→SC
  | .prim k =>
    if k=.uuid then
      .seq (.reg [cal t I.rUuid [7],⟨some v,.alloc h.typ,none⟩,⟨none,.store h.typ (.tmp v) (.tmp t),none⟩])
        (.reg [mv (t+1) p,ld (t+2) h.typ v,nilc (t+3) (t+1),fa (t+4) S (t+3) h.idx,⟨none,.store h.typ (.tmp (t+4)) (.tmp (t+2)),none⟩])
    else if h.enum then
      .seq (cset v (.int .i8 0)) (.seq (.seq (rGet (rNum I k) (v+1) t) (.reg [mv (t+1) (v+1),asg v (t+1)])) (.seq (.reg [mv (t+2) v,asg (v+2) (t+2)]) (rStore p (v+2) (t+3) S h.idx h.typ)))
    else rPrim I c (decide (0≤h.null)) k v t (rStore p v (t+rPrimT c (decide (0≤h.null)) k) S h.idx h.typ)
  | .list T E _ of =>
    seqs ([.reg [mv t p,nilc (t+1) t,fa (t+2) S (t+1) h.idx,ld (t+3) T (t+2),asg v (t+3)],.reg [mv (t+4) v,asg (v+1) (t+4)],cset (v+2) (.int .i32 0),rLen I c (v+2) (t+5)] ++
      (rNilL I c h T (v+1) (v+2) (t+5+rLenT c) ++
      [rOkC I (t+5+rLenT c+rNilT h),rCut T (v+1) (t+8+rLenT c+rNilT h),rMake I T (v+1) (v+2) (t+10+rLenT c+rNilT h),
        rLoop I (v+2) (v+3) (t+15+rLenT c+rNilT h) (rET c of) b (rElem I c T E (v+1) (v+3) (v+4) (t+20+rLenT c+rNilT h) (b+2) of),
        .reg [mv (t+20+rLenT c+rNilT h+rET c of) (v+1),asg v (t+20+rLenT c+rNilT h+rET c of)],
        rStore p v (t+21+rLenT c+rNilT h+rET c of) S h.idx T]))
  | .struct S' _ d tags fs =>
    if 0≤h.null then
      .seq (rGet I.rI8 v t) (.seq (.reg [mv (t+1) v,bin .neq (t+2) I.tI8 (t+1) (.const (.int .i8 (-1))),mv (t+3) (t+2),⟨some (t+4),.call ⟨.value (.func I.rOk),#[.tmp 7],#[]⟩,some (2,true)⟩,
          ⟨some (t+5),.pick (.tmp (t+3)) (.tmp (t+4)) (.const (.bool false)),none⟩])
        (.cond (.tmp (t+5)) (seqs ([.reg [mv (t+6) p,⟨some (t+7),.alloc S',none⟩,nilc (t+8) (t+6),fa (t+9) S (t+8) h.idx,⟨none,.store h.typ (.tmp (t+9)) (.tmp (t+7)),none⟩],
          .reg [mv (t+10) p,nilc (t+11) (t+10),fa (t+12) S (t+11) h.idx,ld (t+13) h.typ (t+12),asg (v+1) (t+13)],.reg [mv (t+14) (v+1),cal (t+15) d [t+14]],.reg [mv (t+16) (v+1),asg (v+2) (t+16)]] ++
          (rFs I c S' (v+2) (v+3) (t+17) b fs ++ rTagsL I S' (v+2) tags (t+17+rFT c fs)))) .skip))
    else
      seqs ([.reg [mv t p,nilc (t+1) t,fa (t+2) S (t+1) h.idx,asg v (t+2)],.reg [mv (t+3) v,cal (t+4) d [t+3]],.reg [mv (t+5) v,asg (v+1) (t+5)]] ++
        (rFs I c S' (v+1) (v+2) (t+6) b fs ++ rTagsL I S' (v+1) tags (t+6+rFT c fs)))
def rFs (I:RIds) (c:Ctx) (S p v t b:Nat):Fs→List SC
  | .nil=>[]
  | .cons h ty r =>
    rvCond I c h t (rVal I c S p h v (t+vTmps h) b ty) ::
      rFs I c S p (v+rV h ty) (t+vTmps h+rVT c h ty) (b+rB ty) r
end
def rS:Option Int→Nat
  | none=>9
  | some _=>10
def rCtx:Option Int→Ctx
  | none=>⟨8,9,true⟩
  | some _=>⟨8,9,false⟩
def rFlexL (I:RIds) (t:Nat):Option Int→List SC
  | none=>[]
  | some n=>[.reg [mv (t+9) 8,bin .geq (t+10) I.tI16 (t+9) (.const (.int .i16 n)),asg 9 (t+10)],.reg [mv (t+11) 9]]
def rT1 (t:Nat):Option Int→Nat
  | none=>t+9
  | some _=>t+12
def rTop (I:RIds) (S d t:Nat) (flex:Option Int) (tags:Option (Nat × Nat)) (fs:Fs):SC :=
  seqs ([cset 6 .nilIface,.reg [mv t 0,cal (t+1) d [t]],
    .reg [mv (t+2) 1,⟨some (t+3),.build I.tRd #[(0,.tmp (t+2))],none⟩,⟨some 7,.alloc I.tRd,none⟩,⟨none,.store I.tRd (.tmp 7) (.tmp (t+3)),none⟩],
    .reg [mv (t+4) 0,nilc (t+5) (t+4),fa (t+6) S (t+5) 0,ld (t+7) I.tI16 (t+6),asg 8 (t+7)],.reg [mv (t+8) 8]] ++
    (rFlexL I t flex ++ ([.reg [mv (rT1 t flex) 0,asg (rS flex) (rT1 t flex)]] ++
      ((rFs I (rCtx flex) S (rS flex) (rS flex+1) (rT1 t flex+1) 0 fs ++ rTagsL I S (rS flex) tags (rT1 t flex+1+rFT (rCtx flex) fs)) ++
      [.reg [cal (rT1 t flex+1+rFT (rCtx flex) fs+rTagsT tags) I.rCompl [7],asg 6 (rT1 t flex+1+rFT (rCtx flex) fs+rTagsT tags)],.ret]))))
end Go.Proofs.Ytgaplicnofhliaa.K
namespace Go.Proofs.Ytgaplicnofhliaa.K
open Go Go.RowKit Go.Proofs.Ytgaplicnofhliaa.T
set_option linter.unusedSimpArgs false
set_option linter.unusedVariables false
def RdAt (TR:Nat) (w:World) (S:Option Nat) (rb:Nat):Option Bytes→Prop
  | none=>w.heap[rb]?=some (.cells #[.slice none 0 0,.bool true] TR (0,0))
  | some rest=>∃ base cap,w.heap[rb]?=some (.cells #[.slice base rest.length cap,.bool false] TR (0,0))∧rest.length≤cap ∧
      match S with
      | none=>base=none∧rest=[]
      | some sb=>∃ o,base=some ⟨sb,o,none⟩∧∀ j u,rest[j]?=some u→w.cell? ⟨sb,o+j,none⟩=some (cell u)
structure Only (rb:Nat) (w w':World):Prop where
  os:w'.os=w.os
  tape:w'.tape=w.tape
  output:w'.output=w.output
  size:w.heap.size≤w'.heap.size
  block:∀ k,k < w.heap.size→k ≠ rb→w'.heap[k]?=w.heap[k]?
theorem Only.refl (rb:Nat) (w:World):Only rb w w:=⟨rfl,rfl,rfl,Nat.le_refl _,fun _ _ _=>rfl⟩
theorem Only.trans {rb:Nat} {a b c:World} (h:Only rb a b) (k:Only rb b c):Only rb a c :=
  ⟨k.os.trans h.os,k.tape.trans h.tape,k.output.trans h.output,Nat.le_trans h.size k.size,fun i hi hn=>(k.block i (Nat.lt_of_lt_of_le hi h.size) hn).trans (h.block i hi hn)⟩
theorem Only.alloc {rb:Nat} {a w:World} (h:Only rb a w) (o:Obj):Only rb a (w.alloc o) :=
  h.trans ⟨rfl,rfl,rfl,by simp,fun k hk _=>Below.heap_alloc _ _ _ hk⟩
theorem Only.drew {rb:Nat} {a w:World} (h:Only rb a w):Only rb a w.drew:=⟨h.os,h.tape,h.output,h.size,h.block⟩
theorem Only.setRow {rb:Nat} {a w:World} (h:Only rb a w) (cs:Array Value):Only rb a (w.setRow rb cs) :=
  h.trans ⟨rfl,rfl,rfl,by simp,fun k _ hn=>setRow_other _ _ _ _ hn⟩
theorem Only.own {rb b:Nat} {a w:World} (h:Only rb a w) (hb:a.heap.size≤b) (cs:Array Value):Only rb a (w.setRow b cs) :=
  ⟨h.os,h.tape,h.output,by simpa using h.size,fun k hk hn=>(setRow_other _ _ _ _ (by omega)).trans (h.block k hk hn)⟩
theorem Only.below {rb B:Nat} {w w':World} (h:Only rb w w') (hB:B≤rb) (hs:B≤w.heap.size):Below B w w' :=
  ⟨h.os,h.tape,h.output,h.size,fun k hk=>h.block k (by omega) (by omega)⟩
theorem Only.cell {rb:Nat} {w w':World} (h:Only rb w w') {a:Addr} (hk:a.block < w.heap.size) (hn:a.block ≠ rb):w'.cell? a=w.cell? a:=World.cell?_of_block (h.block _ hk hn)
def after {α:Type} (st:Option Bytes) (p:Rd α):Option Bytes:=st.bind fun b=>(p b).map (·.2)
theorem after_ok {α:Type} {b r:Bytes} {x:α} {p:Rd α} (h:p b=some (x,r)):after (some b) p=some r:=by simp [after,h]
theorem after_no {α:Type} {b:Bytes} {p:Rd α} (h:p b=none):after (some b) p=none:=by simp [after,h]
theorem after_bad {α:Type} {p:Rd α}:after none p=none:=rfl
theorem after_rOk {α:Type} (st:Option Bytes) (x:α):after st (rOk x)=st:=by cases st <;> rfl
theorem after_then {α β:Type} (st:Option Bytes) (p:Rd α) (f:α→Rd β) {x:α} {b r:Bytes} (hs:st=some b) (h:p b=some (x,r)):after st (rThen p f)=after (some r) (f x):=by
  subst hs
  simp [after,rThen_of h]
theorem after_then_none {α β:Type} {st:Option Bytes} {p:Rd α} {f:α→Rd β} (h:after st p=none):after st (rThen p f)=none:=by
  cases st with
  | none=>rfl
  | some b =>
    cases hp:p b with
    | none=>simp [after,rThen,hp]
    | some z=>simp [after,hp] at h
def NewF (S:Option Nat) (w w':World):Nat→Prop:=fun k=>S=some k∨(w.heap.size≤k∧k < w'.heap.size)
def RC {α:Type} (P:Program) (TR gb:Nat) (f:FuncId) (p:Rd α) (ty:Value→Prop) (ok:World→(Nat→Prop)→α→Value→Prop):Prop :=
  FnOK P f∧∀ (w:World) (S:Option Nat) (rb:Nat) (st:Option Bytes),gb < w.heap.size→RdAt TR w S rb st→(∀ sb,S=some sb→sb ≠ rb∧sb < w.heap.size) →
    Calls P f #[.pointer (some ⟨rb,0,none⟩)] w fun e w'=>∃ v,e=.returned v∧RdAt TR w' S rb (after st p)∧Only rb w w'∧ty v ∧
      ∀ b x r,st=some b→p b=some (x,r)→ok w' (NewF S w w') x v
def tyP (nul:Bool):PK→Value→Prop
  | .bool,v=>∃ x,v=.bool x
  | .i8,v=>∃ n,v=.int .i8 n
  | .i16,v=>∃ n,v=.int .i16 n
  | .i32,v=>∃ n,v=.int .i32 n
  | .i64,v=>∃ n,v=.int .i64 n
  | .u16,v=>∃ n,v=.int .u16 n
  | .uuid,v=>∃ bs:Bytes,bs.length=16∧v=.agg (cellsOf bs).toArray
  | .str,v=>if nul then ∃ q,v=.pointer q else ∃ s,v=.string s
  | .bytes,v=>∃ b l c,v=.slice b l c
theorem tyP_one {nul:Bool} {k:PK} {v:Value} (hk:k ≠ .uuid) (h:tyP nul k v):v.oneCell'=true:=by
  cases k <;> simp only [tyP] at h
  case uuid=>exact absurd rfl hk
  case str =>
    split at h <;> obtain ⟨x,rfl⟩:=h <;> rfl
  case bytes=>obtain ⟨b,l,c,rfl⟩:=h;rfl
  all_goals obtain ⟨x,rfl⟩:=h;rfl
def okP (nul:Bool) (k:PK) (w:World) (F:Nat→Prop) (t:Tree) (v:Value):Prop:=t.s.length≤most→(if k=.uuid then v=.agg (cellsOf (uuidOf t)).toArray else PVal w F nul t k v)
def PK.num:PK→Bool
  | .bool=>true | .i8=>true | .i16=>true | .i32=>true | .i64=>true | .u16=>true | _=>false
def TagsV (w:World) (F:Nat→Prop) (u:List (Nat × Bytes)) (m:Value):Prop :=
  (m=.map none∧u=[])∨∃ r es clock,m=.map (some r)∧F r∧w.heap[r]?=some (.map es clock)∧TagsEs w F es clock u
structure KR (P:Program) (I:RIds) (TR gb:Nat) (err:Value) (Gl:World→Prop):Prop where
  num:∀ k,PK.num k=true→rNum I k ≠ 0→RC P TR gb (rNum I k) (pPrim false false k) (tyP false k) (okP false k)
  uuid:I.rUuid ≠ 0→RC P TR gb I.rUuid (pPrim false false .uuid) (tyP false .uuid) (okP false .uuid)
  str:I.rStr ≠ 0→RC P TR gb I.rStr (pPrim false false .str) (tyP false .str) (okP false .str)
  cstr:I.rCStr ≠ 0→RC P TR gb I.rCStr (pPrim true false .str) (tyP false .str) (okP false .str)
  nstr:I.rNStr ≠ 0→RC P TR gb I.rNStr (pPrim false true .str) (tyP true .str) (okP true .str)
  cnstr:I.rCNStr ≠ 0→RC P TR gb I.rCNStr (pPrim true true .str) (tyP true .str) (okP true .str)
  bytes:I.rBytes ≠ 0→RC P TR gb I.rBytes (pPrim false false .bytes) (tyP false .bytes) (okP false .bytes)
  cbytes:I.rCBytes ≠ 0→RC P TR gb I.rCBytes (pPrim true false .bytes) (tyP false .bytes) (okP false .bytes)
  nbytes:I.rNBytes ≠ 0→RC P TR gb I.rNBytes (pPrim false true .bytes) (tyP true .bytes) (okP true .bytes)
  arr:I.rArr ≠ 0→RC P TR gb I.rArr (pLen false) (fun v=>∃ n,v=.int .i32 n) (fun _ _ n v=>v=.int .i32 n)
  carr:I.rCArr ≠ 0→RC P TR gb I.rCArr (pLen true) (fun v=>∃ n,v=.int .i32 n) (fun _ _ n v=>v=.int .i32 n)
  tags:I.rTags ≠ 0→RC P TR gb I.rTags (pTags true) (fun v=>∃ m,v=.agg #[m]∧m.oneCell'=true) (fun w F u v=>∃ m,v=.agg #[m]∧TagsV w F u m)
  okF:I.rOk ≠ 0→FnOK P I.rOk
  ok:I.rOk ≠ 0→∀ (w:World) (S:Option Nat) (rb:Nat) (st:Option Bytes),RdAt TR w S rb st→Calls P I.rOk #[.pointer (some ⟨rb,0,none⟩)] w fun e w'=>e=.returned (.bool st.isSome)∧w'=w
  complF:FnOK P I.rCompl
  compl:∀ (w:World) (S:Option Nat) (rb:Nat) (st:Option Bytes),Gl w→RdAt TR w S rb st→Calls P I.rCompl #[.pointer (some ⟨rb,0,none⟩)] w fun e w'=>e=.returned (if st.isSome then .nilIface else err)∧w'=w
end Go.Proofs.Ytgaplicnofhliaa.K
namespace Go.Proofs.Ytgaplicnofhliaa.K
open Go Go.RowKit Go.Proofs.Ytgaplicnofhliaa.T
set_option linter.unusedVariables false
set_option linter.unusedSimpArgs false
def wpL (P:Program) (Q:Exit→Act→World→Prop):List SC→Act→World→Prop
  | [],a,w=>Q .normal a w
  | x :: l,a,w=>x.wp P (Exit.then (wpL P Q l) Q) a w
theorem wpL_seqs {P:Program} {Q:Exit→Act→World→Prop}:∀ (l:List SC) (a:Act) (w:World),wpL P Q l a w→(seqs l).wp P Q a w
  | [],a,w,h=>SC.wp_skip h
  | [x],a,w,h=>SC.wp_mono h fun e a w hq=>by cases e <;> exact hq
  | x :: y :: l,a,w,h=>SC.wp_seq (SC.wp_mono h fun e a w hq=>by
      cases e
      case normal=>exact wpL_seqs (y :: l) a w hq
      all_goals exact hq)
def szTy (nul:Bool):Ty→Nat
  | .prim k=>if k=.uuid then 16 else 1
  | .list _ _ _ _=>1
  | .struct _ size _ _ _=>if nul then 1 else size
def nuOf (h:Hd):Bool:=decide (0≤h.null)
mutual
def layTy (nul:Bool):Ty→Bool
  | .prim _=>true
  | .list _ _ size of=>layTy false of && decide (szTy false of≤size)
  | .struct _ size _ tags fs=>layFs 0 (match tags with | none=>size | some (_,off)=>off) fs && (match tags with | none=>true | some (_,off)=>decide (off < size))
def layFs (lo n:Nat):Fs→Bool
  | .nil=>decide (lo≤n)
  | .cons h ty r=>decide (lo≤h.off) && decide (h.off+szTy (nuOf h) ty≤n) && layTy (nuOf h) ty && layFs (h.off+szTy (nuOf h) ty) n r
end
section
variable {G:List (Nat × Bytes)→Prop} {w w':World} {F F':Nat→Prop}
theorem bytesAt_frame {base:Option Addr} {bs:Bytes} (hF:∀ k,F k→F' k∧w'.heap[k]?=w.heap[k]?) (h:BytesAt w F base bs):BytesAt w' F' base bs:=by
  rcases h with h | ⟨b,o,h1,h2,h3⟩
  · exact .inl h
  · exact .inr ⟨b,o,h1,(hF b h2).1,fun j u hu=>by rw [World.cell?_of_block (hF b h2).2];exact h3 j u hu⟩
theorem pVal_frame {nul:Bool} {t:Tree} {k:PK} {v:Value} (hF:∀ k,F k→F' k∧w'.heap[k]?=w.heap[k]?) (h:PVal w F nul t k v):PVal w' F' nul t k v:=by
  cases k <;> simp only [PVal] at h ⊢
  case str =>
    split at h
    · rename_i hn
      split at h
      · rename_i ht
        rw [if_pos hn,if_pos ht]
        exact h
      · rename_i ht
        rw [if_pos hn,if_neg ht]
        obtain ⟨b',o',s,h1,h2,h3,h4⟩:=h
        exact ⟨b',o',s,h1,(hF _ h2).1,by rw [World.cell?_of_block (hF _ h2).2];exact h3,h4⟩
    · rename_i hn
      rw [if_neg hn]
      exact h
  case bytes =>
    obtain ⟨base,cap,h1,h2⟩:=h
    refine ⟨base,cap,h1,?_⟩
    split at h2
    · rename_i hn
      rw [if_pos hn]
      exact h2
    · rename_i hn
      rw [if_neg hn]
      exact ⟨bytesAt_frame hF h2.1,h2.2⟩
  all_goals exact h
theorem tagsV_frame {u:List (Nat × Bytes)} {m:Value} (hF:∀ k,F k→F' k∧w'.heap[k]?=w.heap[k]?) (h:TagsV w F u m):TagsV w' F' u m:=by
  rcases h with h | ⟨r,es,clock,h1,h2,h3,h4,h4s,h5⟩
  · exact .inl h
  · refine .inr ⟨r,es,clock,h1,(hF _ h2).1,by rw [(hF _ h2).2];exact h3,h4,h4s,fun e he x hx hk=>?_⟩
    obtain ⟨base,cap,q1,q2⟩:=h5 e he x hx hk
    exact ⟨base,cap,q1,bytesAt_frame hF q2⟩
theorem hTags_frame {b o:Nat} {u:List (Nat × Bytes)} (hF:∀ k,F k→F' k∧w'.heap[k]?=w.heap[k]?) (hc:w'.cell? ⟨b,o,none⟩=w.cell? ⟨b,o,none⟩) (h:HTags G w F b o u):HTags G w' F' b o u:=by
  obtain ⟨h1,h2,h3,h4,h5⟩:=h
  refine ⟨h1,h2,h3,h4,?_⟩
  rw [hc]
  rcases h5 with h5 | ⟨r,es,clock,q1,q2,q3,q4,q4s,q5⟩
  · exact .inl h5
  · refine .inr ⟨r,es,clock,q1,(hF _ q2).1,by rw [(hF _ q2).2];exact q3,q4,q4s,fun e he x hx hk=>?_⟩
    obtain ⟨base,cap,k1,k2⟩:=q5 e he x hx hk
    exact ⟨base,cap,k1,bytesAt_frame hF k2⟩
mutual
theorem hTy_frame (hF:∀ k,F k→F' k∧w'.heap[k]?=w.heap[k]?) (ver:Int) (flex:Bool):∀ (ty:Ty) (nul:Bool) (b o:Nat) (t:Tree),layTy nul ty=true →
    (∀ j,o≤j→j < o+szTy nul ty→w'.cell? ⟨b,j,none⟩=w.cell? ⟨b,j,none⟩)→HTy G w F ver flex ty nul b o t→HTy G w' F' ver flex ty nul b o t
  | .prim k,nul,b,o,t,_,hc,h=>by
    simp only [HTy,HPrim] at h ⊢
    simp only [szTy] at hc
    split
    · rename_i hk
      subst hk
      rw [if_pos rfl] at h
      intro j u hu
      have hj:j < 16:=by
        have:=(List.getElem?_eq_some_iff.1 hu).1
        rw [uuidOf_length] at this
        exact this
      rw [hc (o+j) (by omega) (by simp;omega)]
      exact h j u hu
    · rename_i hk
      rw [if_neg hk] at h hc
      obtain ⟨v,h1,h2⟩:=h
      exact ⟨v,by rw [hc o (by omega) (by omega)];exact h1,pVal_frame hF h2⟩
  | .list _ _ size of,nul,b,o,t,hl,hc,h=>by
    simp only [HTy] at h ⊢
    simp only [layTy,Bool.and_eq_true] at hl
    simp only [szTy] at hc
    obtain ⟨base,cap,h1,h2⟩:=h
    refine ⟨base,cap,by rw [hc o (by omega) (by omega)];exact h1,?_⟩
    split at h2
    · rename_i hn
      rw [if_pos hn]
      exact h2
    · rename_i hn
      rw [if_neg hn]
      refine ⟨h2.1,h2.2.1,h2.2.2.imp id fun ⟨b',o',q1,q2,q3⟩=>⟨b',o',q1,(hF _ q2).1,fun i x hx=>?_⟩⟩
      exact hTy_frame hF ver flex of false b' (o'+i * size) x hl.1 (fun j _ _=>World.cell?_of_block (hF _ q2).2) (q3 i x hx)
  | .struct _ size _ tags fs,nul,b,o,t,hl,hc,h=>by
    simp only [HTy] at h ⊢
    simp only [layTy,Bool.and_eq_true] at hl
    have key:∀ (b o:Nat),(∀ j,o≤j→j < o+size→w'.cell? ⟨b,j,none⟩=w.cell? ⟨b,j,none⟩)→(HFs G w F ver flex fs b o t.l∧TagsAt G w F flex b o tags t.u) →
        (HFs G w' F' ver flex fs b o t.l∧TagsAt G w' F' flex b o tags t.u):=by
      clear hc h
      intro b o hc h
      unfold TagsAt at h ⊢
      cases tags with
      | none =>
        exact ⟨hFs_frame hF ver flex fs 0 size b o t.l hl.1 (fun j h1 h2=>hc j (by omega) (by omega)) h.1,h.2⟩
      | some x =>
        obtain ⟨f,off⟩:=x
        simp only [decide_eq_true_eq] at hl
        exact ⟨hFs_frame hF ver flex fs 0 off b o t.l hl.1 (fun j h1 h2=>hc j (by omega) (by omega)) h.1,fun hf=>hTags_frame hF (hc _ (by omega) (by omega)) (h.2 hf)⟩
    split
    · rename_i hn
      rw [if_pos hn] at h
      simp only [szTy,hn,if_true] at hc
      split
      · rename_i ht
        rw [if_pos ht] at h
        rw [hc o (by omega) (by omega)]
        exact h
      · rename_i ht
        rw [if_neg ht] at h
        obtain ⟨b',o',q1,q2,q3⟩:=h
        exact ⟨b',o',by rw [hc o (by omega) (by omega)];exact q1,(hF _ q2).1,key b' o' (fun j _ _=>World.cell?_of_block (hF _ q2).2) q3⟩
    · rename_i hn
      rw [if_neg hn] at h
      have hn':nul=false:=by simpa using hn
      simp only [szTy,hn',Bool.false_eq_true,if_false] at hc
      exact key b o hc h
theorem hFs_frame (hF:∀ k,F k→F' k∧w'.heap[k]?=w.heap[k]?) (ver:Int) (flex:Bool):∀ (fs:Fs) (lo n:Nat) (b o:Nat) (ts:List Tree),layFs lo n fs=true →
    (∀ j,o+lo≤j→j < o+n→w'.cell? ⟨b,j,none⟩=w.cell? ⟨b,j,none⟩)→HFs G w F ver flex fs b o ts→HFs G w' F' ver flex fs b o ts
  | .nil,_,_,_,_,_,_,_,_=>by simp [HFs]
  | .cons h ty r,lo,n,b,o,ts,hl,hc,hh=>by
    simp only [HFs] at hh ⊢
    simp only [layFs,Bool.and_eq_true,decide_eq_true_eq] at hl
    obtain ⟨⟨⟨l1,l2⟩,l3⟩,l4⟩:=hl
    refine ⟨fun hv=>hTy_frame hF ver flex ty _ b (o+h.off) _ l3 (fun j h1 h2=>hc j (by omega) (by unfold nuOf at l2;omega)) (hh.1 hv),hFs_frame hF ver flex r _ n b o _ l4 (fun j h1 h2=>hc j (by omega) h2) hh.2⟩
end
end
mutual
def FrTy (w:World) (b:Nat) (nul:Bool):Ty→Nat→Prop
  | .prim _,_=>True
  | .list _ _ _ _,o=>w.cell? ⟨b,o,none⟩=some (.slice none 0 0)
  | .struct _ _ _ _ fs,o=>if nul then w.cell? ⟨b,o,none⟩=some (.pointer none) else FrFs w b fs o
def FrFs (w:World) (b:Nat):Fs→Nat→Prop
  | .nil,_=>True
  | .cons h ty r,o=>FrTy w b (nuOf h) ty (o+h.off)∧FrFs w b r o
end
mutual
theorem frTy_frame {w w':World} {b:Nat}:∀ (nul:Bool) (ty:Ty) (o:Nat),layTy nul ty=true→(∀ j,o≤j→j < o+szTy nul ty→w'.cell? ⟨b,j,none⟩=w.cell? ⟨b,j,none⟩)→FrTy w b nul ty o→FrTy w' b nul ty o
  | nul,.prim _,_,_,_,_=>by simp [FrTy]
  | nul,.list _ _ _ _,o,_,hc,h=>by
    simp only [FrTy] at h ⊢
    simp only [szTy] at hc
    rw [hc o (by omega) (by omega)]
    exact h
  | nul,.struct _ size _ tags fs,o,hl,hc,h=>by
    simp only [FrTy] at h ⊢
    simp only [layTy,Bool.and_eq_true] at hl
    cases nul with
    | true =>
      simp only [szTy,if_true] at hc h ⊢
      rw [hc o (by omega) (by omega)]
      exact h
    | false =>
      simp only [szTy,Bool.false_eq_true,if_false] at hc h ⊢
      cases tags with
      | none=>exact frFs_frame fs 0 size o hl.1 (fun j h1 h2=>hc j (by omega) (by omega)) h
      | some x =>
        obtain ⟨f,off⟩:=x
        simp only [decide_eq_true_eq] at hl
        exact frFs_frame fs 0 off o hl.1 (fun j h1 h2=>hc j (by omega) (by omega)) h
theorem frFs_frame {w w':World} {b:Nat}:∀ (fs:Fs) (lo n o:Nat),layFs lo n fs=true→(∀ j,o+lo≤j→j < o+n→w'.cell? ⟨b,j,none⟩=w.cell? ⟨b,j,none⟩)→FrFs w b fs o→FrFs w' b fs o
  | .nil,_,_,_,_,_,_=>by simp [FrFs]
  | .cons h ty r,lo,n,o,hl,hc,hh=>by
    simp only [FrFs] at hh ⊢
    simp only [layFs,Bool.and_eq_true,decide_eq_true_eq] at hl
    obtain ⟨⟨⟨l1,l2⟩,l3⟩,l4⟩:=hl
    exact ⟨frTy_frame (nuOf h) ty _ l3 (fun j h1 h2=>hc j (by omega) (by omega)) hh.1,frFs_frame r _ n o l4 (fun j h1 h2=>hc j (by omega) h2) hh.2⟩
end
mutual
def frTyB (get:Nat→Option Value) (nul:Bool):Ty→Nat→Bool
  | .prim _,_=>true
  | .list _ _ _ _,o=>match get o with | some (.slice none 0 0)=>true | _=>false
  | .struct _ _ _ _ fs,o=>if nul then (match get o with | some (.pointer none)=>true | _=>false) else frFsB get fs o
def frFsB (get:Nat→Option Value):Fs→Nat→Bool
  | .nil,_=>true
  | .cons h ty r,o=>frTyB get (nuOf h) ty (o+h.off) && frFsB get r o
end
mutual
theorem frTyB_ok {w:World} {b q:Nat} {get:Nat→Option Value} (hg:∀ j v,get j=some v→w.cell? ⟨b,q+j,none⟩=some v):∀ (nul:Bool) (ty:Ty) (o:Nat),frTyB get nul ty o=true→FrTy w b nul ty (q+o)
  | nul,.prim _,_,_=>by simp [FrTy]
  | nul,.list _ _ _ _,o,h=>by
    simp only [frTyB] at h
    simp only [FrTy]
    split at h
    · rename_i hv
      exact hg _ _ hv
    · simp at h
  | nul,.struct _ _ _ _ fs,o,h=>by
    simp only [frTyB] at h
    simp only [FrTy]
    cases nul with
    | true =>
      simp only [if_true] at h ⊢
      split at h
      · rename_i hv
        exact hg _ _ hv
      · simp at h
    | false =>
      simp only [Bool.false_eq_true,if_false] at h ⊢
      exact frFsB_ok hg fs o h
theorem frFsB_ok {w:World} {b q:Nat} {get:Nat→Option Value} (hg:∀ j v,get j=some v→w.cell? ⟨b,q+j,none⟩=some v):∀ (fs:Fs) (o:Nat),frFsB get fs o=true→FrFs w b fs (q+o)
  | .nil,_,_=>by simp [FrFs]
  | .cons h ty r,o,hh=>by
    simp only [frFsB,Bool.and_eq_true] at hh
    simp only [FrFs]
    exact ⟨by rw [Nat.add_assoc];exact frTyB_ok hg (nuOf h) ty _ hh.1,frFsB_ok hg r o hh.2⟩
end
mutual
def outTy (out:List (Nat × Value)) (nul:Bool):Ty→Nat→Bool
  | .prim _,_=>true
  | .list _ _ _ _,o=>out.all fun x=>x.1 != o
  | .struct _ _ _ _ fs,o=>if nul then (out.all fun x=>x.1 != o) else outFs out fs o
def outFs (out:List (Nat × Value)):Fs→Nat→Bool
  | .nil,_=>true
  | .cons h ty r,o=>outTy out (nuOf h) ty (o+h.off) && outFs out r o
end
theorem dSetAll_other {q j:Nat}:∀ (out:List (Nat × Value)) (cs:Array Value),(∀ x ∈ out,q+x.1 ≠ j)→(dSetAll q out cs)[j]?=cs[j]?
  | [],_,_=>rfl
  | x :: r,cs,h=>by
    rw [dSetAll,dSetAll_other r _ (fun y hy=>h y (List.mem_cons_of_mem _ hy))]
    rw [Array.getElem?_setIfInBounds_ne (h x (by simp))]
mutual
theorem outTy_ok {w w':World} {b q:Nat} {out:List (Nat × Value)} (hc:∀ j,(∀ x ∈ out,x.1 ≠ j)→w'.cell? ⟨b,q+j,none⟩=w.cell? ⟨b,q+j,none⟩):∀ (nul:Bool) (ty:Ty) (o:Nat),outTy out nul ty o=true→FrTy w b nul ty (q+o)→FrTy w' b nul ty (q+o)
  | nul,.prim _,_,_,_=>by simp [FrTy]
  | nul,.list _ _ _ _,o,h,hf=>by
    simp only [outTy,List.all_eq_true,bne_iff_ne,ne_eq] at h
    simp only [FrTy] at hf ⊢
    rw [hc o h]
    exact hf
  | nul,.struct _ _ _ _ fs,o,h,hf=>by
    simp only [outTy] at h
    simp only [FrTy] at hf ⊢
    cases nul with
    | true =>
      simp only [if_true,List.all_eq_true,bne_iff_ne,ne_eq] at h hf ⊢
      rw [hc o h]
      exact hf
    | false =>
      simp only [Bool.false_eq_true,if_false] at h hf ⊢
      exact outFs_ok hc fs o h hf
theorem outFs_ok {w w':World} {b q:Nat} {out:List (Nat × Value)} (hc:∀ j,(∀ x ∈ out,x.1 ≠ j)→w'.cell? ⟨b,q+j,none⟩=w.cell? ⟨b,q+j,none⟩):∀ (fs:Fs) (o:Nat),outFs out fs o=true→FrFs w b fs (q+o)→FrFs w' b fs (q+o)
  | .nil,_,_,_=>by simp [FrFs]
  | .cons h ty r,o,hh,hf=>by
    simp only [outFs,Bool.and_eq_true] at hh
    simp only [FrFs] at hf ⊢
    refine ⟨?_,outFs_ok hc r o hh.2 hf.2⟩
    rw [Nat.add_assoc]
    exact outTy_ok hc (nuOf h) ty _ hh.1 (by rw [← Nat.add_assoc];exact hf.1)
end
end Go.Proofs.Ytgaplicnofhliaa.K
namespace Go.Proofs.Ytgaplicnofhliaa.K
open Go Go.RowKit Go.Proofs.Ytgaplicnofhliaa.T
set_option linter.unusedVariables false
set_option linter.unusedSimpArgs false
structure RX where
  P:Program
  I:RIds
  TR:Nat
  S:Option Nat
  rb:Nat
  G:List (Nat × Bytes)→Prop
  c:Ctx
  w0:World
  B:Nat
  ver:Int
  flex:Bool
  T0:Nat
  N:Nat
  err:Value
  Gl:World→Prop
  gb:Nat
structure RX.ok (X:RX):Prop where
  kr:KR X.P X.I X.TR X.gb X.err X.Gl
  hgb:X.gb < X.B
  cver:X.c.ver=8
  ten:9 < X.T0
  never:X.c.never=true→X.flex=false
  hB:X.B≤X.rb
  hver:0≤X.ver
  G:∀ u,X.G u
  gl:∀ w,Below X.B X.w0 w→X.Gl w
structure RInv (X:RX) (a:Act) (w:World) (st:Option Bytes):Prop where
  size:a.tmps.size=X.N
  defers:a.defers=[]
  uns:getT a 2=.bool false
  rd:getT a 7=.pointer (some ⟨X.rb,0,none⟩)
  ver:getT a 8=.int .i16 X.ver
  flex:X.c.never=false→getT a 9=.bool X.flex
  at_:RdAt X.TR w X.S X.rb st
  src:∀ sb,X.S=some sb→sb ≠ X.rb∧sb < w.heap.size
  below:Below X.B X.w0 w
  heap:X.B≤w.heap.size
theorem RdAt.lt {TR rb:Nat} {w:World} {S:Option Nat} {st:Option Bytes} (h:RdAt TR w S rb st):rb < w.heap.size:=by
  cases st with
  | none=>exact (Array.getElem?_eq_some_iff.1 h).1
  | some rest =>
    obtain ⟨base,cap,h1,_⟩:=h
    exact (Array.getElem?_eq_some_iff.1 h1).1
theorem RdAt.frame {TR rb:Nat} {w w':World} {S:Option Nat} {st:Option Bytes} (h:RdAt TR w S rb st) (h1:w'.heap[rb]?=w.heap[rb]?) (h2:∀ sb,S=some sb→w'.heap[sb]?=w.heap[sb]?):RdAt TR w' S rb st:=by
  cases st with
  | none =>
    simp only [RdAt] at h ⊢
    rw [h1]
    exact h
  | some rest =>
    simp only [RdAt] at h ⊢
    obtain ⟨base,cap,q1,q2,q3⟩:=h
    refine ⟨base,cap,by rw [h1];exact q1,q2,?_⟩
    cases S with
    | none=>exact q3
    | some sb =>
      obtain ⟨o,k1,k2⟩:=q3
      exact ⟨o,k1,fun j u hu=>by rw [World.cell?_of_block (h2 sb rfl)];exact k2 j u hu⟩
def RSame (X:RX) (a a':Act) (lo t:Nat):Prop:=∀ s,(s < lo∨(X.T0≤s∧s < t))→getT a' s=getT a s
theorem RSame.refl (X:RX) (a:Act) (lo t:Nat):RSame X a a lo t:=fun _ _=>rfl
theorem RSame.trans {X:RX} {a b c:Act} {lo t lo' t':Nat} (h:RSame X a b lo t) (h':RSame X b c lo' t') (hl:lo≤lo') (ht:t≤t'):RSame X a c lo t :=
  fun s h1=>(h' s (by omega)).trans (h s h1)
theorem RSame.mono {X:RX} {a b:Act} {lo t lo' t':Nat} (h:RSame X a b lo' t') (hl:lo≤lo') (ht:t≤t'):RSame X a b lo t :=
  fun s h1=>h s (by omega)
structure Foot (rb b lo hi:Nat) (w w':World):Prop where
  size:w.heap.size≤w'.heap.size
  block:∀ k,k < w.heap.size→k ≠ rb→k ≠ b→w'.heap[k]?=w.heap[k]?
  row:∀ cs T,w.heap[b]?=some (.cells cs T (0,0))→∃ cs',w'.heap[b]?=some (.cells cs' T (0,0))∧cs'.size=cs.size∧∀ j,(j < lo∨hi≤j)→cs'[j]?=cs[j]?
theorem Foot.refl (rb b lo hi:Nat) (w:World):Foot rb b lo hi w w:=⟨Nat.le_refl _,fun _ _ _ _=>rfl,fun cs T h=>⟨cs,h,rfl,fun _ _=>rfl⟩⟩
theorem Foot.mono {rb b lo hi lo' hi':Nat} {w w':World} (h:Foot rb b lo hi w w') (h1:lo'≤lo) (h2:hi≤hi'):Foot rb b lo' hi' w w' :=
  ⟨h.size,h.block,fun cs T hc=>by
    obtain ⟨cs',q1,q2,q3⟩:=h.row cs T hc
    exact ⟨cs',q1,q2,fun j hj=>q3 j (by omega)⟩⟩
theorem Foot.trans {rb b lo hi:Nat} {w w1 w2:World} (h:Foot rb b lo hi w w1) (h':Foot rb b lo hi w1 w2):Foot rb b lo hi w w2 :=
  ⟨Nat.le_trans h.size h'.size,fun k k1 k2 k3=>(h'.block k (Nat.lt_of_lt_of_le k1 h.size) k2 k3).trans (h.block k k1 k2 k3),fun cs T hc=>by
    obtain ⟨cs',q1,q2,q3⟩:=h.row cs T hc
    obtain ⟨cs2,r1,r2,r3⟩:=h'.row cs' T q1
    exact ⟨cs2,r1,r2.trans q2,fun j hj=>(r3 j hj).trans (q3 j hj)⟩⟩
theorem Foot.of_only {rb b lo hi:Nat} {w w':World} (h:Only rb w w') (hn:b ≠ rb):Foot rb b lo hi w w' :=
  ⟨h.size,fun k k1 k2 _=>h.block k k1 k2,fun cs T hc=>⟨cs,by rw [h.block b (Array.getElem?_eq_some_iff.1 hc).1 hn];exact hc,rfl,fun _ _=>rfl⟩⟩
theorem Foot.other {rb b lo hi b' lo' hi':Nat} {w w1 w2:World} (h:Foot rb b lo hi w w1) (h':Foot rb b' lo' hi' w1 w2) (hb':w.heap.size≤b') (hb:b < w.heap.size) (hn:b ≠ rb):Foot rb b lo hi w w2 :=
  ⟨Nat.le_trans h.size h'.size,fun k k1 k2 k3=>(h'.block k (Nat.lt_of_lt_of_le k1 h.size) k2 (by omega)).trans (h.block k k1 k2 k3),fun cs T hc=>by
    obtain ⟨cs',q1,q2,q3⟩:=h.row cs T hc
    exact ⟨cs',by rw [h'.block b (Nat.lt_of_lt_of_le hb h.size) hn (by omega)];exact q1,q2,q3⟩⟩
def RowAt (w:World) (b q n:Nat):Prop:=∃ cs T,w.heap[b]?=some (.cells cs T (0,0))∧q+n≤cs.size
theorem RowAt.mono {w:World} {b q n q' n':Nat} (h:RowAt w b q n) (h1:q'+n'≤q+n):RowAt w b q' n':=by
  obtain ⟨cs,T,q1,q2⟩:=h
  exact ⟨cs,T,q1,by omega⟩
theorem RowAt.lt {w:World} {b q n:Nat} (h:RowAt w b q n):b < w.heap.size:=by
  obtain ⟨cs,T,q1,q2⟩:=h
  exact (Array.getElem?_eq_some_iff.1 q1).1
theorem Foot.rowAt {rb b lo hi q n:Nat} {w w':World} (h:Foot rb b lo hi w w') (hr:RowAt w b q n):RowAt w' b q n:=by
  obtain ⟨cs,T,q1,q2⟩:=hr
  obtain ⟨cs',r1,r2,_⟩:=h.row cs T q1
  exact ⟨cs',T,r1,by omega⟩
theorem Foot.cell {rb b lo hi q n:Nat} {w w':World} (h:Foot rb b lo hi w w') (hr:RowAt w b q n) {j:Nat} (hj:j < lo∨hi≤j):w'.cell? ⟨b,j,none⟩=w.cell? ⟨b,j,none⟩:=by
  obtain ⟨cs,T,q1,q2⟩:=hr
  obtain ⟨cs',r1,r2,r3⟩:=h.row cs T q1
  rw [cell_of_row _ _ _ _ _ _ q1,cell_of_row _ _ _ _ _ _ r1]
  exact r3 j hj
structure Opn (X:RX) (O:Nat→Prop) (b:Nat) (w:World):Prop where
  orb:O X.rb
  ob:O b
  lt:∀ k,O k→k < w.heap.size
  src:∀ sb,X.S=some sb→¬ O sb
  ne:b ≠ X.rb
  hB:X.B≤b
theorem Opn.mono {X:RX} {O:Nat→Prop} {b:Nat} {w w':World} (h:Opn X O b w) (hs:w.heap.size≤w'.heap.size):Opn X O b w' :=
  ⟨h.orb,h.ob,fun k hk=>Nat.lt_of_lt_of_le (h.lt k hk) hs,h.src,h.ne,h.hB⟩
def FO (O:Nat→Prop) (w:World):Nat→Prop:=fun k=>k < w.heap.size∧¬ O k
theorem Foot.fo {X:RX} {O:Nat→Prop} {b lo hi:Nat} {w w':World} (h:Foot X.rb b lo hi w w') (ho:Opn X O b w):∀ k,FO O w k→FO O w' k∧w'.heap[k]?=w.heap[k]? :=
  fun k ⟨h1,h2⟩=>⟨⟨Nat.lt_of_lt_of_le h1 h.size,h2⟩,h.block k h1 (fun e=>h2 (e ▸ ho.orb)) (fun e=>h2 (e ▸ ho.ob))⟩
theorem newF_fo {X:RX} {O:Nat→Prop} {b:Nat} {w w':World} (ho:Opn X O b w) (hs:w.heap.size≤w'.heap.size) (hsrc:∀ sb,X.S=some sb→sb < w.heap.size):∀ k,NewF X.S w w' k→FO O w' k:=by
  rintro k (h | ⟨h1,h2⟩)
  · exact ⟨Nat.lt_of_lt_of_le (hsrc k h) hs,ho.src k h⟩
  · exact ⟨h2,fun hk=>by have:=ho.lt k hk;omega⟩
section
variable {X:RX} {a a':Act} {w w':World} {st:Option Bytes} {Q:Exit→Act→World→Prop}
theorem RInv.act (h:RInv X a w st) (hs:a'.tmps.size=a.tmps.size) (hd:a'.defers=a.defers) (hk:∀ s,s < 10→getT a' s=getT a s):RInv X a' w st :=
  ⟨hs.trans h.size,hd.trans h.defers,(hk 2 (by omega)).trans h.uns,(hk 7 (by omega)).trans h.rd,(hk 8 (by omega)).trans h.ver,fun hn=>(hk 9 (by omega)).trans (h.flex hn),h.at_,h.src,h.below,h.heap⟩
theorem RInv.foot (h:RInv X a w st) {b lo hi:Nat} (hf:Foot X.rb b lo hi w w') (ho:w'.os=w.os) (ht:w'.tape=w.tape) (hu:w'.output=w.output) (hrb:w'.heap[X.rb]?=w.heap[X.rb]?) (hS:X.S ≠ some b) (hB:X.B≤b) (hX:X.B≤X.rb):RInv X a w' st :=
  ⟨h.size,h.defers,h.uns,h.rd,h.ver,h.flex,
    h.at_.frame hrb (fun sb hsb=>hf.block sb (h.src sb hsb).2 (h.src sb hsb).1 (fun e=>hS (by rw [hsb,e]))),
    fun sb hsb=>⟨(h.src sb hsb).1,Nat.lt_of_lt_of_le (h.src sb hsb).2 hf.size⟩,
    h.below.trans ⟨ho,ht,hu,hf.size,fun k hk=>hf.block k (Nat.lt_of_lt_of_le hk h.heap) (by omega) (by omega)⟩,Nat.le_trans h.heap hf.size⟩
theorem RInv.alloc (h:RInv X a w st) (o:Obj):RInv X a (w.alloc o) st:=by
  have hlt:=h.at_.lt
  exact ⟨h.size,h.defers,h.uns,h.rd,h.ver,h.flex,
    h.at_.frame (Below.heap_alloc _ _ _ hlt) (fun sb hsb=>Below.heap_alloc _ _ _ (h.src sb hsb).2),
    fun sb hsb=>⟨(h.src sb hsb).1,by simp;have:=(h.src sb hsb).2;omega⟩,h.below.alloc h.heap o,by simp;have:=h.heap;omega⟩
theorem RInv.drew (h:RInv X a w st):RInv X a w.drew st:=by
  refine ⟨h.size,h.defers,h.uns,h.rd,h.ver,h.flex,h.at_.frame rfl (fun _ _=>rfl),h.src,h.below.drew,h.heap⟩
theorem RInv.setRow (h:RInv X a w st) {b:Nat} (hn:b ≠ X.rb) (hS:X.S ≠ some b) (hB:X.B≤b) (cs:Array Value):RInv X a (w.setRow b cs) st :=
  ⟨h.size,h.defers,h.uns,h.rd,h.ver,h.flex,
    h.at_.frame (setRow_other _ _ _ _ (Ne.symm hn)) (fun sb hsb=>setRow_other _ _ _ _ (fun e=>hS (by rw [hsb,e]))),
    fun sb hsb=>⟨(h.src sb hsb).1,by simpa using (h.src sb hsb).2⟩,h.below.trans ⟨rfl,rfl,rfl,by simp,fun k hk=>setRow_other _ _ _ _ (by omega)⟩,by simpa using h.heap⟩
theorem foot_setRow {rb b q n:Nat} {cs cs':Array Value} {T:TypeId} (hc:w.heap[b]?=some (.cells cs T (0,0))) (hs:cs'.size=cs.size) (hj:∀ j,(j < q∨q+n≤j)→cs'[j]?=cs[j]?):Foot rb b q (q+n) w (w.setRow b cs') :=
  ⟨by simp,fun k _ _ hb=>setRow_other _ _ _ _ hb,fun c2 T2 h2=>by
    rw [hc] at h2
    simp only [Option.some.injEq,Obj.cells.injEq,and_true] at h2
    obtain ⟨rfl,rfl⟩:=h2
    exact ⟨cs',setRow_heap _ _ _ _ _ _ hc,hs,hj⟩⟩
theorem foot_alloc {rb b lo hi:Nat} (o:Obj):Foot rb b lo hi w (w.alloc o) :=
  ⟨by simp,fun k hk _ _=>Below.heap_alloc _ _ _ hk,fun cs T hc=>⟨cs,by rw [Below.heap_alloc _ _ _ (Array.getElem?_eq_some_iff.1 hc).1];exact hc,rfl,fun _ _=>rfl⟩⟩
theorem foot_drew {rb b lo hi:Nat}:Foot rb b lo hi w w.drew:=⟨Nat.le_refl _,fun _ _ _ _=>rfl,fun cs T hc=>⟨cs,hc,rfl,fun _ _=>rfl⟩⟩
theorem opw_slice00 {T E n:Nat} {d:Option Tmp} {g:Option (Nat × Bool)} {K:Act→World→Prop} (hT:sliceB X.P T E n=true) (hz:∃ i z,X.P.info? E=some i∧i.zero=some z) (h:K (a.put d (.slice (some ⟨w.heap.size,0,none⟩) 0 0)) (w.alloc (.cells #[] E))) :
    opw X.P ⟨d,.buildSlice T 0 #[],g⟩ a w K:=by
  obtain ⟨hu,i,hi,hs⟩:=slice_of hT
  obtain ⟨i',z,hi',hz⟩:=hz
  rw [hi] at hi'
  cases hi'
  refine oVa (w':=w.alloc (.cells #[] E)) (by simp) (fun p hp=>?_) h
  have hr1:Array.range 0=#[]:=by decide
  simp [execOp,hp,Instr.buildSlice,run_underlying hu,sizeOf,typeInfo,zeroValue,hi,hz,newRow,hr1,Instr.fill]
theorem opw_makeN {T E n TN:Nat} {x y:Operand} {d:Option Tmp} {g:Option (Nat × Bool)} {K:Act→World→Prop} {i:TypeInfo} {z:Value} {m:Nat} (hT:sliceB X.P T E n=true) (hN:intK X.P TN=some .i32) (hi:X.P.info? E=some i) (hz:i.zero=some z) (h0:0 < i.size) (hb:i.bytes≤131072)
    (hx:a.eval x=.slice none 0 0) (hy:a.eval y=.int .i32 (m:Int)) (hm:0 < m) (hm2:m < 2147483648)
    (h:∀ cap,m≤cap→K (a.put d (.slice (some ⟨w.heap.size,0,none⟩) m cap)) (w.drew.alloc (.cells (Builtin.zeroCells z.cells m ++ Builtin.zeroCells z.cells (cap - m)) E))) :
    opw X.P ⟨d,.call ⟨.builtin .append,#[x,y],#[T,TN]⟩,g⟩ a w K:=by
  obtain ⟨hu,_⟩:=slice_of hT
  have hu2:=intB_of hN
  unfold intB at hu2
  split at hu2 <;> try (simp at hu2;done)
  rename_i k hk
  have h48:m * i.bytes≤281474976710656:=by
    have:m * i.bytes≤2147483648 * 131072:=Nat.mul_le_mul (by omega) hb
    omega
  refine oVa (v:=.slice (some ⟨w.heap.size,0,none⟩) m (grownCap w m 0 E)) (w':=w.drew.alloc (.cells (Builtin.zeroCells z.cells m ++ Builtin.zeroCells z.cells (grownCap w m 0 E - m)) E)) (by simp) (fun p hp=>?_) (h _ (grownCap_ge w m 0 E))
  have hr:=Lib.run_append_nil_zeros (P:=X.P) w T TN p.type E i z .i32 k hu hk hi hz m hm h0 (by omega) h48
  simp [execOp,hp,hx,hy,resolve,invoke,builtin,hr]
theorem opw_store_aggAt {T b o:Nat} {E:TypeId} {x y:Operand} {cur:Array Value} {cs:List Value} {d:Option Tmp} {g:Option (Nat × Bool)} {K:Act→World→Prop} (hT:aggB X.P T cs.length=true) (hx:a.eval x=.pointer (some ⟨b,o,none⟩)) (hy:a.eval y=.agg cs.toArray)
    (hb:w.heap[b]?=some (.cells cur E (0,0))) (hc:o+cs.length≤cur.size) (h1:∀ v ∈ cs,v.oneCell'=true) (h:K (a.put d undef) (w.setRow b (cur.toList.take o ++ cs ++ cur.toList.drop (o+cs.length)).toArray)) :
    opw X.P ⟨d,.store T x y,g⟩ a w K:=by
  obtain ⟨i,hi,hs,_⟩:=agg_of (w:=w) hT
  refine opw_skip (w':=w.setRow b (cur.toList.take o ++ cs ++ cur.toList.drop (o+cs.length)).toArray) (by simp) (fun p hp=>?_) h
  have hst:=run_storeCells_at X.P b o E cs 0 cur w hb (by omega) h1
  simp only [Nat.add_zero] at hst
  simp only [execOp,hp,hx,hy,Instr.storeAt,Instr.sureAddr,storeVar,sizeOf,typeInfo,hi,hs,Value.cells]
  simp [hst,hi,hs]
end
end Go.Proofs.Ytgaplicnofhliaa.K
