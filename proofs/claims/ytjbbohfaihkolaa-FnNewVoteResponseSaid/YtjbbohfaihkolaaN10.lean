/- Generic texts: E2 E3 R25 R26 R27. No condition. -/
import Derived.Test.YtjbbohfaihkolaaN9
import Derived.Great.BuildSlice
import Derived.Shelf.GgSortFunc.Whole
import Derived.Shelf.GgSortFunc.Tiny
namespace Go.Proofs.Ytjbbohfaihkolaa.K
open Go Go.RowKit Go.Proofs.Ytjbbohfaihkolaa.T
attribute [local simp] eTm eCo pNo gTp gTn qv qcall vop iop
set_option linter.unusedVariables false
set_option linter.unusedSimpArgs false
set_option maxHeartbeats 8000000
def sc_TEach (T0 T1 T2 T3 T4 F0 CL:Nat):SC:=.seq (.seq (.reg [mv 8 0,nilc 9 8,fa 10 T0 9 0,ld 11 T1 10,lenOp 12 T1 11,⟨some 13,.binOp .eql T2 (.tmp 12) (.const (.int .i64 0)) T2,none⟩]) (.cond (.tmp 13) (.ret) (.skip))) (.seq (.reg [mv 14 0,nilc 15 14,fa 16 T0 15 0,ld 17 T1 16,lenOp 18 T1 17,⟨some 19,.makeSlice T3 (.const (.int .i64 0)) (.tmp 18),none⟩,⟨some 4,.alloc T3,none⟩,⟨none,.store T3 (.tmp 4) (.tmp 19),none⟩]) (.seq (.seq (.reg [mv 20 0,nilc 21 20,fa 22 T0 21 0,ld 23 T1 22,⟨some 24,.range T1 (.tmp 23),none⟩]) (.block 0 (.loop (.seq (.reg [⟨some 25,.next (.tmp 24) false,none⟩,⟨some 26,.extract (.tmp 25) 0,none⟩]) (.seq (.cond (.tmp 26) (.skip) (.exit 0)) (.block 1 (.seq (.reg [⟨some 27,.entry (.tmp 24),none⟩,⟨some 28,.extract (.tmp 27) 0,none⟩,asg 5 28]) (.reg [ld 29 T3 4,mv 30 5,⟨some 31,.buildSlice T3 1 #[(0,(.tmp 30))],none⟩,⟨some 32,.call ⟨.builtin .append,#[(.tmp 29),(.tmp 31)],#[T3,T3]⟩,none⟩,⟨none,.store T3 (.tmp 4) (.tmp 32),none⟩])))))))) (.seq (.reg [ld 33 T3 4,⟨some 34,.makeInterface T3 (.tmp 33),none⟩,⟨some 35,.makeFunc (.func CL) #[] #[(.tmp 4)],none⟩,cal 36 F0 [34,35]]) (.seq (.reg [ld 37 T3 4,lenOp 38 T3 37,⟨some 39,.move (.const (.int .i64 0)),none⟩]) (.block 2 (.loop (.seq (.reg [⟨some 40,.binOp .lss T2 (.tmp 39) (.tmp 38) T2,none⟩]) (.seq (.cond (.tmp 40) (.skip) (.exit 2)) (.seq (.block 3 (.seq (.reg [⟨some 41,.indexAddr T3 (.tmp 37) (.tmp 39),none⟩,ld 42 T4 41,asg 7 42]) (.reg [mv 43 1,mv 44 7,mv 45 0,nilc 46 45,fa 47 T0 46 0,ld 48 T1 47,mv 49 7,⟨some 50,.lookup T1 (.tmp 48) (.tmp 49) false,none⟩,⟨some 51,.call ⟨.value (.tmp 43),#[(.tmp 44),(.tmp 50)],#[]⟩,none⟩]))) (.reg [⟨some 52,.binOp .add T2 (.tmp 39) (.const (.int .i64 1)) T2,none⟩,mv 39 52]))))))))))
abbrev encK (k:Nat):Value:=.int .u32 (k:Int)
def SortC (P:Program) (FS CL TU T32:Nat):Prop:=FnOK P FS∧∀ (w:World) (B q blk cap:Nat) (ks:List Nat),q ≠ blk→q < w.heap.size→w.heap[q]?=some (.cells #[.slice (some ⟨blk,0,none⟩) ks.length cap] TU (0,0))→w.ownsRow B T32 1 (.slice (some ⟨blk,0,none⟩) ks.length cap) ks.length (ks.map encK)→ks.length≤32767 →
  Calls P FS #[.iface TU (.slice (some ⟨blk,0,none⟩) ks.length cap),.func (.func CL) #[] #[.pointer (some ⟨q,0,none⟩)]] w fun e w'=>e=.returned (.tuple #[])∧w'.os=w.os∧w'.tape=w.tape∧w'.output=w.output∧w.heap.size≤w'.heap.size∧(∀ j,j < w.heap.size→j ≠ blk→w'.heap[j]?=w.heap[j]?) ∧
    ∃ ks':List Nat,ks'.Perm ks∧ks'.Pairwise (·≤·)∧∀ i k,ks'[i]?=some k→w'.cell? ⟨blk,i,none⟩=some (encK k)
theorem perm_sorted:∀ (l2 l1:List Nat),l1.Perm l2→l1.Pairwise (·≤·)→l2.Pairwise (· < ·)→l1=l2
  | [],l1,h,_,_=>List.Perm.eq_nil h
  | y :: r2,[],h,_,_=>absurd h.length_eq (by simp)
  | y :: r2,x :: r1,h,h1,h2=>by
    have p1:=List.pairwise_cons.1 h1
    have p2:=List.pairwise_cons.1 h2
    have hxy:y≤x:=by
      rcases List.mem_cons.1 (h.mem_iff.1 (.head _)) with e | hm
      · omega
      · exact Nat.le_of_lt (p2.1 x hm)
    have hyx:x≤y:=by
      rcases List.mem_cons.1 (h.mem_iff.2 (List.mem_cons_self:y ∈ y :: r2)) with e | hm
      · omega
      · exact p1.1 y hm
    obtain rfl:x=y:=by omega
    rw [perm_sorted r2 r1 h.cons_inv p1.2 p2.2]
theorem left_perm {es:Array MapEntry} {seen:Array Nat} {e:MapEntry} (hn:(es.toList.map (·.born)).Nodup) (he:e ∈ (leftOf es seen).toList):(leftOf es seen).toList.Perm (e :: (leftOf es (seen.push e.born)).toList):=by
  have key:∀ (l:List MapEntry),(l.map (·.born)).Nodup→e ∈ l.filter (fun x=>!seen.contains x.born)→(l.filter fun x=>!seen.contains x.born).Perm (e :: l.filter fun x=>!(seen.push e.born).contains x.born):=by
    intro l
    induction l with
    | nil=>intro _ h;simp at h
    | cons x r ih =>
      intro hn h
      have hn':=List.nodup_cons.1 (by simpa using hn:(x.born :: r.map (·.born)).Nodup)
      by_cases hx:x=e
      · subst hx
        have hs:seen.contains x.born=false:=by
          have:=(List.mem_filter.1 h).2
          simpa using this
        have hr:(r.filter fun y=>!seen.contains y.born)=r.filter fun y=>!(seen.push x.born).contains y.born:=by
          refine List.filter_congr fun y hy=>?_
          rw [contains_push]
          have:(y.born == x.born)=false:=by
            cases hc:y.born == x.born with
            | false=>rfl
            | true=>exact absurd (by rw [← beq_iff_eq.1 hc];exact List.mem_map_of_mem hy) hn'.1
          rw [this,Bool.or_false]
        have c2:(seen.push x.born).contains x.born=true:=by rw [contains_push];simp
        rw [List.filter_cons,List.filter_cons,hs,c2]
        simp only [Bool.not_false,if_true,Bool.not_true,Bool.false_eq_true,if_false]
        rw [hr]
      · have hmem:e ∈ r.filter fun y=>!seen.contains y.born:=by
          have h1:=List.mem_filter.1 h
          refine List.mem_filter.2 ⟨?_,h1.2⟩
          rcases List.mem_cons.1 h1.1 with e1 | h2
          · exact absurd e1.symm hx
          · exact h2
        have hne:(x.born == e.born)=false:=by
          cases hc:x.born == e.born with
          | false=>rfl
          | true=>exact absurd (by rw [beq_iff_eq.1 hc];exact List.mem_map_of_mem (List.mem_filter.1 hmem).1) hn'.1
        have hi:=ih hn'.2 hmem
        rw [List.filter_cons,List.filter_cons,contains_push,hne,Bool.or_false]
        cases seen.contains x.born
        · simp only [Bool.not_false,if_true]
          exact (hi.cons x).trans (List.Perm.swap _ _ _)
        · simp only [Bool.not_true,Bool.false_eq_true,if_false]
          exact hi
  have e1:∀ s:Array Nat,(leftOf es s).toList=es.toList.filter fun x=>!s.contains x.born:=fun s=>by unfold leftOf;rw [Array.toList_filter]
  rw [e1] at he
  rw [e1,e1]
  exact key es.toList hn he
theorem left_none (es:Array MapEntry):(leftOf es #[]).toList=es.toList:=by
  unfold leftOf
  rw [Array.toList_filter]
  exact List.filter_eq_self.2 fun x _=>by simp
section
variable {P:Program} {a:Act} {w:World} {K:Act→World→Prop} {d:Option Tmp} {g:Option (Nat × Bool)}
theorem opw_make0 {T E n:Nat} {x y:Operand} {i:TypeInfo} {z:Value} {k k':IntKind} (hT:P.underlying T=some (.slice E)) (hi:P.info? E=some i) (hz:i.zero=some z) (hs:i.size=1) (hby:i.bytes≤1000) (hx:a.eval x=.int k 0) (hy:a.eval y=.int k' (n:Int)) (hn:n≤100000)
    (h:K (a.put d (.slice (some ⟨w.heap.size,0,none⟩) 0 n)) (w.alloc (.cells (madeCells z.cells n) E))):opw P ⟨d,.makeSlice T x y,g⟩ a w K:=by
  have hb:(i.bytes:Int) * (n:Int)≤281474976710656:=by
    have:i.bytes * n≤1000 * 100000:=Nat.mul_le_mul hby hn
    rw [← Int.natCast_mul]
    omega
  have hr:=run_make (P:=P) w T E i z hT hi hz k k' 0 n (Int.le_refl _) (by omega) hb (by omega)
  simp only [Int.toNat_natCast,Int.toNat_zero,hs,Nat.mul_one] at hr
  refine oVa (by simp) (fun p hp=>?_) h
  simp only [execOp,hp,hx,hy]
  simp [hr]
theorem opw_build1 {T E:Nat} {x:Operand} {i:TypeInfo} {z v:Value} (hT:P.underlying T=some (.slice E)) (hi:P.info? E=some i) (hz:i.zero=some z) (hs:i.size=1) (hx:a.eval x=v) (hv:v.oneCell'=true)
    (h:K (a.put d (.slice (some ⟨w.heap.size,0,none⟩) 1 1)) (w.alloc (.cells #[v] E))):opw P ⟨d,.buildSlice T 1 #[(0,x)],g⟩ a w K:=by
  refine oVa (by simp) (fun p hp=>?_) h
  have hr:=run_buildSlice (P:=P) w T E 1 #[(0,v)] #[v] i z hT hi hz (by rw [hs];decide) (by rw [hs];decide) (by
    rw [hs]
    have hz1:∀ (zf:Nat→Value),(Array.range (1 * 1)).map zf=#[zf 0]:=fun zf=>Array.ext' (by simp [Array.toList_map,Array.toList_range,List.range,List.range.loop])
    rw [hz1]
    simp [Instr.fill,cells_oneCell hv])
  simp only [execOp,hp]
  simp [hx,hr]
theorem opw_append32 {T E B:Nat} {x y:Operand} {i:TypeInfo} {z lv:Value} {ts:Array TypeId} {ks:List Nat} {k b:Nat} (hT:P.underlying T=some (.slice E)) (hi:P.info? E=some i) (hz:i.zero=some z) (hzc:z.cells.size=1) (hs:i.size=1) (hby:i.bytes≤1000) (hts:ts=#[T,T]) (hx:a.eval x=lv) (hy:a.eval y=.slice (some ⟨b,0,none⟩) 1 1)
    (ho:w.ownsRow B E 1 lv ks.length (ks.map encK)) (hB:B≤w.heap.size) (hlen:ks.length≤100000) (hc:w.cell? ⟨b,0,none⟩=some (encK k))
    (h:∀ lv' w',w'.ownsRow B E 1 lv' (ks ++ [k]).length ((ks ++ [k]).map encK)→w.grownBy w' lv.ownBlock→(lv'.ownBlock=lv.ownBlock∨∃ b,lv'.ownBlock=some b∧w.heap.size≤b)→K (a.put d lv') w'):opw P ⟨d,.call ⟨.builtin .append,#[x,y],ts⟩,g⟩ a w K:=by
  subst hts
  have hb:(ks.length+1) * i.bytes≤140737488355328:=Nat.le_trans (Nat.mul_le_mul (show ks.length+1≤100001 by omega) hby) (by decide)
  refine opw_of fun o next Q hd hop hn=>?_
  obtain ⟨v',w',hr,h2,h3,h4⟩:=run_append_src2 (P:=P) w B T T o.type E i z 1 i.bytes hT hi hz hs rfl hzc (by decide) lv ks.length (ks.map encK) ho (.slice (some ⟨b,0,none⟩) 1 1) 1 [encK k] (Src.ofSlice w hT ⟨b,0,none⟩ 1 1 [encK k] rfl (fun j u hj=>by
    cases j with
    | zero=>simp at hj;subst hj;rw [add_none];exact hc
    | succ j=>simp at hj) (by intro v hv;simp at hv;subst hv;rfl)) (by simp only [maxLen];omega) hb hB
  have hop':o.op=.call ⟨.builtin .append,#[x,y],#[T,T]⟩:=stripOp_eq (by simp) hop
  have hr':(execOp a.eval o).run P w=.ok (.value v') w':=by
    simp [execOp,hop',resolve,invoke,builtin,hx,hy,hr]
  rw [hr',Oper.upon_value,hd]
  refine hn _ _ (h v' w' ?_ h3 h4)
  rw [List.length_append,List.map_append]
  exact h2
theorem opw_iface {T E:Nat} {x:Operand} {v:Value} (hT:P.underlying T=some (.slice E)) (hx:a.eval x=v) (h:K (a.put d (.iface T v)) w):opw P ⟨d,.makeInterface T x,g⟩ a w K :=
  oVa (by simp) (fun o ho=>by simp [execOp,ho,hx,Instr.makeInterface,run_underlying hT]) h
theorem opw_mkFunc {CL:Nat} {x:Operand} {v:Value} (hx:a.eval x=v) (h:K (a.put d (.func (.func CL) #[] #[v])) w):opw P ⟨d,.makeFunc (.func CL) #[] #[x],g⟩ a w K :=
  oVa (by simp) (fun o ho=>by simp [execOp,ho,hx,Instr.makeFunc]) h
end
structure EL (TU T32:Nat) (w:World) (q it r clock:Nat) (es:Array MapEntry) (v0 v1:Value) (seen:Array Nat) (ks:List Nat) (lv:Value) (a:Act) (w':World):Prop where
  size:a.tmps.size=53
  defers:a.defers=[]
  s0:getT a 0=v0
  s1:getT a 1=v1
  s4:getT a 4=.pointer (some ⟨q,0,none⟩)
  s24:getT a 24=.pointer (some ⟨it,0,none⟩)
  below:Below w.heap.size w w'
  qrow:w'.heap[q]?=some (.cells #[lv] TU (0,0))
  itr:w'.heap[it]?=some (.mapIter (some r) clock seen clock)
  own:w'.ownsRow w.heap.size T32 1 lv ks.length (ks.map encK)
  ownq:lv.ownBlock ≠ some q∧lv.ownBlock ≠ some it
  perm:((leftOf es seen).toList.map (·.key) ++ ks.map encK).Perm (es.toList.map (·.key))
structure EL2 (tU8 TB:Nat) (B c n:Nat) (xs:Bytes) (u:List (Nat × Bytes)) (w5:World) (dv lv:Value) (v0 v1:Value) (i:Nat) (dvi:Value) (a:Act) (w':World):Prop where
  size:a.tmps.size=53
  defers:a.defers=[]
  s0:getT a 0=v0
  s1:getT a 1=v1
  s37:getT a 37=lv
  s38:getT a 38=.int .i64 (n:Int)
  s39:getT a 39=.int .i64 (i:Int)
  turns:Turns c dv dvi w5 w'
  crow:w'.heap[c]?=some (.cells #[dvi] TB (0,0))
  own:Own tU8 w' B dvi (xs ++ (u.take i).flatMap wTag)
  ne:dvi.ownBlock ≠ some c
theorem row_keep {w w':World} {B E n:Nat} {v:Value} {xs:List Value} (h:w.ownsRow B E 1 v n xs) (hk:∀ k,v.ownBlock=some k→w'.heap[k]?=w.heap[k]?):w'.ownsRow B E 1 v n xs:=by
  refine ⟨h.1,h.2.imp id ?_⟩
  rintro ⟨g,cap,cur,h1,h2,h3,h4⟩
  exact ⟨g,cap,cur,h1,h2,by rw [hk g (by rw [h1];rfl)];exact h3,h4⟩
theorem w64E {n:Int} (h1:-9223372036854775808≤n) (h2:n < 9223372036854775808):IntKind.i64.wrap n=n:=by rw [IntKind.wrap_i64];omega
theorem own_keepB {tU8:Nat} {w w':World} {B:Nat} {v:Value} {xs:Bytes} (h:Own tU8 w B v xs) (hk:∀ k,v.ownBlock=some k→w'.heap[k]?=w.heap[k]?):Own tU8 w' B v xs:=row_keep h hk
section
variable {P:Program} {f:FuncId} {fn:Func}
def EachC (P:Program) (tU8 TB CL2:Nat) (G:List (Nat × Bytes)→Prop) (f:FuncId):Prop:=∀ (w:World) (B b o c:Nat) (u:List (Nat × Bytes)) (dv:Value) (xs:Bytes),HTags G w (· < B) b o u→b < B→Own tU8 w B dv xs→dv.ownBlock ≠ some c→w.heap[c]?=some (.cells #[dv] TB (0,0))→B≤c→xs.length+(u.flatMap wTag).length≤lim →
  Calls P f #[.pointer (some ⟨b,o,none⟩),.func (.func CL2) #[] #[.pointer (some ⟨c,0,none⟩)]] w fun e w'=>e=.returned (.tuple #[])∧∃ dv',w'.heap[c]?=some (.cells #[dv'] TB (0,0))∧Own tU8 w' B dv' (xs ++ u.flatMap wTag)∧dv'.ownBlock ≠ some c∧Turns c dv dv' w w'
theorem each_ok {G:List (Nat × Bytes)→Prop} {TT TM TI TU T32 FS CL CL2 tU8 TB:Nat} {i32 iU:TypeInfo} {z32 zU:Value}
    (hTM:mapU P TM=true) (hF0:fieldOff P TT 0=some 0) (hTU1:oneB P TU=true) (hTUs:sliceN P TU=some 1) (hTUu:P.underlying TU=some (.slice T32)) (hT32:oneB P T32=true) (hI:P.info? T32=some i32) (hZ:i32.zero=some z32) (hZc:z32.cells=#[.int .u32 0]) (hS:i32.size=1) (hBy:i32.bytes≤1000)
    (hIU:P.info? TU=some iU) (hZU:iU.zero=some zU) (hZUc:zU.cells=#[.slice none 0 0]) (cSort:SortC P FS CL TU T32) (oCl:FnOK P CL2)
    (cCl:∀ (w:World) (B c k cap:Nat) (dv:Value) (xs bs:Bytes) (base:Option Addr),Own tU8 w B dv xs→dv.ownBlock ≠ some c→w.heap[c]?=some (.cells #[dv] TB (0,0))→B≤c→k < 4294967296→BytesAt w (· < B) base bs→bs.length≤most→xs.length+(wTag (k,bs)).length≤lim →
      Calls P CL2 #[.int .u32 (k:Int),.slice base bs.length cap,.pointer (some ⟨c,0,none⟩)] w fun e w'=>e=.returned (.tuple #[])∧∃ dv',w'.heap[c]?=some (.cells #[dv'] TB (0,0))∧Own tU8 w' B dv' (xs ++ wTag (k,bs))∧dv'.ownBlock ≠ some c∧Turns c dv dv' w w')
    (hf:P.funcs[f]?=some fn) (hb:fn.body.map strip=some (sc_TEach TT TM TI TU T32 FS CL)) (hn:fn.ntmps=53) (hr:fn.results=#[]):EachC P tU8 TB CL2 G f:=by
  intro w B b o c u dv xs hu hbB ho hne hc hBc hl
  have hcs:c < w.heap.size:=(Array.getElem?_eq_some_iff.1 hc).1
  obtain ⟨v,hv,hcnt⟩:=hTags_size hu
  obtain ⟨-,huk,hum,hux,halt⟩:=hu
  have hmost:most=32767:=rfl
  have hlim:lim=70368744177664:=rfl
  obtain ⟨hTM1,kT,eT,hTMu,hkT⟩:=mapU_of hTM
  have hmT:mapT P TM=true:=by unfold mapT;rw [hTMu]
  refine fCa hf hb hn (by simp) fun a0 hs hd ha=>?_
  have k0:=ha 0 _ rfl
  have k1:=ha 1 _ rfl
  simp only [List.getElem_toArray,List.getElem_cons_zero,List.getElem_cons_succ] at k0 k1
  have hlenEq:v=.map none∧u.length=0∨∃ r es clock,v=.map (some r)∧w.heap[r]?=some (.map es clock)∧es.size=u.length:=by
    rcases hcnt with ⟨e1,e2⟩ | h
    · exact .inl ⟨e1,by rw [e2];rfl⟩
    · exact .inr h
  refine SC.wp_seq (SC.wp_seq (SC.wp_reg ?_))
  iterate 4 (apply ops_1;(focus (simp (disch:=(try simp only [sPu]);omega) [k0,hF0,hTM1,hv];try rfl)))
  refine oNo rfl (opw_lenMapN (v:=v) (n:=u.length) hmT (by simp (disch:=(try simp only [sPu]);omega)) rfl hlenEq ?_)
  iterate 1 (apply ops_1;(focus (simp (disch:=(try simp only [sPu]);omega) ;try rfl)))
  refine oNi ?_
  simp only [Exit.then]
  by_cases hnil:u=[]
  · subst hnil
    refine SC.wp_cond (t:=true) (by simp (disch:=(try simp only [sPu]);omega)) ?_
    rw [if_pos rfl]
    refine SC.wp_ret ?_
    simp only [Exit.then]
    exact bodyPost_ret (v:=.tuple #[]) (by simp [results,hr]) (by simp [dPu,hd]) ⟨rfl,dv,hc,by simpa using ho,hne,Turns.refl _ _ _⟩
  have hpos:0 < u.length:=List.length_pos_iff.2 hnil
  have hlen0:((u.length:Int) == 0)=false:=by simp;omega
  refine SC.wp_cond (t:=false) (by simp (disch:=(try simp only [sPu]);omega) [hlen0];try omega) ?_
  rw [if_neg (by simp)]
  refine SC.wp_skip ?_
  simp only [Exit.then]
  rcases halt with ⟨_,e⟩ | ⟨r,es,clock,hv',hrB,hes,hte⟩
  · exact absurd e hnil
  obtain rfl:v=.map (some r):=Option.some.inj (hv.symm.trans hv')
  have hsize:es.size=u.length:=by
    rcases hlenEq with ⟨e1,_⟩ | ⟨r',es',clock',e1,e2,e3⟩
    · cases e1
    · cases e1
      rw [hes] at e2
      cases e2
      exact e3
  have hBs:B≤w.heap.size:=by omega
  refine SC.wp_seq (SC.wp_reg ?_)
  iterate 4 (apply ops_1;(focus (simp (disch:=(try simp only [sPu]);omega) [k0,hF0,hTM1,hv];try rfl)))
  refine oNo rfl (opw_lenMapN (v:=.map (some r)) (n:=u.length) hmT (by simp (disch:=(try simp only [sPu]);omega)) rfl hlenEq ?_)
  refine oNo rfl (opw_make0 (k:=.i64) (k':=.i64) (n:=u.length) hTUu hI hZ hS hBy (by simp (disch:=(try simp only [sPu]);omega)) (by simp (disch:=(try simp only [sPu]);omega)) (by omega) ?_)
  refine oNo rfl (opw_alloc hIU hZU ?_)
  have hw1s:(w.alloc (.cells (madeCells z32.cells u.length) T32)).heap.size=w.heap.size+1:=by simp
  have hrow1:=heap_alloc_new w (.cells (madeCells z32.cells u.length) T32)
  have hb1:Below w.heap.size w (w.alloc (.cells (madeCells z32.cells u.length) T32)):=(Below.refl _ _).alloc (Nat.le_refl _) _
  generalize w.alloc (.cells (madeCells z32.cells u.length) T32)=w1 at hw1s hrow1 hb1 ⊢
  have hrow2:=heap_alloc_new w1 (.cells zU.cells TU)
  have hold2:(w1.alloc (.cells zU.cells TU)).heap[w.heap.size]?=w1.heap[w.heap.size]?:=Below.heap_alloc w1 _ _ (by omega)
  have hb2:Below w.heap.size w (w1.alloc (.cells zU.cells TU)):=hb1.alloc (by omega) _
  have hw2s:(w1.alloc (.cells zU.cells TU)).heap.size=w.heap.size+2:=by simp;omega
  rw [hw1s] at hrow2 ⊢
  rw [hZUc] at hrow2 hold2 hb2 hw2s ⊢
  generalize w1.alloc (.cells #[Value.slice none 0 0] TU)=w2 at hrow2 hold2 hb2 hw2s ⊢
  refine ops_stR (b:=w.heap.size+1) (i:=0) (cs:=#[.slice none 0 0]) (v:=.slice (some ⟨w.heap.size,0,none⟩) 0 u.length) hTU1 (by simp (disch:=(try simp only [sPu]);omega)) (by simp (disch:=(try simp only [sPu]);omega)) rfl hrow2 (by simp) ?_
  have hrow3:=setRow_heap w2 (w.heap.size+1) _ (#[Value.slice none 0 0].setIfInBounds 0 (.slice (some ⟨w.heap.size,0,none⟩) 0 u.length)) _ _ hrow2
  have hold3:(w2.setRow (w.heap.size+1) (#[Value.slice none 0 0].setIfInBounds 0 (.slice (some ⟨w.heap.size,0,none⟩) 0 u.length))).heap[w.heap.size]?=some (.cells (madeCells z32.cells u.length) T32 (0,0)):=by
    rw [setRow_other _ _ _ _ (by omega),hold2];exact hrow1
  have hb3:Below w.heap.size w (w2.setRow (w.heap.size+1) (#[Value.slice none 0 0].setIfInBounds 0 (.slice (some ⟨w.heap.size,0,none⟩) 0 u.length))):=below_setRow hb2 (by omega) _
  have hw3s:(w2.setRow (w.heap.size+1) (#[Value.slice none 0 0].setIfInBounds 0 (.slice (some ⟨w.heap.size,0,none⟩) 0 u.length))).heap.size=w.heap.size+2:=by simp;omega
  generalize w2.setRow (w.heap.size+1) (#[Value.slice none 0 0].setIfInBounds 0 (.slice (some ⟨w.heap.size,0,none⟩) 0 u.length))=w3 at hrow3 hold3 hb3 hw3s ⊢
  have hown3:w3.ownsRow w.heap.size T32 1 (.slice (some ⟨w.heap.size,0,none⟩) 0 u.length) 0 [] :=
    ⟨rfl,.inr ⟨w.heap.size,u.length,_,rfl,Nat.le_refl _,hold3,Nat.zero_le _,by simp only [maxLen];omega,by rw [size_madeCells,Nat.mul_one],by simp⟩⟩
  refine oNi ?_
  simp only [Exit.then]
  have hes3:w3.heap[r]?=some (.map es clock):=by rw [hb3.block r (by omega)];exact hes
  have hv3:w3.cell? ⟨b,o,none⟩=some (.map (some r)):=by rw [hb3.cell (p:=⟨b,o,none⟩) (by show b < w.heap.size;omega)];exact hv
  refine SC.wp_seq (SC.wp_seq (SC.wp_reg ?_))
  iterate 4 (apply ops_1;(focus (simp (disch:=(try simp only [sPu]);omega) [k0,hF0,hTM1,hv3];try rfl)))
  refine oNo rfl (opw_range hTMu (by simp (disch:=(try simp only [sPu]);omega)) hes3 ?_)
  refine oNi ?_
  simp only [Exit.then]
  have hit:=heap_alloc_new w3 (.mapIter (some r) clock #[] clock)
  have hold4:∀ j,j < w3.heap.size→(w3.alloc (.mapIter (some r) clock #[] clock)).heap[j]?=w3.heap[j]?:=fun j hj=>Below.heap_alloc w3 _ j hj
  have hb4:Below w.heap.size w (w3.alloc (.mapIter (some r) clock #[] clock)):=hb3.alloc (by omega) _
  rw [hw3s] at hit ⊢
  generalize w3.alloc (.mapIter (some r) clock #[] clock)=w4 at hit hold4 hb4 ⊢
  have hstamp:=hte.2.1
  refine SC.wp_block (SC.wp_loop (fun a' w'=>∃ seen ks lv,EL TU T32 w (w.heap.size+1) (w.heap.size+2) r clock es (.pointer (some ⟨b,o,none⟩)) (.func (.func CL2) #[] #[.pointer (some ⟨c,0,none⟩)]) seen ks lv a' w') (fun _ w'=>(leftOf es (w'.iterSeen (w.heap.size+2))).size) ?_ ?_)
  · refine ⟨#[],[],.slice (some ⟨w.heap.size,0,none⟩) 0 u.length,?_⟩
    exact ⟨by simp [sPu,hs],by simp [dPu,hd],by simp (disch:=(try simp only [sPu]);omega) [k0],by simp (disch:=(try simp only [sPu]);omega) [k1],by simp (disch:=(try simp only [sPu]);omega),by simp (disch:=(try simp only [sPu]);omega),hb4,by rw [hold4 _ (by omega)];exact hrow3,hit,row_keep hown3 fun k hk=>by
        simp [Value.ownBlock] at hk;subst hk;exact hold4 _ (by omega),
      by simp [Value.ownBlock],by rw [left_none];simp⟩
  rintro a1 w5 ⟨seen,ks,lv,h⟩
  have hr5:w5.heap[r]?=some (.map es clock):=by rw [h.below.block r (by omega)];exact hes
  have hs1:=h.size
  have iseen:∀ {w':World} {s:Array Nat} {m:Option Nat} {x y:Nat},w'.heap[w.heap.size+2]?=some (.mapIter m x s y)→w'.iterSeen (w.heap.size+2)=s:=fun h=>by unfold World.iterSeen;rw [h]
  refine SC.wp_seq (SC.wp_reg (oNo rfl (opw_next (by rw [eTm];exact h.s24) h.itr hr5 hstamp.1 (Nat.le_refl _) ?_ ?_)))
  ·
    intro hz
    iterate 1 (apply ops_1;(focus (simp (disch:=(try simp only [sPu]);omega) ;try rfl)))
    refine oNi ?_
    simp only [Exit.then]
    refine SC.wp_seq (SC.wp_cond (t:=false) (by simp (disch:=(try simp only [sPu]);omega)) ?_)
    rw [if_neg (by simp)]
    refine SC.wp_exit ?_
    simp only [Exit.then,Exit.inBlock,if_true]
    have hperm:(ks.map encK).Perm (u.map fun x=>Value.int .u32 (x.1:Int)):=by
      have h1:=h.perm
      have hz2:(leftOf es seen).toList=[]:=List.length_eq_zero_iff.1 (by simpa using hz)
      rw [hz2] at h1
      exact (by simpa using h1:(ks.map encK).Perm (es.toList.map (·.key))).trans hte.1
    have hkp:ks.Perm (u.map (·.1)):=by
      have:=hperm.map (fun v=>match v with | Value.int _ n=>n.toNat | _=>0)
      simpa [List.map_map,Function.comp_def] using this
    have hkl:ks.length=u.length:=by have:=hkp.length_eq;simpa using this
    obtain ⟨blk,cap,hlv,hblk,hblks⟩:∃ blk cap,lv=.slice (some ⟨blk,0,none⟩) ks.length cap∧w.heap.size≤blk∧blk < w5.heap.size:=by
      rcases h.own.2 with ⟨_,e⟩ | ⟨g,cap,cur,e1,e2,e3,_⟩
      · omega
      · exact ⟨g,cap,e1,e2,(Array.getElem?_eq_some_iff.1 e3).1⟩
    have hq5:=h.qrow
    have ho5:=h.own
    have hoq:=h.ownq
    have hs4:=h.s4
    have hs0:=h.s0
    have hs1':=h.s1
    have hd1:=h.defers
    have hbl:=h.below
    subst hlv
    have hqb:w.heap.size+1 ≠ blk:=fun e=>hoq.1 (by simp [Value.ownBlock,e])
    have hqs:w.heap.size+1 < w5.heap.size:=(Array.getElem?_eq_some_iff.1 hq5).1
    have hqc:w5.cell? ⟨w.heap.size+1,0,none⟩=some (.slice (some ⟨blk,0,none⟩) ks.length cap):=by rw [cell_of_row _ _ _ _ _ _ hq5];rfl
    refine SC.wp_seq (SC.wp_reg ?_)
    iterate 1 (apply ops_1;(focus (simp (disch:=(try simp only [sPu]);omega) [hs4,hTU1,hqc];try rfl)))
    refine oNo rfl (opw_iface (v:=.slice (some ⟨blk,0,none⟩) ks.length cap) hTUu (by simp (disch:=(try simp only [sPu]);omega)) ?_)
    refine oNo rfl (opw_mkFunc (v:=.pointer (some ⟨w.heap.size+1,0,none⟩)) (by simp (disch:=(try simp only [sPu]);omega) [hs4]) ?_)
    refine ops_call cSort.1 (cSort.2 w5 w.heap.size (w.heap.size+1) blk cap ks hqb hqs hq5 ho5 (by omega)) (by simp (disch:=(try simp only [sPu]);omega)) ?_
    rintro e w6 ⟨rfl,z1,z2,z3,hsz6,hfr6,ks',hp6,hso6,hcell6⟩
    refine ⟨_,rfl,oNi ?_⟩
    simp only [Exit.then]
    have hsorted:Sorted u:=by have:=(unknown_facts u).1;rwa [huk] at this
    have hks':ks'=u.map (·.1):=perm_sorted _ _ (hp6.trans hkp) hso6 (List.pairwise_map.2 hsorted)
    have hq6:w6.cell? ⟨w.heap.size+1,0,none⟩=some (.slice (some ⟨blk,0,none⟩) ks.length cap):=by rw [World.cell?_of_block (a:=⟨w.heap.size+1,0,none⟩) (hfr6 _ hqs hqb)];exact hqc
    have hblk6:∀ j,j < w.heap.size→w6.heap[j]?=w.heap[j]?:=fun j hj=>by rw [hfr6 j (by have:=hbl.size;omega) (by omega)];exact hbl.block j hj
    have hbl6:Below w.heap.size w w6:=⟨z1.trans hbl.os,z2.trans hbl.tape,z3.trans hbl.output,Nat.le_trans hbl.size hsz6,hblk6⟩
    refine SC.wp_seq (SC.wp_reg ?_)
    repeat (apply ops_1;(focus (simp (disch:=(try simp only [sPu]);omega) [hs4,hTU1,hq6,hTUs];try rfl)))
    refine oNi ?_
    simp only [Exit.then]
    have hcell6':∀ i x,u[i]?=some x→w6.cell? ⟨blk,i,none⟩=some (encK x.1):=fun i x hx=>hcell6 i x.1 (by rw [hks'];simp [hx])
    rw [hkl] at *
    refine SC.wp_block (SC.wp_loop (fun a' w'=>∃ i dvi,i≤u.length∧EL2 tU8 TB B c u.length xs u w6 dv (.slice (some ⟨blk,0,none⟩) u.length cap) (.pointer (some ⟨b,o,none⟩)) (.func (.func CL2) #[] #[.pointer (some ⟨c,0,none⟩)]) i dvi a' w')
      (fun a' _=>match getT a' 39 with | .int _ m=>(u.length - m).toNat | _=>0) ?_ ?_)
    · refine ⟨0,dv,Nat.zero_le _,?_⟩
      exact ⟨by simp [sPu,hs1],by simp [dPu,hd1],by simp (disch:=(try simp only [sPu]);omega) [hs0],by simp (disch:=(try simp only [sPu]);omega) [hs1'],by simp (disch:=(try simp only [sPu]);omega),by simp (disch:=(try simp only [sPu]);omega),by simp (disch:=(try simp only [sPu]);omega);try rfl,Turns.refl _ _ _,by rw [hblk6 c hcs];exact hc,by
        have:Own tU8 w6 B dv xs:=own_keepB ho fun k hk=>hblk6 k (own_ltB ho hk).2
        simpa using this,hne⟩
    rintro a2 w7 ⟨i,dvi,hi,g⟩
    have gs:=g.size
    refine SC.wp_seq (SC.wp_reg ?_)
    repeat (apply ops_1;(focus (simp (disch:=(try simp only [sPu]);omega) [g.s38,g.s39];try rfl)))
    refine oNi ?_
    simp only [Exit.then]
    refine SC.wp_seq (SC.wp_cond (t:=decide ((i:Int) < (u.length:Int))) (by simp (disch:=(try simp only [sPu]);omega)) ?_)
    cases e1:decide ((i:Int) < (u.length:Int))
    · rw [if_neg (by simp)]
      refine SC.wp_exit ?_
      simp only [Exit.then,Exit.inBlock,if_true]
      have hin:i=u.length:=by simp at e1;omega
      refine bodyPost_end (v:=.tuple #[]) (by simp [results,hr]) (by simp [dPu,g.defers]) ⟨rfl,dvi,g.crow,?_,g.ne,?_⟩
      · have:=g.own
        rwa [hin,List.take_length] at this
      · have t:=g.turns
        refine ⟨t.os.trans hbl6.os,t.tape.trans hbl6.tape,t.output.trans hbl6.output,Nat.le_trans hbl6.size t.size,fun j hj hjc hjd=>?_,?_⟩
        · rw [t.block j (by have:=hbl6.size;omega) hjc hjd]
          exact hblk6 j hj
        · rcases t.own with e | ⟨b',e,hb'⟩
          · exact .inl e
          · exact .inr ⟨b',e,by have:=hbl6.size;omega⟩
    · have hil:i < u.length:=by simp at e1;omega
      rw [if_pos rfl]
      refine SC.wp_skip ?_
      simp only [Exit.then]
      have hui:=List.getElem?_eq_getElem hil
      have t:=g.turns
      have dvB:∀ k,dv.ownBlock=some k→B≤k∧k < w.heap.size:=fun k hk=>own_ltB ho hk
      have keep:∀ j,j < B∨j=blk→w7.heap[j]?=w6.heap[j]?:=fun j hj=>t.block j (by have:=hbl6.size;have:=hbl.size;omega) (by omega) fun e=>by
        have:=dvB j e.symm
        omega
      have hblkc:w7.cell? ⟨blk,i,none⟩=some (encK u[i].1):=by rw [World.cell?_of_block (a:=⟨blk,i,none⟩) (keep blk (.inr rfl))];exact hcell6' i _ hui
      have hv7:w7.cell? ⟨b,o,none⟩=some (.map (some r)):=by
        rw [World.cell?_of_block (a:=⟨b,o,none⟩) ((keep b (.inl hbB)).trans (hblk6 b (by omega)))];exact hv
      have hes7:w7.heap[r]?=some (.map es clock):=by rw [keep r (.inl hrB),hblk6 r (by omega)];exact hes
      have hte7:TagsEs w7 (· < B) es clock u:=⟨hte.1,hte.2.1,fun e he x hx hk=>by
        obtain ⟨base,cap',q1,q2⟩:=hte.2.2 e he x hx hk
        exact ⟨base,cap',q1,bytesAt_mono q2 (fun _ h=>h) fun k hk=>(keep k (.inl hk)).trans (hblk6 k (by omega))⟩⟩
      have ei:(0:Int)≤(i:Int)∧(i:Int) < (u.length:Int):=by omega
      have hux':=hux u[i] (List.getElem_mem hil)
      have htk:=take_flat u wTag i hil
      refine SC.wp_seq (SC.wp_block (SC.wp_seq (SC.wp_reg ?_)))
      repeat (apply ops_1;(focus (simp (disch:=(try simp only [sPu]);omega) [g.s37,g.s39,hTUs,hT32,ei,hil,hblkc];try rfl)))
      refine oNi ?_
      simp only [Exit.then]
      refine SC.wp_reg ?_
      iterate 7 (apply ops_1;(focus (simp (disch:=(try simp only [sPu]);omega) [g.s0,g.s1,hF0,hTM1,hv7];try rfl)))
      refine oNo rfl (opw_lookup (k:=u[i].1) hTM (by simp (disch:=(try simp only [sPu]);omega)) (by simp (disch:=(try simp only [sPu]);omega)) hes7 hte7 (List.getElem_mem hil) rfl fun base cap' hbs=>?_)
      obtain ⟨fnC,oc1,oc2,oc3⟩:=oCl
      refine oNo rfl (opw_callv (f:=CL2) (lb:=#[.pointer (some ⟨c,0,none⟩)]) (argsV:=#[.int .u32 (u[i].1:Int),.slice base u[i].2.length cap',.pointer (some ⟨c,0,none⟩)]) (by simp (disch:=(try simp only [sPu]);omega) [g.s1]) oc1 oc2 oc3 (by simp (disch:=(try simp only [sPu]);omega)) (cCl w7 B c u[i].1 cap' dvi _ u[i].2 base g.own g.ne g.crow hBc hux'.1 hbs hux'.2 (by rw [List.length_append];show _+(wTag u[i]).length≤lim;omega)) ?_)
      rintro e w8 ⟨rfl,dv8,hc8,ho8,hne8,t8⟩
      refine ⟨_,rfl,oNi ?_⟩
      simp only [Exit.then,Exit.inBlock]
      have hw:IntKind.i64.wrap ((i:Int)+1)=((i+1:Nat):Int):=by
        have hu:=hum
        rw [w64E (by omega) (by omega)]
        rfl
      refine SC.wp_reg ?_
      repeat (apply ops_1;(focus (simp (disch:=(try simp only [sPu]);omega) [g.s39,hw];try rfl)))
      refine oNi ?_
      simp only [Exit.then]
      refine ⟨⟨i+1,dv8,by omega,⟨by simp [sPu,gs],by simp [dPu,g.defers],by simp (disch:=(try simp only [sPu]);omega) [g.s0],by simp (disch:=(try simp only [sPu]);omega) [g.s1],by simp (disch:=(try simp only [sPu]);omega) [g.s37],by simp (disch:=(try simp only [sPu]);omega) [g.s38],by simp (disch:=(try simp only [sPu]);omega),t.trans t8,hc8,?_,hne8⟩⟩,?_⟩
      · rw [htk.1,← List.append_assoc]
        exact ho8
      · simp (disch:=(try simp only [sPu]);omega) [gTp,gTn,g.s39]
        omega
  ·
    intro e he w6 hw6
    have hem:=mem_left he
    have hkey:∃ x ∈ u,e.key=encK x.1:=by
      have:e.key ∈ u.map fun x=>Value.int .u32 (x.1:Int):=hte.1.mem_iff.1 (List.mem_map_of_mem hem.1)
      obtain ⟨x,hx,hxe⟩:=List.mem_map.1 this
      exact ⟨x,hx,hxe.symm⟩
    obtain ⟨x,hxu,hxk⟩:=hkey
    have hlenk:ks.length+1≤u.length:=by
      have h1:=h.perm.length_eq
      have h2:=(left_perm hstamp.2.1 he).length_eq
      simp only [List.length_append,List.length_map,List.length_cons,Array.length_toList] at h1 h2
      omega
    have hh6:w6.heap=w5.heap:=by rcases hw6 with rfl | rfl <;> rfl
    have hm6:w6.os=w5.os∧w6.tape=w5.tape∧w6.output=w5.output:=by rcases hw6 with rfl | rfl <;> exact ⟨rfl,rfl,rfl⟩
    have hits:w.heap.size+2 < w5.heap.size:=(Array.getElem?_eq_some_iff.1 h.itr).1
    have hqs:w.heap.size+1 < w5.heap.size:=(Array.getElem?_eq_some_iff.1 h.qrow).1
    obtain ⟨w7,hw7⟩:∃ w7,w7=ChangeMaps.setBlock w6 (w.heap.size+2) (.mapIter (some r) clock (seen.push e.born) clock):=⟨_,rfl⟩
    have h7it:w7.heap[w.heap.size+2]?=some (.mapIter (some r) clock (seen.push e.born) clock):=by rw [hw7];simp [ChangeMaps.setBlock,hh6,hits]
    have h7o:∀ j,j ≠ w.heap.size+2→w7.heap[j]?=w5.heap[j]?:=fun j hj=>by rw [hw7];simp [ChangeMaps.setBlock,hh6,Array.getElem?_setIfInBounds_ne (Ne.symm hj)]
    have h7s:w7.heap.size=w5.heap.size:=by rw [hw7];simp [ChangeMaps.setBlock,hh6]
    have h7m:w7.os=w5.os∧w7.tape=w5.tape∧w7.output=w5.output:=by rw [hw7];exact hm6
    have h7b:Below w.heap.size w w7:=⟨h7m.1.trans h.below.os,h7m.2.1.trans h.below.tape,h7m.2.2.trans h.below.output,by have:=h.below.size;omega,fun j hj=>(h7o j (by omega)).trans (h.below.block j hj)⟩
    rw [← hw7]
    clear hw7 hw6 hm6 hh6
    have hr7:w7.heap[r]?=some (.map es clock):=by rw [h7b.block r (by omega)];exact hes
    have hown7:w7.ownsRow w.heap.size T32 1 lv ks.length (ks.map encK):=row_keep h.own fun k hk=>h7o k fun e2=>h.ownq.2 (by rw [hk,e2])
    have hq7:w7.heap[w.heap.size+1]?=some (.cells #[lv] TU (0,0)):=by rw [h7o _ (by omega)];exact h.qrow
    have hqc7:w7.cell? ⟨w.heap.size+1,0,none⟩=some lv:=by rw [cell_of_row _ _ _ _ _ _ hq7];rfl
    iterate 1 (apply ops_1;(focus (simp (disch:=(try simp only [sPu]);omega) ;try rfl)))
    refine oNi ?_
    simp only [Exit.then]
    refine SC.wp_seq (SC.wp_cond (t:=true) (by simp (disch:=(try simp only [sPu]);omega)) ?_)
    rw [if_pos rfl]
    refine SC.wp_skip ?_
    simp only [Exit.then]
    refine SC.wp_block (SC.wp_seq (SC.wp_reg (oNo rfl (opw_entry (by simp (disch:=(try simp only [sPu]);omega) [h.s24]) h7it hr7 hem.1 hstamp.2.1 ?_))))
    rw [hxk]
    repeat (apply ops_1;(focus (simp (disch:=(try simp only [sPu]);omega) ;try rfl)))
    refine oNi ?_
    simp only [Exit.then]
    refine SC.wp_reg ?_
    iterate 2 (apply ops_1;(focus (simp (disch:=(try simp only [sPu]);omega) [h.s4,hTU1,hqc7];try rfl)))
    refine oNo rfl (opw_build1 hTUu hI hZ hS (v:=encK x.1) (by simp (disch:=(try simp only [sPu]);omega)) rfl ?_)
    have h8n:=heap_alloc_new w7 (.cells #[encK x.1] T32)
    have h8o:∀ j,j < w7.heap.size→(w7.alloc (.cells #[encK x.1] T32)).heap[j]?=w7.heap[j]?:=fun j hj=>Below.heap_alloc w7 _ j hj
    have h8s:(w7.alloc (.cells #[encK x.1] T32)).heap.size=w7.heap.size+1:=by simp
    have h8b:Below w.heap.size w (w7.alloc (.cells #[encK x.1] T32)):=h7b.alloc h7b.size _
    generalize w7.alloc (.cells #[encK x.1] T32)=w8 at h8n h8o h8s h8b ⊢
    have hown8:w8.ownsRow w.heap.size T32 1 lv ks.length (ks.map encK):=row_keep hown7 fun k hk=>h8o k (hown7.lt k hk).2
    refine oNo rfl (opw_append32 (k:=x.1) (b:=w7.heap.size) hTUu hI hZ (by rw [hZc];rfl) hS hBy rfl (by simp (disch:=(try simp only [sPu]);omega)) (by simp (disch:=(try simp only [sPu]);omega)) hown8 h8b.size (by omega) (by rw [cell_of_row _ _ _ _ _ _ h8n];rfl) ?_)
    intro lv9 w9 ho9 hg9 hob9
    have hq9:w9.heap[w.heap.size+1]?=some (.cells #[lv] TU (0,0)):=by rw [hg9.block _ (by omega) fun e=>h.ownq.1 e.symm,h8o _ (by omega)];exact hq7
    have hob9':∀ j,j < w7.heap.size→lv.ownBlock ≠ some j→lv9.ownBlock ≠ some j:=fun j hj hl=>by
      rcases hob9 with e | ⟨b',e,hb'⟩
      · rw [e];exact hl
      · rw [e];intro e2;cases e2;omega
    have hone9:lv9.oneCell'=true:=by rcases ho9.2 with ⟨rfl,_⟩ | ⟨_,_,_,rfl,_⟩ <;> rfl
    refine ops_stR (b:=w.heap.size+1) (i:=0) (cs:=#[lv]) (v:=lv9) hTU1 (by simp (disch:=(try simp only [sPu]);omega) [h.s4]) (by simp (disch:=(try simp only [sPu]);omega)) hone9 hq9 (by simp) ?_
    refine oNi ?_
    simp only [Exit.then,Exit.inBlock]
    have hb9:Below w.heap.size w w9:=h8b.grown hg9 h8b.size (fun k hk=>(hown8.lt k hk).1)
    have hlt9:w8.heap.size≤w9.heap.size:=hg9.size
    have hit9:(w9.setRow (w.heap.size+1) (#[lv].setIfInBounds 0 lv9)).heap[w.heap.size+2]?=some (.mapIter (some r) clock (seen.push e.born) clock):=by
      rw [setRow_other _ _ _ _ (by omega),hg9.block _ (by omega) fun e=>h.ownq.2 e.symm,h8o _ (by omega)];exact h7it
    refine ⟨⟨seen.push e.born,ks ++ [x.1],lv9,⟨by simp [sPu,hs1],by simp [dPu,h.defers],by simp (disch:=(try simp only [sPu]);omega) [h.s0],by simp (disch:=(try simp only [sPu]);omega) [h.s1],by simp (disch:=(try simp only [sPu]);omega) [h.s4],by simp (disch:=(try simp only [sPu]);omega) [h.s24],below_setRow hb9 (by omega) _,setRow_heap _ _ _ _ _ _ hq9,hit9,?_,⟨hob9' _ (by omega) h.ownq.1,hob9' _ (by omega) h.ownq.2⟩,?_⟩⟩,?_⟩
    · refine row_keep ho9 fun k hk=>setRow_other _ _ _ _ fun e2=>?_
      subst e2
      exact hob9' _ (by omega) h.ownq.1 hk
    · have h1:=h.perm
      have h2:=((left_perm hstamp.2.1 he).map (·.key)).append_right (ks.map encK)
      refine List.Perm.trans ?_ (h2.symm.trans h1)
      simp only [List.map_cons,List.map_append,List.map_nil,List.cons_append,hxk]
      rw [← List.append_assoc]
      exact List.perm_append_singleton _ _
    · rw [iseen hit9,iseen h.itr]
      exact left_shrinks es seen e he
end
end Go.Proofs.Ytjbbohfaihkolaa.K
namespace Go.Proofs.Ytjbbohfaihkolaa.K
open Go Go.RowKit Go.Proofs.Ytjbbohfaihkolaa.T
attribute [local simp] eTm eCo pNo gTp gTn qv qcall vop iop
set_option linter.unusedVariables false
set_option linter.unusedSimpArgs false
set_option maxHeartbeats 4000000
def sc_TAppendEach (TB fEach:Nat) (g:Fn):SC:=.seq (.reg [⟨some 3,.box TB (.tmp 1),none⟩,⟨some 4,.assign (.const (.slice none 0 0)),none⟩]) (.seq (.reg [mv 5 0,⟨some 6,.makeFunc g #[] #[.tmp 3],none⟩,cal 7 fEach [5,6]]) (.seq (.reg [ld 8 TB 3,asg 4 8]) .ret))
section
variable {P:Program} {f:FuncId} {fn:Func}
theorem appendEachN_ok {G:List (Nat × Bytes)→Prop} {TB fEach tU8 CL2:Nat} (hTB:oneB P TB=true) (oE:FnOK P fEach) (cE:EachC P tU8 TB CL2 G fEach)
    (hf:P.funcs[f]?=some fn) (hb:fn.body.map strip=some (sc_TAppendEach TB fEach (.func CL2))) (hn:fn.ntmps=9) (hr:fn.results=#[.tmp 4])
    (w:World) (B b o:Nat) (u:List (Nat × Bytes)) (dv:Value) (xs:Bytes) (hu:HTags G w (· < B) b o u) (hbB:b < B) (ho:Own tU8 w B dv xs) (hB:B≤w.heap.size) (hl:xs.length+(u.flatMap wTag).length≤lim) :
    Calls P f #[.pointer (some ⟨b,o,none⟩),dv] w fun e w'=>∃ dv',e=.returned dv'∧Own tU8 w' B dv' (xs ++ u.flatMap wTag)∧Below B w w'∧B≤w'.heap.size:=by
  have h1:dv.oneCell'=true:=own_one ho
  refine fCa hf hb hn (by simp) fun a0 hs hd ha=>?_
  have h0:=ha 0 _ rfl
  have hd1:=ha 1 _ rfl
  simp only [List.getElem_toArray,List.getElem_cons_zero,List.getElem_cons_succ] at h0 hd1
  refine SC.wp_seq (SC.wp_reg (oNo rfl (opw_box (v:=dv) (by rw [eTm,hd1]) ?_)))
  rw [cells_oneCell h1]
  have hnew:=heap_alloc_new w (.cells #[dv] TB)
  have hold:∀ j,j < w.heap.size→(w.alloc (.cells #[dv] TB)).heap[j]?=w.heap[j]?:=fun j hj=>Below.heap_alloc w _ j hj
  have hbn:Below B w (w.alloc (.cells #[dv] TB)):=(Below.refl _ _).alloc hB _
  have hon:Own tU8 (w.alloc (.cells #[dv] TB)) B dv xs:=ho.alloc _
  have hsn:(w.alloc (.cells #[dv] TB)).heap.size=w.heap.size+1:=by simp
  have hun:HTags G (w.alloc (.cells #[dv] TB)) (· < B) b o u:=by
    obtain ⟨q1,q2,q3,q4,q5⟩:=hu
    refine ⟨q1,q2,q3,q4,q5.imp ?_ ?_⟩
    · rintro ⟨z1,z2⟩
      exact ⟨by rw [hbn.cell (p:=⟨b,o,none⟩) hbB];exact z1,z2⟩
    · rintro ⟨r,es,clock,z1,z2,z3,z4⟩
      exact ⟨r,es,clock,by rw [hbn.cell (p:=⟨b,o,none⟩) hbB];exact z1,z2,by rw [hbn.block r z2];exact z3,z4.1,z4.2.1,fun e he x hx hk=>by
        obtain ⟨base,cap,y1,y2⟩:=z4.2.2 e he x hx hk
        exact ⟨base,cap,y1,bytesAt_mono y2 (fun _ h=>h) fun k hk=>hbn.block k hk⟩⟩
  have hne:dv.ownBlock ≠ some w.heap.size:=fun e=>by have:=(own_ltB ho e).2;omega
  generalize w.alloc (.cells #[dv] TB)=w1 at *
  repeat (apply ops_1;(focus (simp (disch:=(try simp only [sPu]);omega) ;try rfl)))
  refine oNi (SC.wp_seq (SC.wp_reg ?_))
  iterate 1 (apply ops_1;(focus (simp (disch:=(try simp only [sPu]);omega) [h0];try rfl)))
  refine oNo rfl (opw_mkFunc (v:=.pointer (some ⟨w.heap.size,0,none⟩)) (by simp (disch:=(try simp only [sPu]);omega)) ?_)
  refine ops_call oE (cE w1 B b o w.heap.size u dv xs hun hbB hon hne hnew hB hl) (by simp (disch:=(try simp only [sPu]);omega) [h0]) ?_
  rintro e w2 ⟨rfl,dv2,hc2,ho2,hne2,t2⟩
  refine ⟨_,rfl,oNi ?_⟩
  simp only [Exit.then]
  have hcc:w2.cell? ⟨w.heap.size,0,none⟩=some dv2:=by rw [cell_of_row _ _ _ _ _ _ hc2];rfl
  have hb2:Below B w w2:=⟨t2.os.trans hbn.os,t2.tape.trans hbn.tape,t2.output.trans hbn.output,by have:=t2.size;omega,fun k hk=>by
    rw [t2.block k (by omega) (by omega) fun e=>by have:=(own_ltB ho e.symm).1;omega]
    exact hbn.block k hk⟩
  refine SC.wp_seq (SC.wp_reg ?_)
  repeat (apply ops_1;(focus (simp (disch:=(try simp only [sPu]);omega) [hTB,hcc];try rfl)))
  refine oNi (SC.wp_ret (ret_tmp hr (by simp [dPu,hd]) ⟨dv2,?_,ho2,hb2,by have:=t2.size;omega⟩))
  simp (disch:=(try simp only [sPu]);omega)
theorem swoLt:Sort.SWO (fun x y:Nat=>decide (x < y)):=⟨fun x=>by simp,fun x y z h1 h2=>by simp at *;omega,fun x y z h1 h2=>by simp at *;omega⟩
theorem isAgg_no {T:TypeId} (h:oneB P T=true):∀ w:World,(isAgg T).run P w=.ok false w:=fun w=>run_isAgg_one h
open Go.Sort Go.Shelf Go.Lib in
theorem sortC {ρ:Ren} (L:LaysGg.n6 P ρ) {CL TU T32:Nat} {fnL:Func} (hm:P.follows .mixedOrders=true) (h0:oneB P TU=true) (hs0:sliceN P TU=some 1) (h1:oneB P T32=true) {i ie:TypeInfo} (hi:P.info? TU=some i) (hid:i.desc=.slice T32) (hpk:P.packed TU=false) (hie:P.info? T32=some ie) (ke:Nat) (hke:∀ w,(Extern.Rtype.kind T32).run P w=.ok ke w) (hsz:ie.size=1)
    (hfL:P.funcs[CL]?=some fnL) (hbL:fnL.body.map strip=some (sc_Each1 TU T32)) (hnL:fnL.ntmps=15) (hrL:fnL.results=#[.tmp 5]) (oFS:FnOK P (ρ.f 6)) (oCL:FnOK P CL)
    (fS : Nat → Nat) (hfS : ∀ n, P.funcs.findIdx? (·.name == "internal/reflectlite" ++ ".Swapper$" ++ toString (swapperK n ie ke)) = some (fS n))
    (gS:Bool) (hx:∀ (n:Nat) args W,2≤n→(callFunc (fS n) args).run P W=((Extern.ReflectliteSwapper.swap gS args).run P W).andThen fun v w'=>.ok (.value v) w'):SortC P (ρ.f 6) CL TU T32:=by
  refine ⟨oFS,fun w B q blk cap ks hqb hqs hq ho hlen=>?_⟩
  have hblks:blk < w.heap.size:=(ho.lt blk rfl).2
  have eg:∀ args w,(callFunc CL args).run P w=.ok (.enter CL args) w:=fun args w=>by
    obtain ⟨fn,q1,q2,q3⟩:=oCL
    exact run_callFunc q1 q2 q3
  have hcells:∀ j k,ks[j]?=some k→w.cell? ⟨blk,j,none⟩=some (encK k):=fun j k hj=>by
    have hlt:j < ks.length:=(List.getElem?_eq_some_iff.1 hj).1
    rw [ho.cellAt j (by omega)]
    simp [hj]
  have hH:Holds encK w blk 0 ks.toArray:=fun j hj=>by
    have hj':j < ks.length:=by simpa using hj
    refine ⟨?_,?_⟩
    · rw [Nat.zero_add,hcells j ks[j] (List.getElem?_eq_getElem hj')]
      congr 2
      rw [getElem!_pos ks.toArray j hj]
      simp
    · exact ho.frozenAt _
  have hqc:w.cell? ⟨q,0,none⟩=some (.slice (some ⟨blk,0,none⟩) ks.length cap):=by rw [cell_of_row _ _ _ _ _ _ hq];rfl
  have fin:∀ (n:Nat) (d':Array Nat) (os:Array Obj),d'.size=ks.length→∀ w',w'=grow (putRow encK (Sort.ahead w n) blk 0 d') os→w'.os=w.os∧w'.tape=w.tape∧w'.output=w.output∧w.heap.size≤w'.heap.size∧(∀ j,j < w.heap.size→j ≠ blk→w'.heap[j]?=w.heap[j]?)∧∀ i k,d'.toList[i]?=some k→w'.cell? ⟨blk,i,none⟩=some (encK k):=by
    intro n d' os hd' w' hw'
    subst hw'
    have hsz1:(putRow encK (Sort.ahead w n) blk 0 d').heap.size=w.heap.size:=by simp [Sort.ahead]
    refine ⟨rfl,rfl,rfl,by rw [size_grow];omega,fun j hj hne=>?_,fun i k hk=>?_⟩
    · rw [heap_grow_old _ _ (by omega)]
      simp [putRow,mapBlock,Sort.ahead,Array.getElem?_modify,Ne.symm hne]
    · have hil:i < d'.size:=by have:=(List.getElem?_eq_some_iff.1 hk).1;simpa using this
      rw [cell?_grow _ _ _ (by show blk < _;omega)]
      have:=cell?_putRow encK (Sort.ahead w n) blk 0 ks.toArray d' (holds_ahead _ _ _ _ _ _ hH) (by simpa using hd') i hil
      rw [Nat.zero_add] at this
      rw [this,getElem!_pos d' i hil]
      have h2:=(List.getElem?_eq_some_iff.1 hk).2
      simp at h2
      rw [h2]
  by_cases h2:2≤ks.length
  · have hless:LessReads P CL #[.pointer (some ⟨q,0,none⟩)] encK (fun x y=>decide (x < y)) blk 0 ks.toArray.size w:=by
      intro m os dk hdk i j hi hj
      simp only [List.size_toArray] at hdk hi hj
      have hW:∀ a:Addr,a.block < w.heap.size→(sortWorld encK w blk 0 m dk os).cell? a=(putRow encK (Sort.ahead w m) blk 0 dk).cell? a:=fun a ha=>cell?_grow _ _ _ (by rw [size_putRow];exact ha)
      have hc:∀ t,t < ks.length→(sortWorld encK w blk 0 m dk os).cell? ⟨blk,t,none⟩=some (encK dk[t]!):=fun t ht=>by
        rw [hW ⟨blk,t,none⟩ hblks]
        have:=cell?_putRow encK (Sort.ahead w m) blk 0 ks.toArray dk (holds_ahead _ _ _ _ _ _ hH) (by simpa using hdk) t (by omega)
        rwa [Nat.zero_add] at this
      have hq2:(sortWorld encK w blk 0 m dk os).cell? ⟨q,0,none⟩=some (.slice (some ⟨blk,0,none⟩) ks.length cap):=by
        rw [hW ⟨q,0,none⟩ hqs,cell?_putRow_other _ _ _ _ _ _ (.inl hqb)]
        exact hqc
      have hws:w.heap.size≤(sortWorld encK w blk 0 m dk os).heap.size:=by
        unfold sortWorld
        rw [size_grow,size_putRow]
        simp [Sort.ahead]
      exact (less_ok hm h0 hs0 h1 hfL hbL hnL hrL _ q blk ks.length cap i j dk[i]! dk[j]! hq2 (by omega) (by omega) hi hj (hc i hi) (hc j hj)).mono fun e w' ⟨q1,q2⟩=>⟨q1,1,q2⟩
    have:=Any.sort_Slice_sorted L TU T32 i ie hi hid hpk hie ke hke hsz (isAgg_no h1) encK (fun _=>rfl) (fun x y:Nat=>decide (x < y)) swoLt CL #[.pointer (some ⟨q,0,none⟩)] eg blk 0 cap ks.toArray (by simpa using h2) (by simp;omega) (fS ks.toArray.size) (by simpa using hfS ks.toArray.size) gS (hx _ · · (by simpa using h2)) w hless hH hblks
    simp only [List.size_toArray] at this
    refine this.mono ?_
    rintro e w' ⟨rfl,d',n,os,hp,hso,hw'⟩
    have hds:d'.size=ks.length:=by simpa using hp.1
    obtain ⟨z1,z2,z3,z4,z5,z6⟩:=fin n d' os hds w' hw'
    refine ⟨rfl,z1,z2,z3,z4,z5,d'.toList,?_,?_,z6⟩
    · have:=hp.2.2
      rw [← hds] at this
      rw [show (d'.extract 0 d'.size)=d' by simp] at this
      have h3:(ks.toArray.extract 0 d'.size)=ks.toArray:=by rw [hds];simp
      rw [h3] at this
      simpa using this
    · rw [List.pairwise_iff_getElem]
      intro i j hi hj hij
      have hj':j < d'.size:=by simpa using hj
      have:=hso i j (Nat.zero_le _) hij (by omega)
      rw [getElem!_pos d' i (by omega),getElem!_pos d' j hj'] at this
      simp at this ⊢
      omega
  · have:=Any.sort_Slice_tiny L TU T32 i ie hi hid hpk hie ke hke (some ⟨blk,0,none⟩) ks.length cap (by omega) (fS ks.length) (hfS ks.length) (.func CL) #[] #[.pointer (some ⟨q,0,none⟩)] w
    refine this.mono ?_
    rintro e w' ⟨rfl,os,rfl⟩
    refine ⟨rfl,rfl,rfl,rfl,by rw [size_grow];omega,fun j hj _=>heap_grow_old _ _ hj,ks,List.Perm.refl _,?_,fun i k hk=>?_⟩
    · match ks,h2 with
      | [],_=>exact List.Pairwise.nil
      | [x],_=>exact List.pairwise_singleton _ _
      | x :: y :: r,h2=>exact absurd (by simp) h2
    · rw [cell?_grow _ _ _ (by show blk < _;omega)]
      exact hcells i k hk
end
end Go.Proofs.Ytjbbohfaihkolaa.K
namespace Go.Proofs.Ytjbbohfaihkolaa.K
open Go Go.RowKit Go.Proofs.Ytjbbohfaihkolaa.T
set_option linter.unusedVariables false
set_option linter.unusedSimpArgs false
set_option maxHeartbeats 2000000
theorem ins_same {t:Nat × Bytes}:∀ {acc:List (Nat × Bytes)} {p:Nat} {x:Nat × Bytes},(∀ i x,i < p→acc[i]?=some x→x.1 < t.1)→acc[p]?=some x→x.1=t.1→insTag t acc=acc
  | [],p,x,_,h,_=>by simp at h
  | y :: r,0,x,_,h,e=>by
    simp at h
    subst h
    simp only [insTag]
    rw [if_neg (by omega),if_pos e]
  | y :: r,p+1,x,h1,h,e=>by
    have hy:=h1 0 y (by omega) rfl
    simp only [insTag]
    rw [if_pos hy,ins_same (acc:=r) (p:=p) (x:=x) (fun i z hi hz=>h1 (i+1) z (by omega) (by simpa using hz)) (by simpa using h) e]
theorem ins_new {t:Nat × Bytes}:∀ {acc:List (Nat × Bytes)} {p:Nat},p≤acc.length→(∀ i x,i < p→acc[i]?=some x→x.1 < t.1)→(∀ x,acc[p]?=some x→t.1 < x.1)→insTag t acc=acc.take p ++ t :: acc.drop p
  | [],p,hp,_,_=>by
    obtain rfl:p=0:=by simpa using hp
    rfl
  | y :: r,0,_,_,h2=>by
    have:=h2 y rfl
    simp only [insTag]
    rw [if_neg (by omega),if_neg (by omega)]
    rfl
  | y :: r,p+1,hp,h1,h2=>by
    have hy:=h1 0 y (by omega) rfl
    simp only [insTag]
    rw [if_pos hy,ins_new (acc:=r) (p:=p) (by simpa using hp) (fun i z hi hz=>h1 (i+1) z (by omega) (by simpa using hz)) (fun x hx=>h2 x (by simpa using hx))]
    rfl
def cells2 (rows:List (Value × Value)):List Value:=rows.flatMap fun r=>[r.1,r.2]
theorem cells2_length (rows:List (Value × Value)):(cells2 rows).length=rows.length * 2:=by
  induction rows with
  | nil=>rfl
  | cons r l ih=>simp only [cells2,List.flatMap_cons,List.length_append,List.length_cons,List.length_nil] at ih ⊢;omega
theorem cells2_get:∀ (rows:List (Value × Value)) (j:Nat),(cells2 rows)[j]?=(rows[j / 2]?).map fun r=>if j % 2=0 then r.1 else r.2
  | [],j=>by simp [cells2]
  | r :: l,0=>by simp [cells2]
  | r :: l,1=>by simp [cells2]
  | r :: l,j+2=>by
    have ih:=cells2_get l j
    have:(cells2 (r :: l))[j+2]?=(cells2 l)[j]?:=by simp [cells2]
    rw [this,ih,show (j+2) / 2=j / 2+1 by omega,show (j+2) % 2=j % 2 by omega]
    simp
theorem cells2_append (a b:List (Value × Value)):cells2 (a ++ b)=cells2 a ++ cells2 b:=by simp [cells2]
def Out2 (w:World) (B T:Nat) (v:Value) (rows:List (Value × Value)):Prop:=w.ownsRow B T 2 v rows.length (cells2 rows)
theorem Out2.nil (w:World) (B T:Nat):Out2 w B T (.slice none 0 0) []:=World.ownsRow_nil _ _ _ _
theorem Out2.at {w:World} {B T:Nat} {v:Value} {rows:List (Value × Value)} (h:Out2 w B T v rows):∃ base cap,v=.slice base rows.length cap∧rows.length≤cap ∧
    (rows=[]∨∃ g cur,base=some ⟨g,0,none⟩∧B≤g∧w.heap[g]?=some (.cells cur T (0,0))∧cur.size=cap * 2∧cur.toList.take (rows.length * 2)=cells2 rows):=by
  obtain ⟨h1,⟨rfl,h2⟩ | ⟨g,cap,cur,rfl,e2,e3,e4,e5,e6,e7⟩⟩:=h
  · refine ⟨none,0,by rw [h2],by omega,.inl (List.length_eq_zero_iff.1 h2)⟩
  · exact ⟨_,cap,rfl,e4,.inr ⟨g,cur,rfl,e2,e3,e6,e7⟩⟩
theorem Out2.read {w:World} {B T:Nat} {v:Value} {rows:List (Value × Value)} (h:Out2 w B T v rows) {k:Nat} {r:Value × Value} (hk:rows[k]?=some r):∃ g cap,v=.slice (some ⟨g,0,none⟩) rows.length cap∧B≤g∧w.cell? ⟨g,k * 2,none⟩=some r.1∧rangeV w g (k * 2) 2=some [r.1,r.2]:=by
  obtain ⟨base,cap,rfl,hc,h | ⟨g,cur,rfl,e2,e3,e4,e5⟩⟩:=h.at
  · subst h
    simp at hk
  · have hkl:k < rows.length:=(List.getElem?_eq_some_iff.1 hk).1
    have hget:∀ j,j < rows.length * 2→w.cell? ⟨g,j,none⟩=(cells2 rows)[j]?:=fun j hj=>by
      rw [cell_of_row _ _ _ _ _ _ e3,← e5,List.getElem?_take,if_pos hj,Array.getElem?_toList]
    have c1:w.cell? ⟨g,k * 2,none⟩=some r.1:=by
      rw [hget _ (by omega),cells2_get,show k * 2 / 2=k by omega,hk]
      simp
    have c2:w.cell? ⟨g,k * 2+1,none⟩=some r.2:=by
      rw [hget _ (by omega),cells2_get,show (k * 2+1) / 2=k by omega,hk]
      simp [show (k * 2+1) % 2=1 by omega]
    refine ⟨g,cap,rfl,e2,c1,?_⟩
    have:=rangeV_of (w:=w) (b:=g) [r.1,r.2] (k * 2) (fun j v hj=>by
      match j,hj with
      | 0,hj=>simp at hj;subst hj;simpa using c1
      | 1,hj=>simp at hj;subst hj;exact c2)
    exact this
section
variable {P:Program} {a:Act} {w:World} {K:Act→World→Prop} {d:Option Tmp} {g:Option (Nat × Bool)}
theorem opw_store2 {T E B k g0 cap:Nat} {x y:Operand} {rows:List (Value × Value)} {r:Value × Value} (hT:aggB P T 2=true) (ho:Out2 w B E (.slice (some ⟨g0,0,none⟩) rows.length cap) rows) (hk:k < rows.length) (hx:a.eval x=.pointer (some ⟨g0,k * 2,none⟩)) (hy:a.eval y=.agg #[r.1,r.2])
    (h1:r.1.oneCell'=true) (h2:r.2.oneCell'=true) (h:∀ w',Out2 w' B E (.slice (some ⟨g0,0,none⟩) rows.length cap) (rows.set k r)→w'.heap.size=w.heap.size→(∀ b,b ≠ g0→w'.heap[b]?=w.heap[b]?)→Below B w w'→K (a.put d undef) w'):opw P ⟨d,.store T x y,g⟩ a w K:=by
  obtain ⟨i,hi,hs,_⟩:=agg_of (w:=w) hT
  obtain ⟨q1,⟨q2,-⟩ | ⟨g',cap',cur,e1,e2,e3,e4,e5,e6,e7⟩⟩:=ho
  · cases q2
  cases e1
  have hst:=run_storeCells_at P g0 (k * 2) E [r.1,r.2] 0 cur w e3 (by simp;omega) (by intro v hv;simp at hv;rcases hv with rfl | rfl <;> assumption)
  simp only [Nat.add_zero] at hst
  refine opw_skip (w':=w.setRow g0 (cur.toList.take (k * 2) ++ [r.1,r.2] ++ cur.toList.drop (k * 2+2)).toArray) (by simp) (fun p hp=>?_) (h _ ?_ (by simp) (fun b hb=>setRow_other _ _ _ _ hb) ⟨rfl,rfl,rfl,by simp,fun b hb=>setRow_other _ _ _ _ (by omega)⟩)
  · simp only [execOp,hp,hx,hy,Instr.storeAt,Instr.sureAddr,storeVar,sizeOf,typeInfo,hi,hs,Value.cells]
    simp only [List.length_cons,List.length_nil] at hst
    simp [hst,hi,hs]
  · unfold Out2 World.ownsRow
    rw [List.length_set,cells2_length,List.length_set]
    have hcl:cur.toList.length=cap * 2:=by simpa using e6
    refine ⟨rfl,.inr ⟨g0,cap,_,rfl,e2,setRow_heap _ _ _ _ _ _ e3,e4,e5,by simp [hcl];omega,?_⟩⟩
    apply List.ext_getElem?
    intro j
    rw [cells2_get]
    simp only [List.toList_toArray]
    have hold:∀ j,j < rows.length * 2→cur.toList[j]?=(rows[j / 2]?).map fun r=>if j % 2=0 then r.1 else r.2:=fun j hj=>by
      rw [← cells2_get,← e7,List.getElem?_take,if_pos hj]
    by_cases hj:j < rows.length * 2
    · rw [List.getElem?_take,if_pos hj]
      by_cases hjk:j / 2=k
      · rw [hjk,List.getElem?_set_self hk]
        rw [List.append_assoc,List.getElem?_append_right (by simp;omega)]
        rw [List.getElem?_append_left (by simp;omega)]
        simp only [List.length_take,hcl,Nat.min_eq_left (show k * 2≤cap * 2 by omega)]
        rcases Nat.mod_two_eq_zero_or_one j with h0 | h0
        · rw [show j - k * 2=0 by omega,h0];rfl
        · rw [show j - k * 2=1 by omega,h0];rfl
      · rw [List.getElem?_set_ne (Ne.symm hjk),← hold j hj]
        rcases Nat.lt_or_ge j (k * 2) with hlt | hge
        · rw [List.append_assoc,List.getElem?_append_left (by simp;omega),List.getElem?_take,if_pos hlt]
        · rw [List.getElem?_append_right (by simp;omega),List.getElem?_drop]
          congr 1
          simp only [List.length_append,List.length_take,hcl,List.length_cons,List.length_nil,Nat.min_eq_left (show k * 2≤cap * 2 by omega)]
          omega
    · rw [List.getElem?_take,if_neg hj,List.getElem?_eq_none (by rw [List.length_set];omega)]
      rfl
end
end Go.Proofs.Ytjbbohfaihkolaa.K
namespace Go.Proofs.Ytjbbohfaihkolaa.K
open Go Go.RowKit Go.Proofs.Ytjbbohfaihkolaa.T
set_option linter.unusedVariables false
set_option linter.unusedSimpArgs false
set_option maxHeartbeats 4000000
structure TagT (P:Program) (X:STy):Prop where
  agg:aggB P X.Tg 2=true
  row:P.underlying X.Tgs=some (.slice X.Tg)
  info:∃ i z,P.info? X.Tg=some i∧i.zero=some z∧z.cells=#[.int .u32 0,.slice none 0 0]∧i.size=2∧i.bytes≤1000
  built:P.built X.Tg []=some #[.int .u32 0,.slice none 0 0]
section
variable {P:Program} {X:STy} {f fKn:FuncId} {fn:Func}
theorem opw_build2 (hT:TagT P X) {a:Act} {w:World} {K:Act→World→Prop} {d:Option Tmp} {g:Option (Nat × Bool)} {x:Operand} {r:Value × Value} (hx:a.eval x=.agg #[r.1,r.2]) (h1:r.1.oneCell'=true) (h2:r.2.oneCell'=true)
    (h:K (a.put d (.slice (some ⟨w.heap.size,0,none⟩) 1 1)) (w.alloc (.cells #[r.1,r.2] X.Tg))):opw P ⟨d,.buildSlice X.Tgs 1 #[(0,x)],g⟩ a w K:=by
  obtain ⟨i,z,hi,hz,hzc,hsz,_⟩:=hT.info
  refine oVa (v:=.slice (some ⟨w.heap.size,0,none⟩) 1 1) (w':=w.alloc (.cells #[r.1,r.2] X.Tg)) (by simp) (fun p hp=>?_) h
  have hr:=run_buildSlice (P:=P) w X.Tgs X.Tg 1 #[(0,.agg #[r.1,r.2])] #[r.1,r.2] i z hT.row hi hz (by rw [hsz];decide) (by rw [hsz];decide) (by
    rw [hsz]
    have hz5:∀ (zf:Nat→Value),(Array.range (1 * 2)).map zf=#[zf 0,zf 1]:=fun zf=>Array.ext' (by simp [Array.toList_map,Array.toList_range,List.range,List.range.loop])
    rw [hz5]
    simp [Instr.fill,Value.cells])
  simp only [execOp,hp]
  simp [hx,hr]
theorem opw_append2 (hT:TagT P X) {a:Act} {w:World} {K:Act→World→Prop} {d:Option Tmp} {g:Option (Nat × Bool)} {x y:Operand} {B:Nat} {lv:Value} {rows:List (Value × Value)} {r:Value × Value} {ad:Addr} {ts:Array TypeId} (hts:ts=#[X.Tgs,X.Tgs]) (hx:a.eval x=lv) (hy:a.eval y=.slice (some ad) 1 1) (ho:Out2 w B X.Tg lv rows) (hB:B≤w.heap.size) (hj:rows.length < 4294967296)
    (hrc:∀ i v,[r.1,r.2][i]?=some v→w.cell? (ad.add i)=some v) (h1:r.1.oneCell'=true) (h2:r.2.oneCell'=true)
    (h:∀ lv' w',Out2 w' B X.Tg lv' (rows ++ [r])→w.grownBy w' lv.ownBlock→(lv'.ownBlock=lv.ownBlock∨∃ b,lv'.ownBlock=some b∧w.heap.size≤b)→K (a.put d lv') w'):opw P ⟨d,.call ⟨.builtin .append,#[x,y],ts⟩,g⟩ a w K:=by
  subst hts
  obtain ⟨i,z,hi,hz,hzc,hsz,hby⟩:=hT.info
  have hb:(rows.length+1) * i.bytes≤140737488355328:=Nat.le_trans (Nat.mul_le_mul (show rows.length+1≤4294967296 by omega) hby) (by decide)
  refine opw_of fun o next Q hd hop hn=>?_
  obtain ⟨v',w',hr,h2,h3,h4⟩:=run_append_src2 (P:=P) w B X.Tgs X.Tgs o.type X.Tg i z 2 i.bytes hT.row hi hz hsz rfl (by rw [hzc];rfl) (by decide) lv rows.length (cells2 rows) ho (.slice (some ad) 1 1) 1 [r.1,r.2] (Src.ofSlice w hT.row ad 1 1 [r.1,r.2] rfl hrc (by intro v hv;simp at hv;rcases hv with rfl | rfl <;> assumption)) (by simp only [maxLen];omega) hb hB
  have hop':o.op=.call ⟨.builtin .append,#[x,y],#[X.Tgs,X.Tgs]⟩:=stripOp_eq (by simp) hop
  have hr':(execOp a.eval o).run P w=.ok (.value v') w':=by
    simp [execOp,hop',resolve,invoke,builtin,hx,hy,hr]
  rw [hr',Oper.upon_value,hd]
  refine hn _ _ (h v' w' ?_ h3 h4)
  unfold Out2
  rw [cells2_append,List.length_append]
  exact h2
def TRow (w0:World) (x:Nat × Bytes) (r:Value × Value):Prop:=r.1=.int .u32 (x.1:Int)∧x.1 < 4294967296∧∃ vb vc,r.2=.slice vb x.2.length vc∧BytesAt w0 (· < w0.heap.size) vb x.2∧x.2.length≤vc
def TRows (w0:World) (acc:List (Nat × Bytes)) (rows:List (Value × Value)):Prop:=acc.length=rows.length∧∀ (i:Nat) (x:Nat × Bytes) (r:Value × Value),acc[i]?=some x→rows[i]?=some r→TRow w0 x r
theorem TRows.ins {w0:World} {acc:List (Nat × Bytes)} {rows:List (Value × Value)} {x:Nat × Bytes} {r:Value × Value} (h:TRows w0 acc rows) (hr:TRow w0 x r) {p:Nat} (hp:p≤acc.length):TRows w0 (acc.take p ++ x :: acc.drop p) (rows.take p ++ r :: rows.drop p):=by
  have hl:=h.1
  refine ⟨by simp;omega,fun i y s hy hs=>?_⟩
  rcases Nat.lt_trichotomy i p with hi | hi | hi
  · rw [List.getElem?_append_left (by simp;omega),List.getElem?_take,if_pos hi] at hy hs
    exact h.2 i y s hy hs
  · subst hi
    rw [List.getElem?_append_right (by simp;omega),show i - (acc.take i).length=0 by simp;omega] at hy
    rw [List.getElem?_append_right (by simp;omega),show i - (rows.take i).length=0 by simp;omega] at hs
    simp at hy hs
    subst hy
    subst hs
    exact hr
  · rw [List.getElem?_append_right (by simp;omega),show i - (acc.take p).length=(i - 1 - p)+1 by simp;omega,List.getElem?_cons_succ,List.getElem?_drop,show p+(i - 1 - p)=i - 1 by omega] at hy
    rw [List.getElem?_append_right (by simp;omega),show i - (rows.take p).length=(i - 1 - p)+1 by simp;omega,List.getElem?_cons_succ,List.getElem?_drop,show p+(i - 1 - p)=i - 1 by omega] at hs
    exact h.2 (i - 1) y s hy hs
theorem last_set {rows:List (Value × Value)} {k:Nat} {z r:Value × Value} (hk:k≤rows.length):(rows.take k ++ z :: rows.drop k).set k r=rows.take k ++ r :: rows.drop k:=by
  rw [List.set_append_right _ _ (by simp;omega),show k - (rows.take k).length=0 by simp;omega,List.set_cons_zero]
theorem shift_set {rows:List (Value × Value)} {k:Nat} {z:Value × Value} (hk:k < rows.length):(rows.take (k+1) ++ z :: rows.drop (k+1)).set (k+1) rows[k]=rows.take k ++ rows[k] :: rows.drop k:=by
  have h1:rows.take (k+1)=rows.take k ++ [rows[k]]:=by rw [List.take_add_one,List.getElem?_eq_getElem hk];rfl
  have h2:rows.drop k=rows[k] :: rows.drop (k+1):=List.drop_eq_getElem_cons hk
  rw [last_set (by omega),h1,List.append_assoc]
  rw [h2]
  rfl
theorem hole_get {rows:List (Value × Value)} {k:Nat} {z:Value × Value} (hk:k < rows.length):(rows.take (k+1) ++ z :: rows.drop (k+1))[k]?=some rows[k]:=by
  rw [List.getElem?_append_left (by simp;omega),List.getElem?_take,if_pos (by omega),List.getElem?_eq_getElem hk]
end
end Go.Proofs.Ytjbbohfaihkolaa.K
namespace Go.Proofs.Ytjbbohfaihkolaa.K
open Go Go.RowKit Go.Proofs.Ytjbbohfaihkolaa.T
attribute [local simp] eTm eCo pNo gTp gTn qv qcall vop iop
set_option linter.unusedVariables false
set_option linter.unusedSimpArgs false
set_option maxHeartbeats 4000000
def sc_ubody (T0 T1 T2 T3:Nat):SC:=.seq (.reg [⟨some 21,.indexAddr T0 (.tmp 17) (.tmp 19),none⟩,ld 22 T2 21,⟨some 8,.alloc T2,none⟩,⟨none,.store T2 (.tmp 8) (.tmp 22),none⟩]) (.seq (.reg [⟨some 9,.assign (.const (.int .i64 0)),none⟩]) (.seq (.block 2 (.loop (.seq (.seq (.dreg [mv 23 9,mv 24 6,lenOp 25 T0 24,⟨some 26,.binOp .lss T1 (.tmp 23) (.tmp 25) T1,none⟩,mv 27 26,⟨some 28,.move (.tmp 6),some (4,true)⟩,⟨some 29,.move (.tmp 9),some (4,true)⟩,⟨some 30,.indexAddr T0 (.tmp 28) (.tmp 29),some (4,true)⟩,⟨some 31,.fieldAddr T2 (.tmp 30) 0,some (4,true)⟩,⟨some 32,.load T3 (.tmp 31),some (4,true)⟩,⟨some 33,.fieldAddr T2 (.tmp 8) 0,some (4,true)⟩,⟨some 34,.load T3 (.tmp 33),some (4,true)⟩,⟨some 35,.binOp .lss T3 (.tmp 32) (.tmp 34) T3,some (4,true)⟩,⟨some 36,.pick (.tmp 27) (.tmp 35) (.const (.bool false)),none⟩] [[],[],[1],[0,2],[3],[4],[4],[5,6,4],[7,4],[8,4],[4],[10,4],[9,11,4],[4,12]]) (.cond (.tmp 36) (.skip) (.exit 2))) (.block 3 (.reg [mv 37 9,⟨some 38,.binOp .add T1 (.tmp 37) (.const (.int .i64 1)) T1,none⟩,asg 9 38]))))) (.seq (.seq (.dreg [fa 39 T2 8 0,ld 40 T3 39,mv 41 5,⟨some 42,.binOp .lss T3 (.tmp 40) (.tmp 41) T3,none⟩,mv 43 42,⟨some 44,.move (.tmp 9),some (4,false)⟩,⟨some 45,.move (.tmp 6),some (4,false)⟩,⟨some 46,.call ⟨.builtin .len,#[(.tmp 45)],#[T0]⟩,some (4,false)⟩,⟨some 47,.binOp .lss T1 (.tmp 44) (.tmp 46) T1,some (4,false)⟩,⟨some 48,.move (.tmp 47),some (4,false)⟩,⟨some 49,.move (.tmp 6),some (9,true)⟩,⟨some 50,.move (.tmp 9),some (9,true)⟩,⟨some 51,.indexAddr T0 (.tmp 49) (.tmp 50),some (9,true)⟩,⟨some 52,.fieldAddr T2 (.tmp 51) 0,some (9,true)⟩,⟨some 53,.load T3 (.tmp 52),some (9,true)⟩,⟨some 54,.fieldAddr T2 (.tmp 8) 0,some (9,true)⟩,⟨some 55,.load T3 (.tmp 54),some (9,true)⟩,⟨some 56,.binOp .eql T3 (.tmp 53) (.tmp 55) T3,some (9,true)⟩,⟨some 57,.pick (.tmp 48) (.tmp 56) (.const (.bool false)),some (4,false)⟩,⟨some 58,.pick (.tmp 43) (.const (.bool true)) (.tmp 57),none⟩] [[],[0],[],[1,2],[3],[4],[4],[6,4],[5,7,4],[8,4,4],[9],[9],[10,11,9],[12,9],[13,9],[9],[15,9],[14,16,9],[9,17,4],[4,18]]) (.cond (.tmp 58) (.exit 1) (.skip))) (.seq (.reg [mv 59 6,⟨some 60,.build T2 #[],none⟩,⟨some 61,.buildSlice T0 1 #[(0,(.tmp 60))],none⟩,⟨some 62,.call ⟨.builtin .append,#[(.tmp 59),(.tmp 61)],#[T0,T0]⟩,none⟩,asg 6 62]) (.seq (.seq (.reg [mv 63 6,lenOp 64 T0 63,⟨some 65,.binOp .sub T1 (.tmp 64) (.const (.int .i64 1)) T1,none⟩,asg 10 65]) (.block 4 (.loop (.seq (.seq (.reg [mv 66 10,mv 67 9,⟨some 68,.binOp .gtr T1 (.tmp 66) (.tmp 67) T1,none⟩]) (.cond (.tmp 68) (.skip) (.exit 4))) (.seq (.block 5 (.reg [mv 71 6,mv 72 10,mv 73 6,mv 74 10,⟨some 75,.binOp .sub T1 (.tmp 74) (.const (.int .i64 1)) T1,none⟩,⟨some 76,.indexAddr T0 (.tmp 73) (.tmp 75),none⟩,ld 77 T2 76,⟨some 78,.indexAddr T0 (.tmp 71) (.tmp 72),none⟩,⟨none,.store T2 (.tmp 78) (.tmp 77),none⟩])) (.reg [mv 69 10,⟨some 70,.binOp .sub T1 (.tmp 69) (.const (.int .i64 1)) T1,none⟩,asg 10 70])))))) (.reg [mv 79 6,mv 80 9,ld 81 T2 8,⟨some 82,.indexAddr T0 (.tmp 79) (.tmp 80),none⟩,⟨none,.store T2 (.tmp 82) (.tmp 81),none⟩]))))))
def sc_utail (T0 T1 T2 T3:Nat):SC:=.seq (.seq (.dreg [fa 39 T2 8 0,ld 40 T3 39,mv 41 5,⟨some 42,.binOp .lss T3 (.tmp 40) (.tmp 41) T3,none⟩,mv 43 42,⟨some 44,.move (.tmp 9),some (4,false)⟩,⟨some 45,.move (.tmp 6),some (4,false)⟩,⟨some 46,.call ⟨.builtin .len,#[(.tmp 45)],#[T0]⟩,some (4,false)⟩,⟨some 47,.binOp .lss T1 (.tmp 44) (.tmp 46) T1,some (4,false)⟩,⟨some 48,.move (.tmp 47),some (4,false)⟩,⟨some 49,.move (.tmp 6),some (9,true)⟩,⟨some 50,.move (.tmp 9),some (9,true)⟩,⟨some 51,.indexAddr T0 (.tmp 49) (.tmp 50),some (9,true)⟩,⟨some 52,.fieldAddr T2 (.tmp 51) 0,some (9,true)⟩,⟨some 53,.load T3 (.tmp 52),some (9,true)⟩,⟨some 54,.fieldAddr T2 (.tmp 8) 0,some (9,true)⟩,⟨some 55,.load T3 (.tmp 54),some (9,true)⟩,⟨some 56,.binOp .eql T3 (.tmp 53) (.tmp 55) T3,some (9,true)⟩,⟨some 57,.pick (.tmp 48) (.tmp 56) (.const (.bool false)),some (4,false)⟩,⟨some 58,.pick (.tmp 43) (.const (.bool true)) (.tmp 57),none⟩] [[],[0],[],[1,2],[3],[4],[4],[6,4],[5,7,4],[8,4,4],[9],[9],[10,11,9],[12,9],[13,9],[9],[15,9],[14,16,9],[9,17,4],[4,18]]) (.cond (.tmp 58) (.exit 1) (.skip))) (.seq (.reg [mv 59 6,⟨some 60,.build T2 #[],none⟩,⟨some 61,.buildSlice T0 1 #[(0,(.tmp 60))],none⟩,⟨some 62,.call ⟨.builtin .append,#[(.tmp 59),(.tmp 61)],#[T0,T0]⟩,none⟩,asg 6 62]) (.seq (.seq (.reg [mv 63 6,lenOp 64 T0 63,⟨some 65,.binOp .sub T1 (.tmp 64) (.const (.int .i64 1)) T1,none⟩,asg 10 65]) (.block 4 (.loop (.seq (.seq (.reg [mv 66 10,mv 67 9,⟨some 68,.binOp .gtr T1 (.tmp 66) (.tmp 67) T1,none⟩]) (.cond (.tmp 68) (.skip) (.exit 4))) (.seq (.block 5 (.reg [mv 71 6,mv 72 10,mv 73 6,mv 74 10,⟨some 75,.binOp .sub T1 (.tmp 74) (.const (.int .i64 1)) T1,none⟩,⟨some 76,.indexAddr T0 (.tmp 73) (.tmp 75),none⟩,ld 77 T2 76,⟨some 78,.indexAddr T0 (.tmp 71) (.tmp 72),none⟩,⟨none,.store T2 (.tmp 78) (.tmp 77),none⟩])) (.reg [mv 69 10,⟨some 70,.binOp .sub T1 (.tmp 69) (.const (.int .i64 1)) T1,none⟩,asg 10 70])))))) (.reg [mv 79 6,mv 80 9,ld 81 T2 8,⟨some 82,.indexAddr T0 (.tmp 79) (.tmp 80),none⟩,⟨none,.store T2 (.tmp 82) (.tmp 81),none⟩])))
def sc_urest (T0 T1 T2 T3:Nat):SC:=.seq (.reg [mv 59 6,⟨some 60,.build T2 #[],none⟩,⟨some 61,.buildSlice T0 1 #[(0,(.tmp 60))],none⟩,⟨some 62,.call ⟨.builtin .append,#[(.tmp 59),(.tmp 61)],#[T0,T0]⟩,none⟩,asg 6 62]) (.seq (.seq (.reg [mv 63 6,lenOp 64 T0 63,⟨some 65,.binOp .sub T1 (.tmp 64) (.const (.int .i64 1)) T1,none⟩,asg 10 65]) (.block 4 (.loop (.seq (.seq (.reg [mv 66 10,mv 67 9,⟨some 68,.binOp .gtr T1 (.tmp 66) (.tmp 67) T1,none⟩]) (.cond (.tmp 68) (.skip) (.exit 4))) (.seq (.block 5 (.reg [mv 71 6,mv 72 10,mv 73 6,mv 74 10,⟨some 75,.binOp .sub T1 (.tmp 74) (.const (.int .i64 1)) T1,none⟩,⟨some 76,.indexAddr T0 (.tmp 73) (.tmp 75),none⟩,ld 77 T2 76,⟨some 78,.indexAddr T0 (.tmp 71) (.tmp 72),none⟩,⟨none,.store T2 (.tmp 78) (.tmp 77),none⟩])) (.reg [mv 69 10,⟨some 70,.binOp .sub T1 (.tmp 69) (.const (.int .i64 1)) T1,none⟩,asg 10 70])))))) (.reg [mv 79 6,mv 80 9,ld 81 T2 8,⟨some 82,.indexAddr T0 (.tmp 79) (.tmp 80),none⟩,⟨none,.store T2 (.tmp 82) (.tmp 81),none⟩]))
section
variable {P:Program} {X:STy} {f fKn:FuncId} {fn:Func}
theorem w64q {n:Int} (h1:-9223372036854775808≤n) (h2:n < 9223372036854775808):IntKind.i64.wrap n=n:=by
  simp only [IntKind.wrap,IntKind.bits,IntKind.signed]
  simp
  split <;> omega
structure UL (X:STy) (ub:Option Addr) (uc:Nat) (l:List (Nat × Bytes)) (w:World) (i:Nat) (acc:List (Nat × Bytes)) (rows:List (Value × Value)) (v:Value) (a:Act) (w':World):Prop where
  size:a.tmps.size=85
  defers:a.defers=[]
  s5:getT a 5=.int .u32 0
  s6:getT a 6=v
  s17:getT a 17=.slice ub l.length uc
  s18:getT a 18=.int .i64 (l.length:Int)
  s19:getT a 19=.int .i64 (i:Int)
  rws:TRows w acc rows
  out:Out2 w' w.heap.size X.Tg v rows
  below:Below w.heap.size w w'
theorem Out2.frame {w w':World} {B T:Nat} {v:Value} {rows:List (Value × Value)} (h:Out2 w B T v rows) (hb:∀ k,B≤k→k < w.heap.size→w'.heap[k]?=w.heap[k]?):Out2 w' B T v rows:=by
  refine ⟨h.1,h.2.imp id ?_⟩
  rintro ⟨g,cap,cur,q1,q2,q3,q4⟩
  exact ⟨g,cap,cur,q1,q2,by rw [hb g q2 (Array.getElem?_eq_some_iff.1 q3).1];exact q3,q4⟩
structure UT (X:STy) (bb:Option Addr) (uc:Nat) (l:List (Nat × Bytes)) (w:World) (i tb q:Nat) (x:Nat × Bytes) (r:Value × Value) (acc:List (Nat × Bytes)) (rows:List (Value × Value)) (v:Value) (a:Act) (w':World):Prop where
  size:a.tmps.size=85
  defers:a.defers=[]
  s5:getT a 5=.int .u32 0
  s6:getT a 6=v
  s8:getT a 8=.pointer (some ⟨tb,0,none⟩)
  s9:getT a 9=.int .i64 (q:Int)
  s17:getT a 17=.slice bb l.length uc
  s18:getT a 18=.int .i64 (l.length:Int)
  s19:getT a 19=.int .i64 (i:Int)
  hq:q≤acc.length
  less:∀ j y,j < q→acc[j]?=some y→y.1 < x.1
  ge:∀ y,acc[q]?=some y→¬ y.1 < x.1
  tbw:w.heap.size≤tb
  row:w'.heap[tb]?=some (.cells #[r.1,r.2] X.Tg (0,0))
  hr:TRow w x r
  rws:TRows w acc rows
  out:Out2 w' w.heap.size X.Tg v rows
  tbv:v.ownBlock ≠ some tb
  below:Below w.heap.size w w'
theorem unk_tail (hX:stOK P X=true) (hm:P.follows .mixedOrders=true) (hT:TagT P X) {ub:Option Addr} {uc i tb q:Nat} {l:List (Nat × Bytes)} {w w5:World} {acc:List (Nat × Bytes)} {rows:List (Value × Value)} {v:Value} {a:Act} {Q:Exit→Act→World→Prop} {x:Nat × Bytes} {r:Value × Value}
    (h:UT X ub uc l w i tb q x r acc rows v a w5) (hacc:acc.length≤32767)
    (hsame:∀ a' w',UL X ub uc l w i (insTag x acc) rows v a' w'→Q (.exit 1) a' w') (hnew:∀ a' w' rows' v',UL X ub uc l w i (insTag x acc) rows' v' a' w'→Q .normal a' w'):(sc_utail X.Tgs X.I X.Tg X.U32).wp P Q a w5:=by
  have hst:=st_facts hX
  obtain ⟨p,pd,p5,p6,p8,p9,p17,p18,p19,hq,hless,hge,htbw,hrow,hxr,hrows,hout,htbv,hbel⟩:=h
  have hlr:=hrows.1
  have htb:tb < w5.heap.size:=(Array.getElem?_eq_some_iff.1 hrow).1
  have hkey:w5.drew.cell? ⟨tb,0,none⟩=some (.int .u32 (x.1:Int)):=by
    have:w5.cell? ⟨tb,0,none⟩=some (.int .u32 (x.1:Int)):=by rw [cell_of_row _ _ _ _ _ _ hrow,← hxr.1];rfl
    exact this
  have hx0:decide ((x.1:Int) < 0)=false:=decide_eq_false (by omega)
  have hx00:¬ ((x.1:Int) < 0):=by omega
  obtain ⟨vbase,vcap,hv,hvc',hv2⟩:=hout.at
  have hout':Out2 w5.drew w.heap.size X.Tg v rows:=hout
  have go:∀ a:Act,a.tmps.size=85∧a.defers=[]∧getT a 5=.int .u32 0∧getT a 6=v∧getT a 8=.pointer (some ⟨tb,0,none⟩)∧getT a 9=.int .i64 (q:Int)∧getT a 17=.slice ub l.length uc∧getT a 18=.int .i64 (l.length:Int)∧getT a 19=.int .i64 (i:Int)→(∀ y,acc[q]?=some y→x.1 < y.1)→(sc_urest X.Tgs X.I X.Tg X.U32).wp P Q a w5.drew:=by
    clear p pd p5 p6 p8 p9 p17 p18 p19
    rintro a ⟨p,pd,p5,p6,p8,p9,p17,p18,p19⟩ hgt
    refine SC.wp_seq (SC.wp_reg ?_)
    iterate 1 (first | (apply ops_1;(focus (simp (disch:=(try simp only [sPu]);omega) [p6];try rfl))) | (apply ops_y;(focus rfl);(focus ((try simp only [sPu]);omega));(focus (simp (disch:=(try simp only [sPu]);omega) [p6];done));(focus (simp (disch:=(try simp only [sPu]);omega) [p6];try rfl))) | (apply ops_n;(focus rfl);(focus ((try simp only [sPu]);omega));(focus (first | (left;simp (disch:=(try simp only [sPu]);omega) [p6];done) | (right;simp (disch:=(try simp only [sPu]);omega);done)))))
    refine oNo rfl (opw_build (cs:=#[.int .u32 0,.slice none 0 0]) (by simpa using hT.built) ?_)
    refine oNo rfl (opw_build2 (r:=(.int .u32 0,.slice none 0 0)) hT (by simp (disch:=(try simp only [sPu]);omega)) rfl rfl ?_)
    change opsw P _ _ _ _ (w5.drew.alloc (.cells #[.int .u32 0,.slice none 0 0] X.Tg))
    have hnb:=heap_alloc_new w5.drew (.cells #[.int .u32 0,.slice none 0 0] X.Tg)
    have hds:w5.drew.heap.size=w5.heap.size:=rfl
    have hws5:w.heap.size≤w5.heap.size:=hbel.size
    have hsz6:(w5.drew.alloc (.cells #[.int .u32 0,.slice none 0 0] X.Tg)).heap.size=w5.heap.size+1:=by simp
    have hoth6:∀ k,k < w5.heap.size→(w5.drew.alloc (.cells #[.int .u32 0,.slice none 0 0] X.Tg)).heap[k]?=w5.heap[k]?:=fun k hk=>Below.heap_alloc _ _ _ hk
    have hbel6:Below w.heap.size w (w5.drew.alloc (.cells #[.int .u32 0,.slice none 0 0] X.Tg)):=hbel.drew.alloc hbel.size _
    have hnb':∀ (i:Nat) (u:Value),[(Value.int .u32 0),.slice none 0 0][i]?=some u→(w5.drew.alloc (.cells #[.int .u32 0,.slice none 0 0] X.Tg)).cell? ((⟨w5.drew.heap.size,0,none⟩:Addr).add i)=some u:=fun i u hi=>by
      rw [add_none,cell_of_row _ _ _ _ _ _ hnb]
      simpa using hi
    have hout6:Out2 (w5.drew.alloc (.cells #[.int .u32 0,.slice none 0 0] X.Tg)) w.heap.size X.Tg v rows:=hout.frame fun k h1 h2=>hoth6 k h2
    refine oNo rfl (opw_append2 (B:=w.heap.size) (lv:=v) (rows:=rows) (r:=(.int .u32 0,.slice none 0 0)) (ad:=⟨w5.drew.heap.size,0,none⟩) hT rfl (by simp (disch:=(try simp only [sPu]);omega) [p6]) (by simp (disch:=(try simp only [sPu]);omega)) hout6 (by omega) (by omega) hnb' rfl rfl fun v7 w7 hout7 hgr7 hown7=>?_)
    have hrow7:w7.heap[tb]?=some (.cells #[r.1,r.2] X.Tg (0,0)):=by
      rw [hgr7.block tb (by omega) (fun e=>htbv e.symm),hoth6 tb htb]
      exact hrow
    have htb7:v7.ownBlock ≠ some tb:=by
      rcases hown7 with e | ⟨bb,e,hb⟩
      · rw [e];exact htbv
      · rw [e];intro e2;cases e2;omega
    have hbel7:Below w.heap.size w w7:=hbel6.trans ⟨hgr7.os,hgr7.tape,hgr7.output,hgr7.size,fun k hk=>hgr7.block k (by have:=hbel6.size;omega) (fun e=>by have:=(World.ownsRow.lt hout6 k e.symm).1;omega)⟩
    repeat (first | (apply ops_1;(focus (simp (disch:=(try simp only [sPu]);omega) ;try rfl))) | (apply ops_y;(focus rfl);(focus ((try simp only [sPu]);omega));(focus (simp (disch:=(try simp only [sPu]);omega);done));(focus (simp (disch:=(try simp only [sPu]);omega) ;try rfl))) | (apply ops_n;(focus rfl);(focus ((try simp only [sPu]);omega));(focus (first | (left;simp (disch:=(try simp only [sPu]);omega);done) | (right;simp (disch:=(try simp only [sPu]);omega);done)))))
    refine oNi (SC.wp_seq (SC.wp_seq (SC.wp_reg ?_)))
    obtain ⟨vb7,vc7,hv7,hvc7,hv72⟩:=hout7.at
    have hl7:(rows ++ [((.int .u32 0,.slice none 0 0):Value × Value)]).length=rows.length+1:=by simp
    rw [hl7] at hv7
    have hwl:IntKind.i64.wrap (rows.length:Int)=(rows.length:Int):=w64q (by omega) (by omega)
    have p6v:=hv7
    repeat (first | (apply ops_1;(focus (simp (disch:=(try simp only [sPu]);omega) [hst,hv7,hwl];try rfl))) | (apply ops_y;(focus rfl);(focus ((try simp only [sPu]);omega));(focus (simp (disch:=(try simp only [sPu]);omega) [hst,hv7,hwl];done));(focus (simp (disch:=(try simp only [sPu]);omega) [hst,hv7,hwl];try rfl))) | (apply ops_n;(focus rfl);(focus ((try simp only [sPu]);omega));(focus (first | (left;simp (disch:=(try simp only [sPu]);omega) [hst,hv7,hwl];done) | (right;simp (disch:=(try simp only [sPu]);omega);done)))))
    refine oNi ?_
    simp only [Exit.then]
    have hins:insTag x acc=acc.take q ++ x :: acc.drop q:=ins_new hq hless hgt
    refine SC.wp_block (SC.wp_loop (fun a' w'=>∃ (k:Nat) (z:Value × Value),a'.tmps.size=85∧a'.defers=[]∧getT a' 5=.int .u32 0∧getT a' 6=.slice vb7 (rows.length+1) vc7∧getT a' 8=.pointer (some ⟨tb,0,none⟩)∧getT a' 9=.int .i64 (q:Int)∧getT a' 10=.int .i64 (k:Int)∧getT a' 17=.slice ub l.length uc∧getT a' 18=.int .i64 (l.length:Int)∧getT a' 19=.int .i64 (i:Int)∧q≤k∧k≤rows.length ∧
        Out2 w' w.heap.size X.Tg (.slice vb7 (rows.length+1) vc7) (rows.take k ++ z :: rows.drop k)∧w'.heap[tb]?=some (.cells #[r.1,r.2] X.Tg (0,0))∧Below w.heap.size w w')
      (fun a' _=>match getT a' 10 with | .int _ m=>m.toNat | _=>0) ⟨rows.length,(.int .u32 0,.slice none 0 0),by simp [sPu,p],by simp [dPu,pd],by simp (disch:=(try simp only [sPu]);omega) [p5],by simp (disch:=(try simp only [sPu]);omega) [hv7],by simp (disch:=(try simp only [sPu]);omega) [p8],by simp (disch:=(try simp only [sPu]);omega) [p9],by simp (disch:=(try simp only [sPu]);omega),by simp (disch:=(try simp only [sPu]);omega) [p17],by simp (disch:=(try simp only [sPu]);omega) [p18],by simp (disch:=(try simp only [sPu]);omega) [p19],by omega,Nat.le_refl _,by rw [List.take_length,List.drop_length,← hv7];exact hout7,hrow7,hbel7⟩ ?_)
    clear p pd p5 p6 p8 p9 p17 p18 p19 a
    rintro a w8 ⟨k,z,p,pd,p5,p6,p8,p9,p10,p17,p18,p19,hqk,hkr,hout8,hrow8,hbel8⟩
    refine SC.wp_seq (SC.wp_seq (SC.wp_reg ?_))
    repeat (first | (apply ops_1;(focus (simp (disch:=(try simp only [sPu]);omega) [p9,p10];try rfl))) | (apply ops_y;(focus rfl);(focus ((try simp only [sPu]);omega));(focus (simp (disch:=(try simp only [sPu]);omega) [p9,p10];done));(focus (simp (disch:=(try simp only [sPu]);omega) [p9,p10];try rfl))) | (apply ops_n;(focus rfl);(focus ((try simp only [sPu]);omega));(focus (first | (left;simp (disch:=(try simp only [sPu]);omega) [p9,p10];done) | (right;simp (disch:=(try simp only [sPu]);omega);done)))))
    refine oNi (SC.wp_cond (t:=decide ((k:Int) > (q:Int))) (by simp (disch:=(try simp only [sPu]);omega)) ?_)
    have hlen8:(rows.take k ++ z :: rows.drop k).length=rows.length+1:=by simp;omega
    by_cases hkq:k=q
    · subst hkq
      rw [if_neg (by simp)]
      refine SC.wp_exit ?_
      simp only [Exit.then,Exit.inBlock,if_true]
      have hkl:k < (rows.take k ++ z :: rows.drop k).length:=by omega
      obtain ⟨g8,cap8,hv8,hg8,-,-⟩:=hout8.read (List.getElem?_eq_getElem hkl)
      rw [hv8,hlen8] at p6
      rw [hv8] at hout8
      have hki:(0:Int)≤(k:Int)∧(k:Int) < ((rows.length+1:Nat):Int):=by omega
      have hki2:(k:Int) < (rows.length:Int)+1:=by omega
      have hrow8r:rangeV w8 tb 0 2=some [r.1,r.2]:=by
        have hc:∀ i,w8.cell? ⟨tb,i,none⟩=#[r.1,r.2][i]?:=fun i=>cell_of_row _ _ _ _ _ _ hrow8
        simp [rangeV,hc]
      refine SC.wp_reg ?_
      iterate 4 (first | (apply ops_1;(focus (simp (disch:=(try simp only [sPu]);omega) [hst,p6,p8,p9,hki,hki2,hrow8r];try rfl))) | (apply ops_y;(focus rfl);(focus ((try simp only [sPu]);omega));(focus (simp (disch:=(try simp only [sPu]);omega) [hst,p6,p8,p9,hki,hki2,hrow8r];done));(focus (simp (disch:=(try simp only [sPu]);omega) [hst,p6,p8,p9,hki,hki2,hrow8r];try rfl))) | (apply ops_n;(focus rfl);(focus ((try simp only [sPu]);omega));(focus (first | (left;simp (disch:=(try simp only [sPu]);omega) [hst,p6,p8,p9,hki,hki2,hrow8r];done) | (right;simp (disch:=(try simp only [sPu]);omega);done)))))
      obtain ⟨hxr1,hxr2,xvb,xvc,hxr3,hxr4,hxr5⟩:=hxr
      refine oNo rfl (opw_store2 (B:=w.heap.size) (k:=k) (g0:=g8) (cap:=cap8) (r:=r) (rows:=rows.take k ++ z :: rows.drop k) hT.agg (by rw [hlen8] at hout8 ⊢;exact hout8) hkl (by simp (disch:=(try simp only [sPu]);omega)) (by simp (disch:=(try simp only [sPu]);omega)) (by rw [hxr1];rfl) (by rw [hxr3];rfl) fun w9 hout9 hs9 hoth9 hb9=>oNi ?_)
      rw [last_set hkr] at hout9
      refine hnew _ w9 (rows.take k ++ r :: rows.drop k) (.slice (some ⟨g8,0,none⟩) (rows.take k ++ z :: rows.drop k).length cap8) ?_
      rw [hins]
      exact ⟨by simp [sPu,p],by simp [dPu,pd],by simp (disch:=(try simp only [sPu]);omega) [p5],by simp (disch:=(try simp only [sPu]);omega) [p6,hlen8],by simp (disch:=(try simp only [sPu]);omega) [p17],by simp (disch:=(try simp only [sPu]);omega) [p18],by simp (disch:=(try simp only [sPu]);omega) [p19],hrows.ins ⟨hxr1,hxr2,xvb,xvc,hxr3,hxr4,hxr5⟩ (by omega),hout9,hbel8.trans hb9⟩
    · rw [if_pos (by simp;omega)]
      refine SC.wp_skip ?_
      simp only [Exit.then]
      obtain ⟨k',rfl⟩:∃ k',k=k'+1:=⟨k - 1,by omega⟩
      have hkl:k' < rows.length:=by omega
      obtain ⟨g8,cap8,hv8,hg8,-,hrg8⟩:=hout8.read (hole_get (z:=z) hkl)
      rw [hlen8] at hv8
      cases hv8
      have hki:(0:Int)≤(k':Int)∧(k':Int) < ((rows.length+1:Nat):Int):=by omega
      have hki2:(k':Int) < (rows.length:Int)+1:=by omega
      have hki3:((k':Int)+1) < (rows.length:Int)+1:=by omega
      have hki4:(0:Int)≤(k':Int)+1:=by omega
      have hwk:IntKind.i64.wrap (k':Int)=(k':Int):=w64q (by omega) (by omega)
      have hrk:=hrows.2 k' acc[k'] rows[k'] (List.getElem?_eq_getElem (by omega)) (List.getElem?_eq_getElem hkl)
      obtain ⟨hk1,hk2,xvb,xvc,hk3,hk4,hk5⟩:=hrk
      refine SC.wp_seq (SC.wp_block (SC.wp_reg ?_))
      iterate 8 (first | (apply ops_1;(focus (simp (disch:=(try simp only [sPu]);omega) [hst,p6,p10,hki,hki2,hki3,hki4,hwk,hrg8];try rfl))) | (apply ops_y;(focus rfl);(focus ((try simp only [sPu]);omega));(focus (simp (disch:=(try simp only [sPu]);omega) [hst,p6,p10,hki,hki2,hki3,hki4,hwk,hrg8];done));(focus (simp (disch:=(try simp only [sPu]);omega) [hst,p6,p10,hki,hki2,hki3,hki4,hwk,hrg8];try rfl))) | (apply ops_n;(focus rfl);(focus ((try simp only [sPu]);omega));(focus (first | (left;simp (disch:=(try simp only [sPu]);omega) [hst,p6,p10,hki,hki2,hki3,hki4,hwk,hrg8];done) | (right;simp (disch:=(try simp only [sPu]);omega);done)))))
      refine oNo rfl (opw_store2 (B:=w.heap.size) (k:=k'+1) (g0:=g8) (cap:=vc7) (r:=rows[k']) (rows:=rows.take (k'+1) ++ z :: rows.drop (k'+1)) hT.agg (by rw [hlen8];exact hout8) (by omega) (by simp (disch:=(try simp only [sPu]);omega)) (by simp (disch:=(try simp only [sPu]);omega)) (by rw [hk1];rfl) (by rw [hk3];rfl) fun w9 hout9 hs9 hoth9 hb9=>oNi ?_)
      simp only [Exit.then,Exit.inBlock]
      refine SC.wp_reg ?_
      repeat (first | (apply ops_1;(focus (simp (disch:=(try simp only [sPu]);omega) [hst,p10,hwk];try rfl))) | (apply ops_y;(focus rfl);(focus ((try simp only [sPu]);omega));(focus (simp (disch:=(try simp only [sPu]);omega) [hst,p10,hwk];done));(focus (simp (disch:=(try simp only [sPu]);omega) [hst,p10,hwk];try rfl))) | (apply ops_n;(focus rfl);(focus ((try simp only [sPu]);omega));(focus (first | (left;simp (disch:=(try simp only [sPu]);omega) [hst,p10,hwk];done) | (right;simp (disch:=(try simp only [sPu]);omega);done)))))
      refine oNi ?_
      rw [shift_set hkl,hlen8] at hout9
      have htbg:tb ≠ g8:=fun e=>by
        rw [hv7] at htb7
        exact htb7 (by rw [e];rfl)
      refine ⟨⟨k',rows[k'],by simp [sPu,p],by simp [dPu,pd],by simp (disch:=(try simp only [sPu]);omega) [p5],by simp (disch:=(try simp only [sPu]);omega) [p6],by simp (disch:=(try simp only [sPu]);omega) [p8],by simp (disch:=(try simp only [sPu]);omega) [p9],by simp (disch:=(try simp only [sPu]);omega),by simp (disch:=(try simp only [sPu]);omega) [p17],by simp (disch:=(try simp only [sPu]);omega) [p18],by simp (disch:=(try simp only [sPu]);omega) [p19],by omega,by omega,hout9,by rw [hoth9 tb htbg];exact hrow8,hbel8.trans hb9⟩,?_⟩
      have e10:getT a 10=.int .i64 ((k':Int)+1):=by simpa using p10
      simp only [e10]
      simp (disch:=(try simp only [sPu]);omega)
  refine SC.wp_seq (SC.wp_seq (SC.wp_dreg hm (Below w5.heap.size w5.drew) [(0,true),(1,true),(2,true),(3,true),(4,true),(5,true),(6,true),(7,true),(8,true),(9,true),(10,true),(11,true),(12,true),(13,true),(14,true),(15,true),(16,true),(17,true),(18,true),(19,true)] (by rfl) (by rfl) (by decide) (Below.refl _ _) ?_))
  by_cases hql:q < rows.length
  · obtain ⟨g,cap,hvg,hgB,hcg,hrg⟩:=hout.read (List.getElem?_eq_getElem hql)
    have hgl:g < w5.heap.size:=by
      rcases Nat.lt_or_ge g w5.heap.size with h | h
      · exact h
      · simp [World.cell?,Array.getElem?_eq_none h] at hcg
    have hqa:q < acc.length:=by omega
    have htr:=hrows.2 q acc[q] rows[q] (List.getElem?_eq_getElem hqa) (List.getElem?_eq_getElem hql)
    rw [htr.1] at hcg
    have hcg':w5.drew.cell? ⟨g,q * 2,none⟩=some (.int .u32 (acc[q].1:Int)):=hcg
    have hqi:(0:Int)≤(q:Int)∧(q:Int) < (rows.length:Int):=by omega
    have p6':=p6
    rw [hvg] at p6'
    have hlt1:decide ((q:Int) < (rows.length:Int))=true:=decide_eq_true hqi.2
    repeat (first | (apply dr_1;(focus rfl);(focus (simp (disch:=(try simp only [sPu]);omega) [hst,p5,p6',p8,p9,hqi,hcg',hgl,htb,hkey,hlt1,hx0,hx00];try rfl))) | (apply dr_y;(focus rfl);(focus rfl);(focus ((try simp only [sPu]);omega));(focus (simp (disch:=(try simp only [sPu]);omega) [hst,p5,p6',p8,p9,hqi,hcg',hgl,htb,hkey,hlt1,hx0,hx00];done));(focus (simp (disch:=(try simp only [sPu]);omega) [hst,p5,p6',p8,p9,hqi,hcg',hgl,htb,hkey,hlt1,hx0,hx00];try rfl))) | (apply dr_n;(focus rfl);(focus rfl);(focus ((try simp only [sPu]);omega));(focus (first | (left;simp (disch:=(try simp only [sPu]);omega) [hst,p5,p6',p8,p9,hqi,hcg',hgl,htb,hkey,hlt1,hx0,hx00];done) | (right;simp (disch:=(try simp only [sPu]);omega);done)))))
    refine dreg_nil ?_
    simp only [Exit.then]
    refine SC.wp_cond (t:=((acc[q].1:Int) == (x.1:Int))) (by simp (disch:=(try simp only [sPu]);omega)) ?_
    by_cases he:acc[q].1=x.1
    · rw [if_pos (by rw [beq_iff_eq];omega)]
      refine SC.wp_exit ?_
      simp only [Exit.then]
      have hins:insTag x acc=acc:=ins_same hless (List.getElem?_eq_getElem hqa) he
      refine hsame _ _ (by
        rw [hins]
        exact ⟨by simp [sPu,p],by simp [dPu,pd],by simp (disch:=(try simp only [sPu]);omega) [p5],by simp (disch:=(try simp only [sPu]);omega) [p6],by simp (disch:=(try simp only [sPu]);omega) [p17],by simp (disch:=(try simp only [sPu]);omega) [p18],by simp (disch:=(try simp only [sPu]);omega) [p19],hrows,hout',hbel.drew⟩)
    · rw [if_neg (by simp;omega)]
      refine SC.wp_skip ?_
      simp only [Exit.then]
      refine go _ ⟨by simp [sPu,p],by simp [dPu,pd],by simp (disch:=(try simp only [sPu]);omega) [p5],by simp (disch:=(try simp only [sPu]);omega) [p6],by simp (disch:=(try simp only [sPu]);omega) [p8],by simp (disch:=(try simp only [sPu]);omega) [p9],by simp (disch:=(try simp only [sPu]);omega) [p17],by simp (disch:=(try simp only [sPu]);omega) [p18],by simp (disch:=(try simp only [sPu]);omega) [p19]⟩ fun y hy=>?_
      have:=hge y hy
      rw [List.getElem?_eq_getElem hqa] at hy
      cases hy
      omega
  · have hlt1:decide ((q:Int) < (rows.length:Int))=false:=decide_eq_false (by omega)
    have p6':=p6
    rw [hv] at p6'
    repeat (first | (apply dr_1;(focus rfl);(focus (simp (disch:=(try simp only [sPu]);omega) [hst,p5,p6',p8,p9,htb,hkey,hlt1,hql,hx0,hx00];try rfl))) | (apply dr_y;(focus rfl);(focus rfl);(focus ((try simp only [sPu]);omega));(focus (simp (disch:=(try simp only [sPu]);omega) [hst,p5,p6',p8,p9,htb,hkey,hlt1,hql,hx0,hx00];done));(focus (simp (disch:=(try simp only [sPu]);omega) [hst,p5,p6',p8,p9,htb,hkey,hlt1,hql,hx0,hx00];try rfl))) | (apply dr_n;(focus rfl);(focus rfl);(focus ((try simp only [sPu]);omega));(focus (first | (left;simp (disch:=(try simp only [sPu]);omega) [hst,p5,p6',p8,p9,htb,hkey,hlt1,hql,hx0,hx00];done) | (right;simp (disch:=(try simp only [sPu]);omega);done)))))
    refine dreg_nil ?_
    simp only [Exit.then]
    refine SC.wp_cond (t:=false) (by simp (disch:=(try simp only [sPu]);omega)) ?_
    rw [if_neg (by simp)]
    refine SC.wp_skip ?_
    simp only [Exit.then]
    refine go _ ⟨by simp [sPu,p],by simp [dPu,pd],by simp (disch:=(try simp only [sPu]);omega) [p5],by simp (disch:=(try simp only [sPu]);omega) [p6],by simp (disch:=(try simp only [sPu]);omega) [p8],by simp (disch:=(try simp only [sPu]);omega) [p9],by simp (disch:=(try simp only [sPu]);omega) [p17],by simp (disch:=(try simp only [sPu]);omega) [p18],by simp (disch:=(try simp only [sPu]);omega) [p19]⟩ fun y hy=>?_
    rw [List.getElem?_eq_none (by omega)] at hy
    cases hy
theorem unk_body (hX:stOK P X=true) (hm:P.follows .mixedOrders=true) (hT:TagT P X) {ub:Option Addr} {uc i:Nat} {l:List (Nat × Bytes)} {w w3:World} {acc:List (Nat × Bytes)} {rows:List (Value × Value)} {v:Value} {a:Act} {Q:Exit→Act→World→Prop} {x:Nat × Bytes} {b o:Nat}
    (h:UL X ub uc l w i acc rows v a w3) (hi:i < l.length) (hub:ub=some ⟨b,o,none⟩) (hbB:b < w.heap.size) (hx4:x.1 < 4294967296) {vb:Option Addr} {vc:Nat} (hrng:rangeV w b (o+i * 2) 2=some [.int .u32 (x.1:Int),.slice vb x.2.length vc]) (hbs:BytesAt w (· < w.heap.size) vb x.2) (hvc:x.2.length≤vc) (hacc:acc.length≤32767)
    (hQ:∀ a' w' rows' v',UL X ub uc l w i (insTag x acc) rows' v' a' w'→Q .normal a' w'):(SC.block 1 (sc_ubody X.Tgs X.I X.Tg X.U32)).wp P Q a w3:=by
  have hst:=st_facts hX
  obtain ⟨p,pd,p5,p6,p17,p18,p19,hrows,hout,hbel⟩:=h
  subst hub
  have hws:=hbel.size
  have hrng3:rangeV w3 b (o+i * 2) 2=some [.int .u32 (x.1:Int),.slice vb x.2.length vc]:=by rw [rangeV_mono (hbel.block b hbB)];exact hrng
  obtain ⟨iT,zT,hiT,hzT,hzTc,_,_⟩:=hT.info
  refine SC.wp_block ?_
  refine SC.wp_seq (SC.wp_reg ?_)
  have hii:(0:Int)≤(i:Int)∧(i:Int) < (l.length:Int):=by omega
  iterate 2 (first | (apply ops_1;(focus (simp (disch:=(try simp only [sPu]);omega) [hst,p17,p19,hii,hrng3];try rfl))) | (apply ops_y;(focus rfl);(focus ((try simp only [sPu]);omega));(focus (simp (disch:=(try simp only [sPu]);omega) [hst,p17,p19,hii,hrng3];done));(focus (simp (disch:=(try simp only [sPu]);omega) [hst,p17,p19,hii,hrng3];try rfl))) | (apply ops_n;(focus rfl);(focus ((try simp only [sPu]);omega));(focus (first | (left;simp (disch:=(try simp only [sPu]);omega) [hst,p17,p19,hii,hrng3];done) | (right;simp (disch:=(try simp only [sPu]);omega);done)))))
  refine oNo rfl (opw_alloc hiT hzT ?_)
  have hnew:=heap_alloc_new w3 (.cells zT.cells X.Tg)
  refine oNo rfl (opw_store_agg (cs:=[.int .u32 (x.1:Int),.slice vb x.2.length vc]) (cur:=zT.cells) (b:=w3.heap.size) (E:=X.Tg) hT.agg (by simp (disch:=(try simp only [sPu]);omega)) (by simp (disch:=(try simp only [sPu]);omega)) hnew (by rw [hzTc];rfl) (by intro v hv;simp at hv;rcases hv with rfl | rfl <;> rfl) (oNi ?_))
  rw [pNo]
  simp only [Exit.then]
  refine SC.wp_seq (SC.wp_reg ?_)
  repeat (first | (apply ops_1;(focus (simp (disch:=(try simp only [sPu]);omega) ;try rfl))) | (apply ops_y;(focus rfl);(focus ((try simp only [sPu]);omega));(focus (simp (disch:=(try simp only [sPu]);omega);done));(focus (simp (disch:=(try simp only [sPu]);omega) ;try rfl))) | (apply ops_n;(focus rfl);(focus ((try simp only [sPu]);omega));(focus (first | (left;simp (disch:=(try simp only [sPu]);omega);done) | (right;simp (disch:=(try simp only [sPu]);omega);done)))))
  refine oNi ?_
  simp only [Exit.then]
  obtain ⟨w4,hw4⟩:∃ w4,w4=(w3.alloc (.cells zT.cells X.Tg)).setRow w3.heap.size [Value.int .u32 (x.1:Int),.slice vb x.2.length vc].toArray:=⟨_,rfl⟩
  rw [← hw4]
  have hrow4:w4.heap[w3.heap.size]?=some (.cells #[.int .u32 (x.1:Int),.slice vb x.2.length vc] X.Tg (0,0)):=by rw [hw4];exact setRow_heap _ _ _ _ _ _ hnew
  have hoth4:∀ k,k < w3.heap.size→w4.heap[k]?=w3.heap[k]?:=fun k hk=>by
    rw [hw4,setRow_other _ _ _ _ (by omega)]
    exact Below.heap_alloc _ _ _ hk
  have hsz4:w4.heap.size=w3.heap.size+1:=by rw [hw4];simp
  have hbel4:Below w.heap.size w w4:=by
    rw [hw4]
    exact (hbel.alloc (by omega) _).trans ⟨rfl,rfl,rfl,by simp,fun k hk=>setRow_other _ _ _ _ (by omega)⟩
  have hout4:Out2 w4 w.heap.size X.Tg v rows:=hout.frame fun k h1 h2=>hoth4 k h2
  have hlr:=hrows.1
  have hxr:TRow w x (.int .u32 (x.1:Int),.slice vb x.2.length vc):=⟨rfl,hx4,vb,vc,rfl,hbs,hvc⟩
  have htv:v.ownBlock ≠ some w3.heap.size:=fun e=>by
    have:=(World.ownsRow.lt hout _ e).2
    omega
  have tail:∀ a w5 q,UT X (some ⟨b,o,none⟩) uc l w i w3.heap.size q x (.int .u32 (x.1:Int),.slice vb x.2.length vc) acc rows v a w5→(sc_utail X.Tgs X.I X.Tg X.U32).wp P (Exit.inBlock 1 Q) a w5:=fun a w5 q hu =>
    unk_tail hX hm hT hu hacc (fun a' w' hul=>by
      simp only [Exit.inBlock,if_true]
      exact hQ _ _ _ _ hul) (fun a' w' rows' v' hul=>by
      simp only [Exit.inBlock]
      exact hQ _ _ _ _ hul)
  refine SC.wp_seq (SC.wp_block (SC.wp_loop (fun a' w'=>∃ p:Nat,a'.tmps.size=85∧a'.defers=[]∧getT a' 5=.int .u32 0∧getT a' 6=v∧getT a' 8=.pointer (some ⟨w3.heap.size,0,none⟩)∧getT a' 9=.int .i64 (p:Int)∧getT a' 17=.slice (some ⟨b,o,none⟩) l.length uc∧getT a' 18=.int .i64 (l.length:Int)∧getT a' 19=.int .i64 (i:Int)∧p≤acc.length∧(∀ j y,j < p→acc[j]?=some y→y.1 < x.1)∧Below w4.heap.size w4 w')
    (fun a' _=>match getT a' 9 with | .int _ m=>(acc.length - m).toNat | _=>0) ⟨0,by simp [sPu,p],by simp [dPu,pd],by simp (disch:=(try simp only [sPu]);omega) [p5],by simp (disch:=(try simp only [sPu]);omega) [p6],by simp (disch:=(try simp only [sPu]);omega),by simp (disch:=(try simp only [sPu]);omega),by simp (disch:=(try simp only [sPu]);omega) [p17],by simp (disch:=(try simp only [sPu]);omega) [p18],by simp (disch:=(try simp only [sPu]);omega) [p19],by omega,fun j y hj=>by omega,Below.refl _ _⟩ ?_))
  clear p pd p5 p6 p17 p18 p19 a
  rintro a w5 ⟨q,p,pd,p5,p6,p8,p9,p17,p18,p19,hq,hless,hb5⟩
  have hs5:=hb5.size
  have hout5:Out2 w5 w.heap.size X.Tg v rows:=hout4.frame fun k h1 h2=>hb5.block k h2
  have hrow5:w5.heap[w3.heap.size]?=some (.cells #[.int .u32 (x.1:Int),.slice vb x.2.length vc] X.Tg (0,0)):=by rw [hb5.block _ (by omega)];exact hrow4
  have hkey5:w5.drew.cell? ⟨w3.heap.size,0,none⟩=some (.int .u32 (x.1:Int)):=by
    have:w5.cell? ⟨w3.heap.size,0,none⟩=some (.int .u32 (x.1:Int)):=by rw [cell_of_row _ _ _ _ _ _ hrow5];rfl
    exact this
  have htb5:w3.heap.size < w5.heap.size:=by omega
  have hb5w:Below w.heap.size w w5:=⟨hb5.os.trans hbel4.os,hb5.tape.trans hbel4.tape,hb5.output.trans hbel4.output,Nat.le_trans hbel4.size hb5.size,fun k hk=>(hb5.block k (by omega)).trans (hbel4.block k hk)⟩
  refine SC.wp_seq (SC.wp_seq (SC.wp_dreg hm (Below w5.heap.size w5.drew) [(0,true),(1,true),(2,true),(3,true),(4,true),(5,true),(6,true),(7,true),(8,true),(9,true),(10,true),(11,true),(12,true),(13,true)] (by rfl) (by rfl) (by decide) (Below.refl _ _) ?_))
  obtain ⟨vbase,vcap,hv,hvc',hv2⟩:=hout5.at
  by_cases hql:q < rows.length
  · obtain ⟨g,cap,hvg,hgB,hcg,hrg⟩:=hout5.read (List.getElem?_eq_getElem hql)
    have hgl:g < w5.heap.size:=by
      rcases Nat.lt_or_ge g w5.heap.size with h | h
      · exact h
      · simp [World.cell?,Array.getElem?_eq_none h] at hcg
    have hqa:q < acc.length:=by omega
    have htr:=hrows.2 q acc[q] rows[q] (List.getElem?_eq_getElem hqa) (List.getElem?_eq_getElem hql)
    rw [htr.1] at hcg
    have hcg':w5.drew.cell? ⟨g,q * 2,none⟩=some (.int .u32 (acc[q].1:Int)):=hcg
    have hqi:(0:Int)≤(q:Int)∧(q:Int) < (rows.length:Int):=by omega
    rw [hvg] at p6
    have hlt1:decide ((q:Int) < (rows.length:Int))=true:=decide_eq_true hqi.2
    repeat (first | (apply dr_1;(focus rfl);(focus (simp (disch:=(try simp only [sPu]);omega) [hst,p6,p8,p9,hqi,hcg',hgl,htb5,hkey5,hlt1];try rfl))) | (apply dr_y;(focus rfl);(focus rfl);(focus ((try simp only [sPu]);omega));(focus (simp (disch:=(try simp only [sPu]);omega) [hst,p6,p8,p9,hqi,hcg',hgl,htb5,hkey5,hlt1];done));(focus (simp (disch:=(try simp only [sPu]);omega) [hst,p6,p8,p9,hqi,hcg',hgl,htb5,hkey5,hlt1];try rfl))) | (apply dr_n;(focus rfl);(focus rfl);(focus ((try simp only [sPu]);omega));(focus (first | (left;simp (disch:=(try simp only [sPu]);omega) [hst,p6,p8,p9,hqi,hcg',hgl,htb5,hkey5,hlt1];done) | (right;simp (disch:=(try simp only [sPu]);omega);done)))))
    refine dreg_nil ?_
    simp only [Exit.then]
    refine SC.wp_cond (t:=decide ((acc[q].1:Int) < (x.1:Int))) (by simp (disch:=(try simp only [sPu]);omega)) ?_
    by_cases hlx:acc[q].1 < x.1
    · rw [if_pos (decide_eq_true (by omega))]
      refine SC.wp_skip ?_
      simp only [Exit.then]
      have hwq:IntKind.i64.wrap ((q:Int)+1)=(q:Int)+1:=w64q (by omega) (by omega)
      refine SC.wp_block (SC.wp_reg ?_)
      repeat (first | (apply ops_1;(focus (simp (disch:=(try simp only [sPu]);omega) [hst,p9,hwq];try rfl))) | (apply ops_y;(focus rfl);(focus ((try simp only [sPu]);omega));(focus (simp (disch:=(try simp only [sPu]);omega) [hst,p9,hwq];done));(focus (simp (disch:=(try simp only [sPu]);omega) [hst,p9,hwq];try rfl))) | (apply ops_n;(focus rfl);(focus ((try simp only [sPu]);omega));(focus (first | (left;simp (disch:=(try simp only [sPu]);omega) [hst,p9,hwq];done) | (right;simp (disch:=(try simp only [sPu]);omega);done)))))
      refine oNi ?_
      simp only [Exit.then,Exit.inBlock]
      refine ⟨⟨q+1,by simp [sPu,p],by simp [dPu,pd],by simp (disch:=(try simp only [sPu]);omega) [p5],by simp (disch:=(try simp only [sPu]);omega) [p6,hvg],by simp (disch:=(try simp only [sPu]);omega) [p8],by simp (disch:=(try simp only [sPu]);omega),by simp (disch:=(try simp only [sPu]);omega) [p17],by simp (disch:=(try simp only [sPu]);omega) [p18],by simp (disch:=(try simp only [sPu]);omega) [p19],by omega,fun j y hj hy=>?_,hb5.drew⟩,?_⟩
      · by_cases hjq:j=q
        · subst hjq
          rw [List.getElem?_eq_getElem hqa] at hy
          cases hy
          exact hlx
        · exact hless j y (by omega) hy
      · have e9:getT a 9=.int .i64 (q:Int):=p9
        simp only [e9]
        simp (disch:=(try simp only [sPu]);omega)
        omega
    · rw [if_neg (by rw [decide_eq_false (by omega)];simp)]
      refine SC.wp_exit ?_
      simp only [Exit.then,Exit.inBlock,if_true]
      refine tail _ w5.drew q ⟨by simp [sPu,p],by simp [dPu,pd],by simp (disch:=(try simp only [sPu]);omega) [p5],by simp (disch:=(try simp only [sPu]);omega) [p6,hvg],by simp (disch:=(try simp only [sPu]);omega) [p8],by simp (disch:=(try simp only [sPu]);omega) [p9],by simp (disch:=(try simp only [sPu]);omega) [p17],by simp (disch:=(try simp only [sPu]);omega) [p18],by simp (disch:=(try simp only [sPu]);omega) [p19],hq,hless,fun y hy=>?_,hws,hrow5,hxr,hrows,hout5,htv,hb5w.drew⟩
      rw [List.getElem?_eq_getElem hqa] at hy
      cases hy
      exact hlx
  · have hlt1:decide ((q:Int) < (rows.length:Int))=false:=decide_eq_false (by omega)
    rw [hv] at p6
    repeat (first | (apply dr_1;(focus rfl);(focus (simp (disch:=(try simp only [sPu]);omega) [hst,p6,p8,p9,hlt1,hql];try rfl))) | (apply dr_y;(focus rfl);(focus rfl);(focus ((try simp only [sPu]);omega));(focus (simp (disch:=(try simp only [sPu]);omega) [hst,p6,p8,p9,hlt1,hql];done));(focus (simp (disch:=(try simp only [sPu]);omega) [hst,p6,p8,p9,hlt1,hql];try rfl))) | (apply dr_n;(focus rfl);(focus rfl);(focus ((try simp only [sPu]);omega));(focus (first | (left;simp (disch:=(try simp only [sPu]);omega) [hst,p6,p8,p9,hlt1,hql];done) | (right;simp (disch:=(try simp only [sPu]);omega);done)))))
    refine dreg_nil ?_
    simp only [Exit.then]
    refine SC.wp_cond (t:=false) (by simp (disch:=(try simp only [sPu]);omega)) ?_
    rw [if_neg (by simp)]
    refine SC.wp_exit ?_
    simp only [Exit.then,Exit.inBlock,if_true]
    refine tail _ w5.drew q ⟨by simp [sPu,p],by simp [dPu,pd],by simp (disch:=(try simp only [sPu]);omega) [p5],by simp (disch:=(try simp only [sPu]);omega) [p6,hv],by simp (disch:=(try simp only [sPu]);omega) [p8],by simp (disch:=(try simp only [sPu]);omega) [p9],by simp (disch:=(try simp only [sPu]);omega) [p17],by simp (disch:=(try simp only [sPu]);omega) [p18],by simp (disch:=(try simp only [sPu]);omega) [p19],hq,hless,fun y hy=>?_,hws,hrow5,hxr,hrows,hout5,htv,hb5w.drew⟩
    rw [List.getElem?_eq_none (by omega)] at hy
    cases hy
theorem unk_ok (hX:stOK P X=true) (hm:P.follows .mixedOrders=true) (hT:TagT P X) (oK:FnOK P fKn) (cK:KnownC P fKn) (hf:P.funcs[f]?=some fn) (hb:fn.body.map strip=some (sc_unknown X.Tgs X.I X.Tg X.U32 fKn)) (hn:fn.ntmps=85) (hr:fn.results=#[.tmp 4]):UnkC (fun _=>True) P f:=by
  intro w fs fv ub u uc hfs hlen63 hG hu huc
  have hst:=st_facts hX
  refine fCa hf hb hn (by simp) fun a0 hs hd ha=>?_
  have h0:=ha 0 _ rfl
  have h1:=ha 1 _ rfl
  simp only [List.getElem_toArray,List.getElem_cons_zero,List.getElem_cons_succ] at h0 h1
  refine SC.wp_seq (SC.wp_reg ?_)
  repeat (first | (apply ops_1;(focus (simp (disch:=(try simp only [sPu]);omega) ;try rfl))) | (apply ops_y;(focus rfl);(focus ((try simp only [sPu]);omega));(focus (simp (disch:=(try simp only [sPu]);omega);done));(focus (simp (disch:=(try simp only [sPu]);omega) ;try rfl))) | (apply ops_n;(focus rfl);(focus ((try simp only [sPu]);omega));(focus (first | (left;simp (disch:=(try simp only [sPu]);omega);done) | (right;simp (disch:=(try simp only [sPu]);omega);done)))))
  refine oNi (SC.wp_seq (SC.wp_reg ?_))
  iterate 1 (first | (apply ops_1;(focus (simp (disch:=(try simp only [sPu]);omega) [h0];try rfl))) | (apply ops_y;(focus rfl);(focus ((try simp only [sPu]);omega));(focus (simp (disch:=(try simp only [sPu]);omega) [h0];done));(focus (simp (disch:=(try simp only [sPu]);omega) [h0];try rfl))) | (apply ops_n;(focus rfl);(focus ((try simp only [sPu]);omega));(focus (first | (left;simp (disch:=(try simp only [sPu]);omega) [h0];done) | (right;simp (disch:=(try simp only [sPu]);omega);done)))))
  refine ops_call oK (cK w fs fv hfs hlen63) (by simp (disch:=(try simp only [sPu]);omega)) ?_
  rintro e w2 ⟨rfl,hb2⟩
  refine ⟨_,rfl,?_⟩
  repeat (first | (apply ops_1;(focus (simp (disch:=(try simp only [sPu]);omega) ;try rfl))) | (apply ops_y;(focus rfl);(focus ((try simp only [sPu]);omega));(focus (simp (disch:=(try simp only [sPu]);omega);done));(focus (simp (disch:=(try simp only [sPu]);omega) ;try rfl))) | (apply ops_n;(focus rfl);(focus ((try simp only [sPu]);omega));(focus (first | (left;simp (disch:=(try simp only [sPu]);omega);done) | (right;simp (disch:=(try simp only [sPu]);omega);done)))))
  refine oNi (SC.wp_seq (SC.wp_reg ?_))
  repeat (first | (apply ops_1;(focus (simp (disch:=(try simp only [sPu]);omega) ;try rfl))) | (apply ops_y;(focus rfl);(focus ((try simp only [sPu]);omega));(focus (simp (disch:=(try simp only [sPu]);omega);done));(focus (simp (disch:=(try simp only [sPu]);omega) ;try rfl))) | (apply ops_n;(focus rfl);(focus ((try simp only [sPu]);omega));(focus (first | (left;simp (disch:=(try simp only [sPu]);omega);done) | (right;simp (disch:=(try simp only [sPu]);omega);done)))))
  refine oNi (SC.wp_seq (SC.wp_seq (SC.wp_reg ?_)))
  obtain ⟨l,hl⟩:∃ l,l=u.take most:=⟨_,rfl⟩
  have hll:l.length≤u.length:=by rw [hl,List.length_take];omega
  have hlm:l.length≤32767:=by rw [hl,List.length_take];exact Nat.min_le_left _ _
  have hmin:(if (32767:Int) < (u.length:Int) then (32767:Int) else (u.length:Int))=(l.length:Int):=by
    rw [hl,List.length_take,show most=32767 from rfl]
    split <;> omega
  have hmin2:(if (u.length:Int) < 32767 then (u.length:Int) else (32767:Int))=(l.length:Int):=by
    rw [hl,List.length_take,show most=32767 from rfl]
    split <;> omega
  have hlc:(l.length:Int)≤(uc:Int):=by omega
  repeat (first | (apply ops_1;(focus (simp (disch:=(try simp only [sPu]);omega) [hst,h1,hmin,hmin2,hlc];try rfl))) | (apply ops_y;(focus rfl);(focus ((try simp only [sPu]);omega));(focus (simp (disch:=(try simp only [sPu]);omega) [hst,h1,hmin,hmin2,hlc];done));(focus (simp (disch:=(try simp only [sPu]);omega) [hst,h1,hmin,hmin2,hlc];try rfl))) | (apply ops_n;(focus rfl);(focus ((try simp only [sPu]);omega));(focus (first | (left;simp (disch:=(try simp only [sPu]);omega) [hst,h1,hmin,hmin2,hlc];done) | (right;simp (disch:=(try simp only [sPu]);omega);done)))))
  refine oNi ?_
  simp only [Exit.then]
  refine gen_act (fun a6=>a6.tmps.size=85∧a6.defers=[]∧getT a6 5=.int .u32 0∧getT a6 6=.slice none 0 0∧getT a6 17=.slice ub l.length uc∧getT a6 18=.int .i64 (l.length:Int)∧getT a6 19=.int .i64 0)
    ⟨by simp [sPu,hs],by simp [dPu,hd],by simp (disch:=(try simp only [sPu]);omega),by simp (disch:=(try simp only [sPu]);omega),by simp (disch:=(try simp only [sPu]);omega),by simp (disch:=(try simp only [sPu]);omega),by simp (disch:=(try simp only [sPu]);omega)⟩ ?_
  rintro a6 ⟨p,pd,p5,p6,p17,p18,p19⟩
  refine SC.wp_block (SC.wp_loop (fun a' w'=>∃ (i:Nat) (acc:List (Nat × Bytes)) (rows:List (Value × Value)) (v:Value),UL X ub uc l w i acc rows v a' w'∧i≤l.length∧acc=(l.take i).foldl (fun acc t=>insTag t acc) [])
    (fun a' _=>match getT a' 19 with | .int _ m=>(l.length - m).toNat | _=>0) ⟨0,[],[],.slice none 0 0,⟨p,pd,p5,p6,p17,p18,p19,⟨rfl,fun i x r hx=>by simp at hx⟩,Out2.nil _ _ _,hb2⟩,Nat.zero_le _,rfl⟩ ?_)
  clear p pd p5 p6 p17 p18 p19 a6
  rintro a w3 ⟨i,acc,rows,v,hul,hil,hacc⟩
  have hul':=hul
  obtain ⟨p,pd,p5,p6,p17,p18,p19,hrows,hout,hbel⟩:=hul'
  refine SC.wp_seq (SC.wp_reg ?_)
  repeat (first | (apply ops_1;(focus (simp (disch:=(try simp only [sPu]);omega) [p18,p19];try rfl))) | (apply ops_y;(focus rfl);(focus ((try simp only [sPu]);omega));(focus (simp (disch:=(try simp only [sPu]);omega) [p18,p19];done));(focus (simp (disch:=(try simp only [sPu]);omega) [p18,p19];try rfl))) | (apply ops_n;(focus rfl);(focus ((try simp only [sPu]);omega));(focus (first | (left;simp (disch:=(try simp only [sPu]);omega) [p18,p19];done) | (right;simp (disch:=(try simp only [sPu]);omega);done)))))
  refine oNi ?_
  simp only [Exit.then]
  refine SC.wp_seq (SC.wp_cond (t:=decide ((i:Int) < (l.length:Int))) (by simp (disch:=(try simp only [sPu]);omega)) ?_)
  by_cases hlt:i < l.length
  · rw [if_pos (decide_eq_true (by omega))]
    refine SC.wp_skip ?_
    simp only [Exit.then]
    have hiu:u[i]?=some l[i]:=by
      have:(u.take most)[i]?=some l[i]:=by rw [← hl];exact List.getElem?_eq_getElem hlt
      rw [List.getElem?_take] at this
      split at this
      · exact this
      · cases this
    rcases hu with hu | ⟨b,o,hub,hbB,hall⟩
    · rw [hu] at hiu
      simp at hiu
    obtain ⟨hx4,vb,vc,hrng,hbs,hvc⟩:=hall i _ hiu
    have haccl:acc.length≤32767:=by
      rw [hacc]
      have:=foldl_ins_length (l.take i) []
      simp only [List.length_take,List.length_nil] at this
      omega
    refine SC.wp_seq (unk_body hX hm hT (ub:=ub) (uc:=uc) (l:=l) (w:=w) (i:=i) (acc:=acc) (rows:=rows) (v:=v) (b:=b) (o:=o) (x:=l[i]) ⟨by simpa [sPu] using p,by simpa [dPu] using pd,by simp (disch:=(try simp only [sPu]);omega) [p5],by simp (disch:=(try simp only [sPu]);omega) [p6],by simp (disch:=(try simp only [sPu]);omega) [p17],by simp (disch:=(try simp only [sPu]);omega) [p18],by simp (disch:=(try simp only [sPu]);omega) [p19],hrows,hout,hbel⟩ hlt hub hbB hx4 hrng hbs hvc haccl fun a' w' rows' v' hul2=>?_)
    obtain ⟨z,zd,z5,z6,z17,z18,z19,hrows2,hout2,hbel2⟩:=hul2
    simp only [Exit.then]
    have hwi:IntKind.i64.wrap ((i:Int)+1)=(i:Int)+1:=w64q (by omega) (by omega)
    refine SC.wp_reg ?_
    repeat (first | (apply ops_1;(focus (simp (disch:=(try simp only [sPu]);omega) [z19,hwi];try rfl))) | (apply ops_y;(focus rfl);(focus ((try simp only [sPu]);omega));(focus (simp (disch:=(try simp only [sPu]);omega) [z19,hwi];done));(focus (simp (disch:=(try simp only [sPu]);omega) [z19,hwi];try rfl))) | (apply ops_n;(focus rfl);(focus ((try simp only [sPu]);omega));(focus (first | (left;simp (disch:=(try simp only [sPu]);omega) [z19,hwi];done) | (right;simp (disch:=(try simp only [sPu]);omega);done)))))
    refine oNi ?_
    refine ⟨⟨i+1,insTag l[i] acc,rows',v',⟨by simp [sPu,z],by simp [dPu,zd],by simp (disch:=(try simp only [sPu]);omega) [z5],by simp (disch:=(try simp only [sPu]);omega) [z6],by simp (disch:=(try simp only [sPu]);omega) [z17],by simp (disch:=(try simp only [sPu]);omega) [z18],by simp (disch:=(try simp only [sPu]);omega),hrows2,hout2,hbel2⟩,by omega,?_⟩,?_⟩
    · rw [List.take_add_one,List.getElem?_eq_getElem hlt,Option.toList_some,List.foldl_append,← hacc]
      rfl
    · have e19:getT a 19=.int .i64 (i:Int):=p19
      simp only [e19]
      simp (disch:=(try simp only [sPu]);omega)
      omega
  · rw [if_neg (by rw [decide_eq_false (by omega)];simp)]
    refine SC.wp_exit ?_
    simp only [Exit.then,Exit.inBlock,if_true]
    refine SC.wp_seq (SC.wp_reg ?_)
    repeat (first | (apply ops_1;(focus (simp (disch:=(try simp only [sPu]);omega) [p6];try rfl))) | (apply ops_y;(focus rfl);(focus ((try simp only [sPu]);omega));(focus (simp (disch:=(try simp only [sPu]);omega) [p6];done));(focus (simp (disch:=(try simp only [sPu]);omega) [p6];try rfl))) | (apply ops_n;(focus rfl);(focus ((try simp only [sPu]);omega));(focus (first | (left;simp (disch:=(try simp only [sPu]);omega) [p6];done) | (right;simp (disch:=(try simp only [sPu]);omega);done)))))
    refine oNi (SC.wp_ret ?_)
    have hfin:acc=unknown u:=by
      rw [hacc,show i=l.length by omega,List.take_length,hl]
      rfl
    obtain ⟨base,cap,hv,hvc,hv2⟩:=hout.at
    rw [← hrows.1,hfin] at hv
    refine ret_tmp hr (by simp [dPu,pd]) ⟨base,cap,by rw [← hv];simp (disch:=(try simp only [sPu]);omega),?_,hbel⟩
    rcases hv2 with h0 | ⟨g,cur,rfl,h2,h3,h4,h5⟩
    · refine .inl (List.length_eq_zero_iff.1 ?_)
      rw [← hfin,hrows.1,h0]
      rfl
    · refine .inr ⟨g,0,rfl,(Array.getElem?_eq_some_iff.1 h3).1,fun j x hx=>?_⟩
      rw [← hfin] at hx
      have hjl:j < rows.length:=by rw [← hrows.1];exact (List.getElem?_eq_some_iff.1 hx).1
      obtain ⟨g',cap',hv',hg',hc',hr'⟩:=hout.read (List.getElem?_eq_getElem hjl)
      obtain ⟨t1,t2,vb,vc,t3,t4,t5⟩:=hrows.2 j x rows[j] hx (List.getElem?_eq_getElem hjl)
      rw [← hfin,hrows.1] at hv
      rw [hv] at hv'
      cases hv'
      refine ⟨t2,vb,vc,?_,?_,t5⟩
      · rw [Nat.zero_add,hr',t1,t3]
      · exact bytesAt_mono t4 (fun k hk=>Nat.lt_of_lt_of_le hk hbel.size) fun k hk=>hbel.block k hk
end
end Go.Proofs.Ytjbbohfaihkolaa.K
