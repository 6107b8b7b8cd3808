/- More operations: boxes, slices, copies, appends from any source, guards. No condition. -/
import Derived.Test.YtioodpjcpadkoaaK12
import Derived.Test.YtioodpjcpadkoaaS1
import Derived.Laws.IdiomCopy
import Derived.Laws.OwnMore
namespace Go.Proofs.Ytioodpjcpadkoaa.K
open Go Go.RowKit Go.Proofs.Ytioodpjcpadkoaa.T
set_option linter.unusedSimpArgs false
set_option linter.unusedVariables false

theorem run_append_src {P : Program} (w : World) (base : Nat) (t tx ty e : TypeId) (i : TypeInfo) (z : Value) (size bytes : Nat) (ht : P.underlying t = some (.slice e)) (hi : P.info? e = some i) (hz : i.zero = some z)
    (hsize : i.size = size) (hby : i.bytes = bytes) (hzs : z.cells.size = size) (hsz : 0 < size)
    (v : Value) (n : Nat) (xs : List Value) (hown : w.ownsRow base e size v n xs)
    (x : Value) (m : Nat) (news : List Value) (hs : Src P size tx x m news w)
    (h63 : n + m ≤ maxLen) (hbytes : (n + m) * bytes ≤ 140737488355328) (hbase : base ≤ w.heap.size) :
    ∃ v' w', (Builtin.append_ #[t, tx] ty #[v, x]).run P w = .ok v' w' ∧ w'.ownsRow base e size v' (n + m) (xs ++ news) ∧ w.grownBy w' v.ownBlock := by
  subst hsize
  subst hby
  have hl := hs.newsLen
  have h1 := hs.one
  have hsmall : n + m ≤ 9223372036854775807 := by simp only [maxLen] at h63; omega
  have hlen : (xs ++ news).length = (n + m) * i.size := by rw [List.length_append, hown.1, hl, Nat.add_mul]
  have grown : ∀ (old : Nat), old < n + m → ∀ (row : Option Nat),
      (w.drew.alloc (.cells ((xs ++ news).toArray ++ Builtin.zeroCells z.cells (grownCap w (n + m) old e - (n + m))) e)).ownsRow base e i.size
        (.slice (some ⟨w.heap.size, 0, none⟩) (n + m) (grownCap w (n + m) old e)) (n + m) (xs ++ news) ∧
      w.grownBy (w.drew.alloc (.cells ((xs ++ news).toArray ++ Builtin.zeroCells z.cells (grownCap w (n + m) old e - (n + m))) e)) row := by
    intro old ho row
    have hge := grownCap_ge w (n + m) old e
    have hcm : grownCap w (n + m) old e ≤ maxLen := grownCap_le_maxLen w (n + m) old e h63
    refine ⟨⟨hlen, .inr ⟨w.heap.size, _, _, rfl, hbase, heap_alloc_new w.drew _, hge, hcm, ?_, ?_⟩⟩, ⟨rfl, rfl, rfl, by simp, fun k hk _ => Below.heap_alloc w.drew _ k hk⟩⟩
    · rw [Array.size_append, List.size_toArray, hlen, size_zeroCells, hzs, ← Nat.add_mul]
      congr 1
      omega
    · rw [Array.toList_append, ← hlen]
      exact List.take_left
  rcases hown.2 with ⟨rfl, rfl⟩ | ⟨g, cap, cur, rfl, hbg, hg, hnc, hcm, hcs, htake⟩
  · have hx : xs = [] := List.eq_nil_of_length_eq_zero (by simpa using hown.1)
    subst hx
    by_cases hm : m = 0
    · subst hm
      have hn : news = [] := List.eq_nil_of_length_eq_zero (by simpa using hl)
      subst hn
      refine ⟨.slice none 0 0, w, ?_, World.ownsRow_nil w base e i.size, ⟨rfl, rfl, rfl, Nat.le_refl _, fun _ _ _ => rfl⟩⟩
      rcases hs.kind with ⟨e', hk⟩ | hk <;> simp [Builtin.append_, run_underlying ht, run_underlying hk, sizeOf, typeInfo, hi, hs.len, hs.cells]
    · have hr := run_append_grow_src (P := P) w t tx ty e i z ht hi hz none 0 0 [] (run_firstCells_none w.drew i.size 0 0 0) x m news hs (by omega) (by omega) (growslice_fits (by omega) (by simpa using hbytes))
      have hgr := grown 0 (by omega) (Value.ownBlock (.slice none 0 0))
      simp only [Nat.zero_add, List.nil_append] at hgr hr ⊢
      exact ⟨_, _, hr, hgr.1, hgr.2⟩
  · by_cases hroom : n + m ≤ cap
    · have hfit : n * i.size + news.length ≤ cur.size := by rw [hl, hcs, ← Nat.add_mul]; exact Nat.mul_le_mul_right _ hroom
      have hst := run_storeCells_at P g (n * i.size) e news 0 cur w hg (by simpa using hfit) h1
      simp only [Nat.add_zero] at hst
      have hr : (Builtin.append_ #[t, tx] ty #[.slice (some ⟨g, 0, none⟩) n cap, x]).run P w = .ok (.slice (some ⟨g, 0, none⟩) (n + m) cap) (w.setRow g (cur.toList.take (n * i.size) ++ news ++ cur.toList.drop (n * i.size + news.length)).toArray) := by
        rcases hs.kind with ⟨e', hk⟩ | hk <;> simp [Builtin.append_, run_underlying ht, run_underlying hk, sizeOf, typeInfo, hi, hs.len, hroom, hs.cells, add_none] <;> simp [hst]
      refine ⟨_, _, hr, ⟨hlen, .inr ⟨g, cap, _, rfl, hbg, setRow_heap w g cur _ e _ hg, hroom, hcm, ?_, ?_⟩⟩, ⟨rfl, rfl, rfl, by simp, fun k _ hk => setRow_other w g k _ (fun e => hk (by simp [Value.ownBlock, e]))⟩⟩
      · simp only [List.size_toArray, List.length_append, List.length_take, List.length_drop, Array.length_toList]
        omega
      · rw [htake, ← hlen]
        exact List.take_left
    · have holds : ∀ j u, xs[j]? = some u → w.cell? ((⟨g, 0, none⟩ : Addr).add j) = some u := hown.cells (g := g) rfl
      have hr := run_append_grow_src (P := P) w t tx ty e i z ht hi hz (some ⟨g, 0, none⟩) n cap xs (run_firstCells_some w.drew i.size n ⟨g, 0, none⟩ n cap xs hown.1 (by simpa using holds)) x m news hs (by omega) (by omega) (growslice_fits (by omega) hbytes)
      have hgr := grown cap (by omega) (Value.ownBlock (.slice (some ⟨g, 0, none⟩) n cap))
      exact ⟨_, _, hr, hgr.1, hgr.2⟩

section
variable {P : Program} {a : Act} {w : World} {K : Act → World → Prop} {d : Option Tmp} {g : Option (Nat × Bool)}

/-- octets behind octets, from any source -/
theorem opw_appendU8 {T Tx tU8 B : Nat} {x y : Operand} {dv xv : Value} {xs bs : Bytes} {ts : Array TypeId} (hT : u8sB P T tU8 = true) (hx : a.eval x = dv) (hy : a.eval y = xv) (hts : ts = #[T, Tx]) (ho : Own tU8 w B dv xs) (hB : B ≤ w.heap.size)
    (hs : Src P 1 Tx xv bs.length (cellsOf bs) w) (hlen : xs.length + bs.length ≤ lim)
    (h : ∀ dv' w', Own tU8 w' B dv' (xs ++ bs) → Below B w w' → B ≤ w'.heap.size → w.grownBy w' dv.ownBlock → K (a.put d dv') w') : opw P ⟨d, .call ⟨.builtin .append, #[x, y], ts⟩, g⟩ a w K := by
  subst hts
  obtain ⟨hu, i, hi, hz, hs1, hby⟩ := u8s_of hT
  have hlim : lim = 70368744177664 := rfl
  refine opw_of fun o next Q hd hop hn => ?_
  obtain ⟨v', w', hr, h2, h3⟩ := run_append_src (P := P) w B T Tx o.type tU8 i (.int .u8 0) 1 1 hu hi hz hs1 hby rfl (by decide) dv xs.length (cellsOf xs) ho xv bs.length (cellsOf bs) hs (by simp only [maxLen]; omega) (by omega) hB
  have hop' : o.op = .call ⟨.builtin .append, #[x, y], #[T, Tx]⟩ := stripOp_eq (by simp) hop
  have hr' : (execOp a.eval o).run P w = .ok (.value v') w' := by
    simp [execOp, hop', resolve, invoke, builtin, hx, hy, hr]
  rw [hr', Oper.upon_value, hd]
  refine hn _ _ (h v' w' ?_ ((Below.refl B w).grown h3 hB (fun k hk => own_u8 ho k hk)) (Nat.le_trans hB h3.size) h3)
  unfold Own
  rw [cellsOf_append, List.length_append]
  exact h2

/-- a slice's first so many -/
theorem opw_take {T E n len cap hi_ : Nat} {base : Option Addr} {k : IntKind} {x y : Operand} (hT : sliceB P T E n = true) (hx : a.eval x = .slice base len cap) (hy : a.eval y = .int k (hi_ : Int)) (hh : hi_ ≤ cap)
    (h : K (a.put d (.slice base hi_ cap)) w) : opw P ⟨d, .slice T x none (some y) none, g⟩ a w K := by
  obtain ⟨hu, i, hi, hs⟩ := slice_of hT
  refine opw_value (by simp) (fun p hp => ?_) h
  have hb : (Instr.sliceBounds true len cap none (some (.int k (hi_ : Int))) none).run P w = .ok (0, hi_, cap) w := by
    simp [Instr.sliceBounds, run_sliceBound, hh]
  simp [execOp, hp, hx, hy, Instr.sliceAt, Instr.slice, run_underlying hu, hb, sizeOf, typeInfo, hi, add_none]
  intro hc
  cases base with
  | none => rfl
  | some ad =>
    simp [Addr.add]

theorem opw_min {x y : Operand} {k : IntKind} {m n : Int} {ts : Array TypeId} (hx : a.eval x = .int k m) (hy : a.eval y = .int k n) (h : K (a.put d (.int k (if n < m then n else m))) w) :
    opw P ⟨d, .call ⟨.builtin .min, #[x, y], ts⟩, g⟩ a w K := by
  refine opw_value (by simp) (fun p hp => ?_) h
  simp [execOp, hp, hx, hy, resolve, invoke, builtin, Builtin.min_, Builtin.min2]

theorem opw_max {x y : Operand} {k : IntKind} {m n : Int} {ts : Array TypeId} (hx : a.eval x = .int k m) (hy : a.eval y = .int k n) (h : K (a.put d (.int k (if n > m then n else m))) w) :
    opw P ⟨d, .call ⟨.builtin .max, #[x, y], ts⟩, g⟩ a w K := by
  refine opw_value (by simp) (fun p hp => ?_) h
  simp [execOp, hp, hx, hy, resolve, invoke, builtin, Builtin.max_, Builtin.max2]

/-- a variable that begins as a value -/
theorem opw_box {T : Nat} {x : Operand} {v : Value} (hx : a.eval x = v) (h : K (a.put d (.pointer (some ⟨w.heap.size, 0, none⟩))) (w.alloc (.cells v.cells T))) :
    opw P ⟨d, .box T x, g⟩ a w K := by
  refine opw_value (w' := w.alloc (.cells v.cells T)) (by simp) (fun p hp => ?_) h
  simp [execOp, hp, Instr.box, hx, newVar, newRow]

theorem opsw_yes {all : List SOp} {s : SOp} {r : List SOp} {j dj : Nat} {want : Bool} (hg : s.guard = some (j, want)) (hj : (all[j]?).bind (·.dst) = some dj) (hlt : dj < a.tmps.size) (hb : getT a dj = .bool want)
    (h : opw P s a w (opsw P all r K)) : opsw P all (s :: r) K a w := by
  unfold opsw
  rw [hg]
  exact ⟨dj, want, hj, hlt, .inl hb, by rw [if_pos rfl]; exact h⟩
theorem opsw_no {all : List SOp} {s : SOp} {r : List SOp} {j dj : Nat} {want : Bool} (hg : s.guard = some (j, want)) (hj : (all[j]?).bind (·.dst) = some dj) (hlt : dj < a.tmps.size) (hb : getT a dj = .bool !want ∨ getT a dj = undef)
    (h : opsw P all r K (a.put s.dst undef) w) : opsw P all (s :: r) K a w := by
  unfold opsw
  rw [hg]
  exact ⟨dj, !want, hj, hlt, hb.imp id (fun h => ⟨h, rfl⟩), by rw [if_neg (by cases want <;> simp)]; exact h⟩

theorem opw_andOne {T T' : TypeId} {x : Operand} {m : Int} (hx : a.eval x = .int .i64 m) (h : K (a.put d (.int .i64 (m % 2))) w) : opw P ⟨d, .binOp .and T x (.const (.int .i64 1)) T', g⟩ a w K := by
  refine opw_value (by simp) (fun p hp => ?_) h
  have e : IntKind.i64.wrap (((BitVec.ofInt IntKind.i64.bits m) &&& (BitVec.ofInt IntKind.i64.bits 1)).toNat : Int) = m % 2 := by
    have h1 : ((BitVec.ofInt 64 m) &&& (BitVec.ofInt 64 1)).toNat = (m % 2).toNat := by
      rw [BitVec.toNat_and]
      have e1 : (BitVec.ofInt 64 m).toNat = (m % 18446744073709551616).toNat := by simp [BitVec.toNat_ofInt]
      have e2 : (BitVec.ofInt 64 1).toNat = 2 ^ 1 - 1 := by decide
      rw [e1, e2, Nat.and_two_pow_sub_one_eq_mod]
      omega
    show IntKind.i64.wrap (((BitVec.ofInt 64 m) &&& (BitVec.ofInt 64 1)).toNat : Int) = _
    rw [h1]
    have h2 : m % 2 = 0 ∨ m % 2 = 1 := by omega
    rcases h2 with h2 | h2 <;> rw [h2] <;> decide
  simp only [execOp, hp, hx, eval_const]
  simp [run_eqGuard_int, binOp, Op.intBits]
  exact e

theorem opw_mkU8s {T tU8 n : Nat} {x y : Operand} {k k' : IntKind} (hT : u8sB P T tU8 = true) (hx : a.eval x = .int k (n : Int)) (hy : a.eval y = .int k' (n : Int)) (hn : n ≤ 1000)
    (h : ∀ w' : World, w' = w.alloc (.cells (madeCells #[.int .u8 0] (n * 1)) tU8) → K (a.put d (.slice (some ⟨w.heap.size, 0, none⟩) n n)) w') : opw P ⟨d, .makeSlice T x y, g⟩ a w K := by
  obtain ⟨hu, i, hi, hz, hs1, hby⟩ := u8s_of hT
  have hr := run_make (P := P) w T tU8 i (.int .u8 0) hu hi hz k k' n n (by omega) (Int.le_refl _) (by rw [hby]; omega) (by omega)
  simp only [Int.toNat_natCast, hs1] at hr
  refine opw_value (by simp) (fun p hp => ?_) (h _ rfl)
  simp only [execOp, hp, hx, hy]
  simp [hr, Value.cells]

end
end Go.Proofs.Ytioodpjcpadkoaa.K
