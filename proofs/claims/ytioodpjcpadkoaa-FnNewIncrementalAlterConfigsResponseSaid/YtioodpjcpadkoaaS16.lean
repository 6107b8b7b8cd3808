/- A new message in memory says what the defaults say. No condition. -/
import Derived.Test.YtioodpjcpadkoaaS15
namespace Go.Proofs.Ytioodpjcpadkoaa.K
open Go Go.RowKit Go.Proofs.Ytioodpjcpadkoaa.T
set_option linter.unusedSimpArgs false
set_option linter.unusedVariables false
set_option maxHeartbeats 4000000

def intIs (k : IntKind) (n : Int) : Option Value → Bool
  | some (.int k' m) => k' == k && m == n
  | _ => false
def nilSlice : Option Value → Bool
  | some (.slice none 0 _) => true
  | _ => false
def nilPtr : Option Value → Bool
  | some (.pointer none) => true
  | _ => false
def nilMap : Option Value → Bool
  | some (.map none) => true
  | _ => false
def emptyStr : Option Value → Bool
  | some (.string s) => s.data.toList.length == 0
  | _ => false
def boolIs (n : Int) : Option Value → Bool
  | some (.bool x) => n % 2 == (if x then 1 else 0)
  | _ => false

/-- the cell (or cells) of a kind are as by default -/
def defPrim (get : Nat → Option Value) (nul : Bool) (n : Int) (o : Nat) : PK → Bool
  | .bool => boolIs n (get o)
  | .i8 => intIs .i8 n (get o)
  | .i16 => intIs .i16 n (get o)
  | .i32 => intIs .i32 n (get o)
  | .i64 => intIs .i64 n (get o)
  | .u16 => intIs .u16 n (get o)
  | .uuid => (List.range 16).all fun j => intIs .u8 0 (get (o + j))
  | .str => if nul then nilPtr (get o) else emptyStr (get o)
  | .bytes => nilSlice (get o)
def defTags (get : Nat → Option Value) (o : Nat) : Option (Nat × Nat) → Bool
  | none => true
  | some (_, off) => nilMap (get (o + off))
mutual
def defTy (get : Nat → Option Value) (h : Hd) (o : Nat) : Ty → Bool
  | .prim k => defPrim get (decide (0 ≤ h.null)) h.dflt o k
  | .list _ _ _ _ => nilSlice (get o)
  | .struct _ _ _ tags fs => if 0 ≤ h.null then nilPtr (get o) else defOK get o fs && defTags get o tags
def defOK (get : Nat → Option Value) (o : Nat) : Fs → Bool
  | .nil => true
  | .cons h ty r => defTy get h (o + h.off) ty && defOK get o r
end

section
variable {G : List (Nat × Bytes) → Prop} {w : World} {F : Nat → Prop} {b : Nat} {get : Nat → Option Value}

theorem defTags_ok (hG : G []) (hg : ∀ o v, get o = some v → w.cell? ⟨b, o, none⟩ = some v) (flex : Bool) (o : Nat) (tags : Option (Nat × Nat)) : defTags get o tags = true →
    (match tags with | none => ([] : List (Nat × Bytes)) = [] | some (_, off) => flex = true → HTags G w F b (o + off) []) := by
  intro h
  cases tags with
  | none => rfl
  | some x =>
    obtain ⟨f, off⟩ := x
    intro _
    simp only [defTags] at h
    unfold nilMap at h
    split at h <;> try (simp at h; done)
    rename_i hv
    exact ⟨hG, rfl, Nat.zero_le _, fun x hx => by simp at hx, .inl ⟨hg _ _ hv, rfl⟩⟩

theorem defPrim_ok (hg : ∀ o v, get o = some v → w.cell? ⟨b, o, none⟩ = some v) (hd : Hd) (k : PK) (o : Nat) (h : defPrim get (decide (0 ≤ hd.null)) hd.dflt o k = true) :
    HPrim w F (decide (0 ≤ hd.null)) b o (.mk hd.dflt [] (decide (0 ≤ hd.null)) [] []) k := by
  have ints : ∀ (kk : IntKind), intIs kk hd.dflt (get o) = true → ∃ v, w.cell? ⟨b, o, none⟩ = some v ∧ v = .int kk hd.dflt := by
    intro kk h
    unfold intIs at h
    split at h <;> try (simp at h; done)
    rename_i k' m hv
    simp at h
    obtain ⟨rfl, rfl⟩ := h
    exact ⟨_, hg _ _ hv, rfl⟩
  cases k with
  | bool =>
    simp only [defPrim] at h
    unfold boolIs at h
    split at h <;> try (simp at h; done)
    rename_i x hv
    exact ⟨_, hg _ _ hv, x, rfl, by simpa [Tree.n] using h⟩
  | i8 => exact ints _ h
  | i16 => exact ints _ h
  | i32 => exact ints _ h
  | i64 => exact ints _ h
  | u16 => exact ints _ h
  | uuid =>
    intro j u hu
    simp only [defPrim, List.all_eq_true, List.mem_range] at h
    have hlen := (List.getElem?_eq_some_iff.1 hu).1
    rw [uuidOf_length] at hlen
    have h0 := h j hlen
    unfold intIs at h0
    split at h0 <;> try (simp at h0; done)
    rename_i k' m hv
    simp at h0
    obtain ⟨rfl, rfl⟩ := h0
    have hz : u = 0 := by
      simp only [uuidOf, Tree.s, List.nil_append, List.take_replicate] at hu
      rw [List.getElem?_replicate] at hu
      split at hu
      · simpa using hu.symm
      · cases hu
    subst hz
    exact hg _ _ hv
  | str =>
    simp only [defPrim] at h
    cases hn : decide (0 ≤ hd.null)
    · rw [hn] at h
      simp only [Bool.false_eq_true, if_false] at h
      unfold emptyStr at h
      split at h <;> try (simp at h; done)
      rename_i s hv
      refine ⟨_, hg _ _ hv, ?_⟩
      simp only [PVal, Bool.false_eq_true, if_false]
      refine ⟨s, rfl, ?_, Nat.zero_le _⟩
      simp only [beq_iff_eq] at h
      exact List.eq_nil_of_length_eq_zero h
    · rw [hn] at h
      simp only [if_true] at h
      unfold nilPtr at h
      split at h <;> try (simp at h; done)
      rename_i hv
      refine ⟨_, hg _ _ hv, ?_⟩
      simp [PVal, Tree.null]
  | bytes =>
    simp only [defPrim] at h
    unfold nilSlice at h
    split at h <;> try (simp at h; done)
    rename_i cap hv
    refine ⟨_, hg _ _ hv, none, cap, by simp [Tree.s], ?_⟩
    cases hn : decide (0 ≤ hd.null)
    · simp only [Bool.false_and, Bool.false_eq_true, if_false]
      exact ⟨.inl ⟨rfl, rfl⟩, Nat.zero_le _, fun h => by cases h⟩
    · simp [Tree.null]

mutual
theorem defTy_ok (hG : G []) (hg : ∀ o v, get o = some v → w.cell? ⟨b, o, none⟩ = some v) (ver : Int) (flex : Bool) (hd : Hd) : ∀ (ty : Ty) (o : Nat), defTy get hd o ty = true → HTy G w F ver flex ty (decide (0 ≤ hd.null)) b o (defT hd ty)
  | .prim k, o, h => by
    simp only [defTy] at h
    simp only [HTy, defT]
    exact defPrim_ok hg hd k o h
  | .list t1 t2 t3 of, o, h => by
    simp only [defTy] at h
    simp only [HTy, defT]
    unfold nilSlice at h
    split at h <;> try (simp at h; done)
    rename_i cap hv
    refine ⟨none, cap, by rw [hg _ _ hv]; simp [Tree.l], ?_⟩
    by_cases hn : 0 ≤ hd.null
    · simp [hn, Tree.null]
    · simp [hn, Tree.null, Tree.l]
  | .struct t1 t2 t3 tags fs, o, h => by
    simp only [defTy] at h
    simp only [HTy, defT]
    by_cases hn : 0 ≤ hd.null
    · rw [if_pos hn] at h
      unfold nilPtr at h
      split at h <;> try (simp at h; done)
      rename_i hv
      simp only [hn, decide_true, if_true, Tree.null]
      exact hg _ _ hv
    · rw [if_neg hn] at h
      simp only [Bool.and_eq_true] at h
      simp only [hn, decide_false, Bool.false_eq_true, if_false]
      exact ⟨defOK_ok hG hg ver flex fs o h.1, defTags_ok hG hg flex o tags h.2⟩
theorem defOK_ok (hG : G []) (hg : ∀ o v, get o = some v → w.cell? ⟨b, o, none⟩ = some v) (ver : Int) (flex : Bool) : ∀ (fs : Fs) (o : Nat), defOK get o fs = true → HFs G w F ver flex fs b o (defL fs)
  | .nil, _, _ => by simp [HFs]
  | .cons hd ty r, o, h => by
    simp only [defOK, Bool.and_eq_true] at h
    simp only [HFs, defL, List.headD_cons, List.tail_cons]
    exact ⟨fun _ => defTy_ok hG hg ver flex hd ty (o + hd.off) h.1, defOK_ok hG hg ver flex r o h.2⟩
end
end
end Go.Proofs.Ytioodpjcpadkoaa.K
